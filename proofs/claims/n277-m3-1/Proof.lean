import JvmDerived
import JvmDerived.Pilot.@@N@@Statement
import JvmDerived.Pilot.@@N@@Code
set_option linter.unusedVariables false
set_option linter.unusedSimpArgs false
@@BLOCK:NumsL.lean.txt@@
namespace Jvm.Pilot.@@N@@
open Jvm Jvm.ClassFile Sem Op Lib Jvm.Free Jvm.Stand Jvm.LawKit Jvm.RoadKit Bundle Jvm.Pilot.@@N@@.Jvm.D
section Own
variable {p : Program} {l : Launch} {e : Env} {R : Room} {s : State} {m : MethodId} {args : Array Value} {below : List Frame} {meth : Method} {c : Code} {T : State} {locs : List Loc} {cells slots : Nat} {Z : State} {a0 : Array Value} {h : Heap}
/-- from U the run comes to the method's end, and P holds there -/
def OGo (p : Program) (e : Env) (below : List Frame) (U : State) (P : State → Outcome → Prop) : Prop :=
  ∃ t o, Steps p.tables e below U t ∧ t.status = .running ∧ Ended t below o ∧ P t o
theorem OGo.step {U U' : State} {P : State → Outcome → Prop} (k : ∀ t, Steps p.tables e below U' t → Steps p.tables e below U t) (g : OGo p e below U' P) : OGo p e below U P := by
  obtain ⟨t, o, h1, h2⟩ := g
  exact ⟨t, o, k t h1, h2⟩
def OEnd (s : State) (Q : Option Value → Heap → List Loc → Prop) (kc ks : Nat) (t : State) (o : Outcome) : Prop :=
  ∃ v L, o = .returned v ∧ Q v t.heap L ∧ FrameEnd s o t L kc ks
/-- the contract of one body, at one array of arguments and one heap -/
abbrev OMet (l : Launch) (Z : State) (y : MethodName) (bytes : ByteArray) (maxL : Nat) (ret : Option FieldType) (ws : List Jvm.Cond) (rm : Room) (as' : Array Value) (h0 : Heap) (Q : Option Value → Heap → List Loc → Prop) : Prop :=
  MetFree l y (head1 (Jvm.Cond.code y bytes maxL ret :: ws) rm) (fun a U => a = as' ∧ Z.Warmed39 U.vm ∧ U.heap = h0) (fun _ _ _ _ _ => True) (fun _ U o U' => ∃ v L, o = .returned v ∧ Q v U'.heap L ∧ FrameEnd U o U' L rm.cells rm.slots)
theorem OMet.body {y : MethodName} {bytes : ByteArray} {maxL : Nat} {ret : Option FieldType} {ws : List Jvm.Cond} {rm : Room} {as' : Array Value} {h0 : Heap} {Q : Option Value → Heap → List Loc → Prop} (hpn : plainFor y = true)
    (b : ∀ (p : Program) (e : Env) (s : State) (m : MethodId) (below : List Frame) (meth : Method) (c : Code) (s₁ : State), p.tables.exec = Jvm.exec → c.code = bytes → c.maxLocals = maxL → s.vm.findClass y.cls = some m.cls → meth.name = y.name → meth.sig.returnType = ret → meth.locks = false → Z.Warmed39 s.vm →
      Stand p l e rm s m as' below meth c s₁ [] 0 0 → s₁.heap = h0 → OGo p e below (s₁.setTop (entryFrame m as' maxL)) (OEnd s Q rm.cells rm.slots)) : OMet l Z y bytes maxL ret ws rm as' h0 Q := by
  refine MetFree.of_bodySF hpn hisR ?_
  intro p e s m args below meth c s₁ Bd hml0 hP hK
  obtain ⟨rfl, hZ, hh⟩ := hP
  exact b p e s m below meth c s₁ Bd.exec Bd.bytes hml0 (findClass_of_methodNamed Bd.named) (name_of_methodNamed Bd.named Bd.method).1 Bd.returns Bd.notSynchronized hZ (Stand.of_body Bd) (by rw [← hh, Bd.state]; rfl)
theorem own_ret (X : Stand p l e R s m args below meth c T locs cells slots) (hx : p.tables.exec = Jvm.exec) (hlk : meth.locks = false) {pc : Nat} {Ls : Array Slot} {w : Value} {t : FieldType} {i : Instr} {rest : List Value} (hret : meth.sig.returnType = some t) (hn : narrow t w = w)
    (hi : (i = .ireturn ∧ (t = .int ∨ t = .boolean ∨ t = .byte ∨ t = .char ∨ t = .short) ∧ ∃ z, w = .int z) ∨ (i = .lreturn ∧ t = .long ∧ ∃ z, w = .long z) ∨ (i = .dreturn ∧ t = .double ∧ ∃ z, w = .double z) ∨ (i = .freturn ∧ t = .float ∧ ∃ z, w = .float z) ∨ (i = .areturn ∧ t.isReference = true ∧ w.isRef = true))
    (hd : decode c.code pc = .ok (i, 1)) {Q : Option Value → Heap → List Loc → Prop} {kc ks : Nat} (hQ : Q (some w) T.heap locs) (h1 : cells ≤ kc) (h2 : slots ≤ ks) : OGo p e below (T.setTop (mkF m pc Ls (w :: rest))) (OEnd s Q kc ks) := by
  obtain ⟨fs, hr, hrun, hended, hW, hsame⟩ := X.leave (v := some w) (fun h => by rw [hret] at h; cases h) hlk
  exact ⟨_, _, retOut X hx hret hn hi hd hr, hrun, hended, _, _, rfl, hQ, ⟨_, rfl⟩, hW, hsame.mono h1 h2⟩
theorem own_retN (X : Stand p l e R s m args below meth c T locs cells slots) (hx : p.tables.exec = Jvm.exec) (hlk : meth.locks = false) {pc : Nat} {Ls : Array Slot} {z : Int32} {t : FieldType} {rest : List Value} (hret : meth.sig.returnType = some t) (ht : t = .boolean ∨ t = .byte ∨ t = .char ∨ t = .short)
    (hd : decode c.code pc = .ok (.ireturn, 1)) {Q : Option Value → Heap → List Loc → Prop} {kc ks : Nat} (hQ : Q (some (.int (nar t z))) T.heap locs) (h1 : cells ≤ kc) (h2 : slots ≤ ks) : OGo p e below (T.setTop (mkF m pc Ls (.int z :: rest))) (OEnd s Q kc ks) := by
  obtain ⟨fs, hr, hrun, hended, hW, hsame⟩ := X.leave (v := some (.int (nar t z))) (fun h => by rw [hret] at h; cases h) hlk
  exact ⟨_, _, retN X hx hret ht hd hr, hrun, hended, _, _, rfl, hQ, ⟨_, rfl⟩, hW, hsame.mono h1 h2⟩
theorem own_ret0 (X : Stand p l e R s m args below meth c T locs cells slots) (hx : p.tables.exec = Jvm.exec) (hlk : meth.locks = false) {pc : Nat} {Ls : Array Slot} (hret : meth.sig.returnType = none)
    (hd : decode c.code pc = .ok (.return_, 1)) {Q : Option Value → Heap → List Loc → Prop} {kc ks : Nat} (hQ : Q none T.heap locs) (h1 : cells ≤ kc) (h2 : slots ≤ ks) : OGo p e below (T.setTop (mkF m pc Ls [])) (OEnd s Q kc ks) := by
  obtain ⟨fs, hr, hrun, hended, hW, hsame⟩ := X.leave (v := none) (fun _ => rfl) hlk
  exact ⟨_, _, X.returnOut hx hret hd hr, hrun, hended, _, _, rfl, hQ, ⟨_, rfl⟩, hW, hsame.mono h1 h2⟩
/-- who pays a call: at these arguments and this heap -/
abbrev OBack (l : Launch) (R : Room) (p : Program) (e : Env) (below : List Frame) (s : State) (args : Array Value) (y : MethodName) (len W : Nat) (as' : Array Value) (h : Heap) (kc ks : Nat) (Q : Option Value → Heap → List Loc → Prop) : Prop :=
  Back l R p e below s args y len W (fun P a => a = as' ∧ P.U.heap = h ∧ P.cells + kc ≤ R.cells ∧ P.slots + ks ≤ R.slots) (fun P _ v B => ∃ L, Q v B.U.heap L ∧ B.locs = P.locs ++ L ∧ B.cells = P.cells + kc ∧ B.slots = P.slots + ks)
/-- a static call by the callee's contract -/
theorem own_callSK (X : Stand p l e R s m args below meth c T locs cells slots) (hx : p.tables.exec = Jvm.exec) (hZ : Z.Warmed39 s.vm) {own : String} {index : Nat} {y : MethodName} {bytes : ByteArray} {maxL : Nat} {ret : Option FieldType}
    (hown : s.vm.findClass own = some m.cls) (w1 : (Jvm.Cond.methodLink own index y).before a0 Z = true) (w2 : (Jvm.Cond.static y).before a0 Z = true) (w3 : (Jvm.Cond.initialized y.cls).before a0 Z = true)
    (w4 : (Jvm.Cond.code y bytes maxL ret).before a0 Z = true) (hy : y.cls ≠ "java/lang/invoke/MethodHandle" ∧ y.cls ≠ "java/lang/invoke/VarHandle")
    {W : Nat} {kc ks : Nat} {argsL rest : List Value} {Q : Option Value → Heap → List Loc → Prop} (hK : OBack l R p e below s args y 3 W argsL.toArray h kc ks Q) (eT : T.heap = h)
    {pc : Nat} {Ls : Array Slot} (hsize : Ls.size = c.maxLocals) (hlen : ∀ sig, parseMethodDescriptor y.desc = some sig → argsL.length = sig.parameters.length) (hW : (rest.map fun v => v.category).sum = W)
    (hd : decode c.code pc = .ok (.invokestatic index, 3)) (hc : cells + kc ≤ R.cells) (hs : slots + ks ≤ R.slots) {P : State → Outcome → Prop}
    (k : ∀ (v : Option Value) (T' : State) (L : List Loc), Stand p l e R s m args below meth c T' (locs ++ L) (cells + kc) (slots + ks) → Q v T'.heap L → OGo p e below (T'.setTop (mkF m (pc + 3) Ls (v.toList ++ rest))) P) :
    OGo p e below (T.setTop (mkF m pc Ls (argsL.reverse ++ rest))) P := by
  obtain ⟨v, vm, ⟨T', L', k', n'⟩, -, X', ⟨L, hQ, l1, y1, z1⟩, st⟩ := Jvm.LawKit.callS X hx (y := y) hown (mvT hZ w1) (mvT hZ w2) (mvT hZ w3) (mvT hZ w4) hy hK (g := mkF m pc Ls (argsL.reverse ++ rest)) rfl hsize (argsL := argsL) (rest := rest) hlen rfl
    (by show 2 * 0 + _ ≤ _; rw [hW]; omega) hd (fun _ _ => ⟨rfl, eT, hc, hs⟩)
  dsimp only [Pt.U, Pt.locs, Pt.cells, Pt.slots] at X' l1 y1 z1 st hQ
  subst l1 y1 z1
  exact OGo.step st (k v T' L X' hQ)
theorem own_callS (X : Stand p l e R s m args below meth c T locs cells slots) (hx : p.tables.exec = Jvm.exec) (hZ : Z.Warmed39 s.vm) {own : String} {index : Nat} {y : MethodName} {bytes : ByteArray} {maxL : Nat} {ret : Option FieldType}
    (hown : s.vm.findClass own = some m.cls) (w1 : (Jvm.Cond.methodLink own index y).before a0 Z = true) (w2 : (Jvm.Cond.static y).before a0 Z = true) (w3 : (Jvm.Cond.initialized y.cls).before a0 Z = true)
    (w4 : (Jvm.Cond.code y bytes maxL ret).before a0 Z = true) (hy : y.cls ≠ "java/lang/invoke/MethodHandle" ∧ y.cls ≠ "java/lang/invoke/VarHandle")
    {W : Nat} {rm : Room} {argsL rest : List Value} {Q : Option Value → Heap → List Loc → Prop} (hM : OMet l Z y bytes maxL ret [] rm argsL.toArray h Q) (eT : T.heap = h)
    {pc : Nat} {Ls : Array Slot} (hsize : Ls.size = c.maxLocals) (hlen : ∀ sig, parseMethodDescriptor y.desc = some sig → argsL.length = sig.parameters.length) (hW : (rest.map fun v => v.category).sum = W)
    (hd : decode c.code pc = .ok (.invokestatic index, 3)) (hf : rm.frames + 1 ≤ R.frames) (hl : W + (maxL + 11) + rm.locals ≤ R.locals) (hc : cells + rm.cells ≤ R.cells) (hs : slots + rm.slots ≤ R.slots) {P : State → Outcome → Prop}
    (k : ∀ (v : Option Value) (T' : State) (L : List Loc), Stand p l e R s m args below meth c T' (locs ++ L) (cells + rm.cells) (slots + rm.slots) → Q v T'.heap L → OGo p e below (T'.setTop (mkF m (pc + 3) Ls (v.toList ++ rest))) P) :
    OGo p e below (T.setTop (mkF m pc Ls (argsL.reverse ++ rest))) P := 
  own_callSK X hx hZ hown w1 w2 w3 w4 hy (backOf (W := W) hM hZ w4 w3 hf hl) eT hsize hlen hW hd hc hs k
/-- a constructor by its contract -/
theorem own_specialK (X : Stand p l e R s m args below meth c T locs cells slots) (hx : p.tables.exec = Jvm.exec) (hZ : Z.Warmed39 s.vm) {own : String} {index : Nat} {y : MethodName} {bytes : ByteArray} {maxL : Nat} (hy1 : y.name = "<init>")
    (hown : s.vm.findClass own = some m.cls) (w1 : (Jvm.Cond.methodLink own index y).before a0 Z = true) (w2 : (Jvm.Cond.instanceMethod y).before a0 Z = true)
    (w4 : (Jvm.Cond.code y bytes maxL none).before a0 Z = true) (hy : y.cls ≠ "java/lang/invoke/MethodHandle" ∧ y.cls ≠ "java/lang/invoke/VarHandle") {a : Addr}
    {W : Nat} {kc ks : Nat} {argsL rest : List Value} {Q : Option Value → Heap → List Loc → Prop} (hK : OBack l R p e below s args y 3 W (.ref a :: argsL).toArray h kc ks Q) (eT : T.heap = h)
    {pc : Nat} {Ls : Array Slot} (hsize : Ls.size = c.maxLocals) (hlen : ∀ sig, parseMethodDescriptor y.desc = some sig → argsL.length = sig.parameters.length) (hW : (rest.map fun v => v.category).sum = W)
    (hd : decode c.code pc = .ok (.invokespecial index, 3)) (hc : cells + kc ≤ R.cells) (hs : slots + ks ≤ R.slots) {P : State → Outcome → Prop}
    (k : ∀ (v : Option Value) (T' : State) (L : List Loc), Stand p l e R s m args below meth c T' (locs ++ L) (cells + kc) (slots + ks) → Q v T'.heap L → OGo p e below (T'.setTop (mkF m (pc + 3) Ls (v.toList ++ rest))) P) :
    OGo p e below (T.setTop (mkF m pc Ls (argsL.reverse ++ .ref a :: rest))) P := by
  obtain ⟨v, vm, ⟨T', L', k', n'⟩, -, X', ⟨L, hQ, l1, y1, z1⟩, st⟩ := X.specialBack hx (y := y) hy1 hown (mvT hZ w1) (mvT hZ w2) (mvT hZ w4) hy hK (g := mkF m pc Ls (argsL.reverse ++ .ref a :: rest)) rfl hsize (Steps.refl _) (a := a) (argsL := argsL) (rest := rest) hlen rfl
    (by show 2 * 0 + _ ≤ _; rw [hW]; omega) hd (fun _ _ => ⟨rfl, eT, hc, hs⟩)
  dsimp only [Pt.U, Pt.locs, Pt.cells, Pt.slots] at X' l1 y1 z1 st hQ
  subst l1 y1 z1
  exact OGo.step (fun _ kk => st.trans kk) (k v T' L X' hQ)
theorem own_special (X : Stand p l e R s m args below meth c T locs cells slots) (hx : p.tables.exec = Jvm.exec) (hZ : Z.Warmed39 s.vm) {own : String} {index : Nat} {y : MethodName} {bytes : ByteArray} {maxL : Nat} (hy1 : y.name = "<init>")
    (hown : s.vm.findClass own = some m.cls) (w1 : (Jvm.Cond.methodLink own index y).before a0 Z = true) (w2 : (Jvm.Cond.instanceMethod y).before a0 Z = true)
    (w4 : (Jvm.Cond.code y bytes maxL none).before a0 Z = true) (w3 : (Jvm.Cond.initialized y.cls).before a0 Z = true) (hy : y.cls ≠ "java/lang/invoke/MethodHandle" ∧ y.cls ≠ "java/lang/invoke/VarHandle") {a : Addr}
    {W : Nat} {rm : Room} {argsL rest : List Value} {Q : Option Value → Heap → List Loc → Prop} (hM : OMet l Z y bytes maxL none [] rm (.ref a :: argsL).toArray h Q) (eT : T.heap = h)
    {pc : Nat} {Ls : Array Slot} (hsize : Ls.size = c.maxLocals) (hlen : ∀ sig, parseMethodDescriptor y.desc = some sig → argsL.length = sig.parameters.length) (hW : (rest.map fun v => v.category).sum = W)
    (hd : decode c.code pc = .ok (.invokespecial index, 3)) (hf : rm.frames + 1 ≤ R.frames) (hl : W + (maxL + 11) + rm.locals ≤ R.locals) (hc : cells + rm.cells ≤ R.cells) (hs : slots + rm.slots ≤ R.slots) {P : State → Outcome → Prop}
    (k : ∀ (v : Option Value) (T' : State) (L : List Loc), Stand p l e R s m args below meth c T' (locs ++ L) (cells + rm.cells) (slots + rm.slots) → Q v T'.heap L → OGo p e below (T'.setTop (mkF m (pc + 3) Ls (v.toList ++ rest))) P) :
    OGo p e below (T.setTop (mkF m pc Ls (argsL.reverse ++ .ref a :: rest))) P := 
  own_specialK X hx hZ hy1 hown w1 w2 w4 hy (backOf (W := W) hM hZ w4 w3 hf hl) eT hsize hlen hW hd hc hs k
/-- an instance method by its contract -/
theorem own_virtualK (X : Stand p l e R s m args below meth c T locs cells slots) (hx : p.tables.exec = Jvm.exec) (hZ : Z.Warmed39 s.vm) {own C : String} {index : Nat} {y z : MethodName}
    (hown : s.vm.findClass own = some m.cls) (w1 : (Jvm.Cond.methodLink own index y).before a0 Z = true) (w2 : (Jvm.Cond.declares y).before a0 Z = true) (hnf : NotFace s y) (w5 : (Jvm.Cond.selects C y z).before a0 Z = true) (w6 : (Jvm.Cond.instanceMethod z).before a0 Z = true)
    (hy : y.cls ≠ "java/lang/invoke/MethodHandle" ∧ y.cls ≠ "java/lang/invoke/VarHandle") {b : Addr} (hb : Exa Z h b C)
    {W : Nat} {kc ks : Nat} {argsL rest : List Value} {Q : Option Value → Heap → List Loc → Prop} (hK : OBack l R p e below s args z 3 W (.ref b :: argsL).toArray h kc ks Q) (eT : T.heap = h)
    {pc : Nat} {Ls : Array Slot} (hsize : Ls.size = c.maxLocals) (hlen : ∀ sig, parseMethodDescriptor y.desc = some sig → argsL.length = sig.parameters.length) (hW : (rest.map fun v => v.category).sum = W)
    (hd : decode c.code pc = .ok (.invokevirtual index, 3)) (hc : cells + kc ≤ R.cells) (hs : slots + ks ≤ R.slots) {P : State → Outcome → Prop}
    (k : ∀ (v : Option Value) (T' : State) (L : List Loc), Stand p l e R s m args below meth c T' (locs ++ L) (cells + kc) (slots + ks) → Q v T'.heap L → OGo p e below (T'.setTop (mkF m (pc + 3) Ls (v.toList ++ rest))) P) :
    OGo p e below (T.setTop (mkF m pc Ls (argsL.reverse ++ .ref b :: rest))) P := by
  obtain ⟨cq, kq, qa, qb, qc⟩ := isOf hZ eT hb
  obtain ⟨v, vm, ⟨T', L', k', n'⟩, -, X', ⟨L, hQ, l1, y1, z1⟩, st⟩ := X.virtualBack hx (y := y) (z := z) hown (mvT hZ w1) (mvT hZ w2) hnf (mvT hZ w5) (mvT hZ w6) hy hK qa qc (g := mkF m pc Ls (argsL.reverse ++ .ref b :: rest)) rfl hsize (Steps.refl _) (argsL := argsL) (rest := rest) hlen rfl
    (by show 2 * 0 + _ ≤ _; rw [hW]; omega) hd (fun _ _ => ⟨rfl, eT, hc, hs⟩)
  dsimp only [Pt.U, Pt.locs, Pt.cells, Pt.slots] at X' l1 y1 z1 st hQ
  subst l1 y1 z1
  exact OGo.step (fun _ kk => st.trans kk) (k v T' L X' hQ)
theorem own_virtual (X : Stand p l e R s m args below meth c T locs cells slots) (hx : p.tables.exec = Jvm.exec) (hZ : Z.Warmed39 s.vm) {own C : String} {index : Nat} {y z : MethodName} {bytes : ByteArray} {maxL : Nat} {ret : Option FieldType}
    (hown : s.vm.findClass own = some m.cls) (w1 : (Jvm.Cond.methodLink own index y).before a0 Z = true) (w2 : (Jvm.Cond.declares y).before a0 Z = true) (hnf : NotFace s y) (w5 : (Jvm.Cond.selects C y z).before a0 Z = true) (w6 : (Jvm.Cond.instanceMethod z).before a0 Z = true)
    (hy : y.cls ≠ "java/lang/invoke/MethodHandle" ∧ y.cls ≠ "java/lang/invoke/VarHandle") (w4 : (Jvm.Cond.code z bytes maxL ret).before a0 Z = true) (w3 : (Jvm.Cond.initialized z.cls).before a0 Z = true) {b : Addr} (hb : Exa Z h b C)
    {W : Nat} {rm : Room} {argsL rest : List Value} {Q : Option Value → Heap → List Loc → Prop} (hM : OMet l Z z bytes maxL ret [] rm (.ref b :: argsL).toArray h Q) (eT : T.heap = h)
    {pc : Nat} {Ls : Array Slot} (hsize : Ls.size = c.maxLocals) (hlen : ∀ sig, parseMethodDescriptor y.desc = some sig → argsL.length = sig.parameters.length) (hW : (rest.map fun v => v.category).sum = W)
    (hd : decode c.code pc = .ok (.invokevirtual index, 3)) (hf : rm.frames + 1 ≤ R.frames) (hl : W + (maxL + 11) + rm.locals ≤ R.locals) (hc : cells + rm.cells ≤ R.cells) (hs : slots + rm.slots ≤ R.slots) {P : State → Outcome → Prop}
    (k : ∀ (v : Option Value) (T' : State) (L : List Loc), Stand p l e R s m args below meth c T' (locs ++ L) (cells + rm.cells) (slots + rm.slots) → Q v T'.heap L → OGo p e below (T'.setTop (mkF m (pc + 3) Ls (v.toList ++ rest))) P) :
    OGo p e below (T.setTop (mkF m pc Ls (argsL.reverse ++ .ref b :: rest))) P := 
  own_virtualK X hx hZ hown w1 w2 hnf w5 w6 hy hb (backOf (W := W) hM hZ w4 w3 hf hl) eT hsize hlen hW hd hc hs k
/-- an instance method that an ancestor declares, by its contract -/
theorem own_virtualUpK (X : Stand p l e R s m args below meth c T locs cells slots) (hx : p.tables.exec = Jvm.exec) (hZ : Z.Warmed39 s.vm) {own C owner : String} {index : Nat} {y z : MethodName}
    (hown : s.vm.findClass own = some m.cls) (w1 : (Jvm.Cond.methodLink own index y).before a0 Z = true) (w7 : (Jvm.Cond.sameMethod y.cls owner y.name y.desc).before a0 Z = true) (w2 : (Jvm.Cond.declares ⟨owner, y.name, y.desc⟩).before a0 Z = true) (w5 : (Jvm.Cond.selects C y z).before a0 Z = true) (w6 : (Jvm.Cond.instanceMethod z).before a0 Z = true)
    (hy : owner ≠ "java/lang/invoke/MethodHandle" ∧ owner ≠ "java/lang/invoke/VarHandle") {b : Addr} (hb : Exa Z h b C)
    {W : Nat} {kc ks : Nat} {argsL rest : List Value} {Q : Option Value → Heap → List Loc → Prop} (hK : OBack l R p e below s args z 3 W (.ref b :: argsL).toArray h kc ks Q) (eT : T.heap = h)
    {pc : Nat} {Ls : Array Slot} (hsize : Ls.size = c.maxLocals) (hlen : ∀ sig, parseMethodDescriptor y.desc = some sig → argsL.length = sig.parameters.length) (hW : (rest.map fun v => v.category).sum = W)
    (hd : decode c.code pc = .ok (.invokevirtual index, 3)) (hc : cells + kc ≤ R.cells) (hs : slots + ks ≤ R.slots) {P : State → Outcome → Prop}
    (k : ∀ (v : Option Value) (T' : State) (L : List Loc), Stand p l e R s m args below meth c T' (locs ++ L) (cells + kc) (slots + ks) → Q v T'.heap L → OGo p e below (T'.setTop (mkF m (pc + 3) Ls (v.toList ++ rest))) P) :
    OGo p e below (T.setTop (mkF m pc Ls (argsL.reverse ++ .ref b :: rest))) P := by
  obtain ⟨cq, kq, qa, qb, qc⟩ := isOf hZ eT hb
  obtain ⟨v, vm, ⟨T', L', k', n'⟩, -, X', ⟨L, hQ, l1, y1, z1⟩, st⟩ := X.virtualBackUp hx (x := y) (y := z) hown (mvT hZ w1) (mvT hZ w7) (mvT hZ w2) hy (mvT hZ w5) (mvT hZ w6) hK qa qc (g := mkF m pc Ls (argsL.reverse ++ .ref b :: rest)) rfl hsize (Steps.refl _) (argsL := argsL) (rest := rest) hlen rfl
    (by show 2 * 0 + _ ≤ _; rw [hW]; omega) hd (fun _ _ => ⟨rfl, eT, hc, hs⟩)
  dsimp only [Pt.U, Pt.locs, Pt.cells, Pt.slots] at X' l1 y1 z1 st hQ
  subst l1 y1 z1
  exact OGo.step (fun _ kk => st.trans kk) (k v T' L X' hQ)
theorem own_virtualUp (X : Stand p l e R s m args below meth c T locs cells slots) (hx : p.tables.exec = Jvm.exec) (hZ : Z.Warmed39 s.vm) {own C owner : String} {index : Nat} {y z : MethodName} {bytes : ByteArray} {maxL : Nat} {ret : Option FieldType}
    (hown : s.vm.findClass own = some m.cls) (w1 : (Jvm.Cond.methodLink own index y).before a0 Z = true) (w7 : (Jvm.Cond.sameMethod y.cls owner y.name y.desc).before a0 Z = true) (w2 : (Jvm.Cond.declares ⟨owner, y.name, y.desc⟩).before a0 Z = true) (w5 : (Jvm.Cond.selects C y z).before a0 Z = true) (w6 : (Jvm.Cond.instanceMethod z).before a0 Z = true)
    (hy : owner ≠ "java/lang/invoke/MethodHandle" ∧ owner ≠ "java/lang/invoke/VarHandle") (w4 : (Jvm.Cond.code z bytes maxL ret).before a0 Z = true) (w3 : (Jvm.Cond.initialized z.cls).before a0 Z = true) {b : Addr} (hb : Exa Z h b C)
    {W : Nat} {rm : Room} {argsL rest : List Value} {Q : Option Value → Heap → List Loc → Prop} (hM : OMet l Z z bytes maxL ret [] rm (.ref b :: argsL).toArray h Q) (eT : T.heap = h)
    {pc : Nat} {Ls : Array Slot} (hsize : Ls.size = c.maxLocals) (hlen : ∀ sig, parseMethodDescriptor y.desc = some sig → argsL.length = sig.parameters.length) (hW : (rest.map fun v => v.category).sum = W)
    (hd : decode c.code pc = .ok (.invokevirtual index, 3)) (hf : rm.frames + 1 ≤ R.frames) (hl : W + (maxL + 11) + rm.locals ≤ R.locals) (hc : cells + rm.cells ≤ R.cells) (hs : slots + rm.slots ≤ R.slots) {P : State → Outcome → Prop}
    (k : ∀ (v : Option Value) (T' : State) (L : List Loc), Stand p l e R s m args below meth c T' (locs ++ L) (cells + rm.cells) (slots + rm.slots) → Q v T'.heap L → OGo p e below (T'.setTop (mkF m (pc + 3) Ls (v.toList ++ rest))) P) :
    OGo p e below (T.setTop (mkF m pc Ls (argsL.reverse ++ .ref b :: rest))) P := 
  own_virtualUpK X hx hZ hown w1 w7 w2 w5 w6 hy hb (backOf (W := W) hM hZ w4 w3 hf hl) eT hsize hlen hW hd hc hs k
theorem own_cat {v : Value} (q : v.isRef = true) : v.category = 1 := by cases v <;> first | rfl | (simp [Value.isRef] at q)
theorem own_narR {v : Value} {t : FieldType} (q : v.isRef = true) (ht : t.isReference = true := by rfl) : narrow t v = v := by cases v <;> first | (simp [Value.isRef] at q; done) | (cases t <;> first | rfl | (cases ht))
theorem own_fitR {v : Value} {t : FieldType} (q : v.isRef = true) (ht : t.isReference = true := by rfl) : fits t v = true := by cases v <;> first | (simp [Value.isRef] at q; done) | (cases t <;> first | rfl | (cases ht))
theorem own_store1 {l l' : Array Slot} {i : Nat} {v : Value} {o : Slot} (hold : l[i]? = some o) (ho : o = .unset ∨ ∃ w, o = .val w ∧ w.category = 1) (hv : v.category = 1) (hl' : l.setIfInBounds i (.val v) = l' := by rfl) : storeLocals l i v = some l' := by
  rw [XS.store1 hold ho hv, hl']
end Own
theorem own_eqv {args : Array Value} {s : State} {a b : Term} {y : Value} (h : (Jvm.Cond.eq a b).value args s none s [] = some true) (hb : b.eval args s none [] s = some y) : a.eval args s none [] s = some y := by
  cases ha : a.eval args s none [] s with
  | none => simp [Cond.value, ha] at h
  | some x => cases x <;> cases y <;> simp_all [Cond.value]
theorem own_len {args : Array Value} {s : State} {t : Term} {a : Addr} {cl : Cell} {ty : FieldType} {n : Int32} (ev : t.eval args s none [] s = some (.ref a)) (A : Arr s s.heap a cl ty) (h : (Term.length t).eval args s none [] s = some (.int n)) : cl.slots.size < 2 ^ 31 ∧ cl.slots.size.toInt32 = n := by
  have ha : s.arrayAt? a = some cl := Arr.fin (State.WarmedH.refl s).alike A
  by_cases q : cl.slots.size < 2 ^ 31
  · rw [len_f ev ha q] at h
    exact ⟨q, Value.int.inj (Option.some.inj h)⟩
  · simp [Term.eval, ev, ha] at h
    omega
theorem own_elem {args : Array Value} {s : State} {t : Term} {a : Addr} {cl : Cell} {ty : FieldType} {j : Int32} {v : Value} (ev : t.eval args s none [] s = some (.ref a)) (A : Arr s s.heap a cl ty) (h : (Term.elem t (Term.int j)).eval args s none [] s = some v) (hn : ¬ j < 0 := by decide) : cl.slots[j.toNatClampNeg]? = some v := by
  have ha : s.arrayAt? a = some cl := Arr.fin (State.WarmedH.refl s).alike A
  rw [← elem_f ev (Term.int_eval j) ha hn]; exact h
theorem own_pd0 : parseMethodDescriptor "(I)Lcom/example/tokengauge/tokengauge/cli/ExitStatus;" = some ⟨[.int], some (.object "com/example/tokengauge/tokengauge/cli/ExitStatus")⟩ := by decide +kernel
theorem own_pd1 : parseMethodDescriptor "(Lcom/example/tokengauge/tokengauge/cli/ExitStatus;)Lcom/example/tokengauge/tokengauge/cli/ExitStatus;" = some ⟨[(.object "com/example/tokengauge/tokengauge/cli/ExitStatus")], some (.object "com/example/tokengauge/tokengauge/cli/ExitStatus")⟩ := by decide +kernel
theorem own_pn0 : plainName "com/example/tokengauge/tokengauge/cli/ExitStatusMaxPinLaw" = true := by first | (simp [plainName, overriddenIn]; done) | decide +kernel
theorem own_pn1 : plainName "com/example/tokengauge/tokengauge/cli/ExitStatus" = true := by first | (simp [plainName, overriddenIn]; done) | decide +kernel
theorem own_d_method_3_code_0 : decode method_3_code 0 = .ok (.iload_n 0, 1) := by decide +kernel
theorem own_d_method_3_code_1 : decode method_3_code 1 = .ok (.ifCond .ne 7, 3) := by decide +kernel
theorem own_d_method_3_code_4 : decode method_3_code 4 = .ok (.getstatic 20, 3) := by decide +kernel
theorem own_d_method_3_code_7 : decode method_3_code 7 = .ok (.areturn, 1) := by decide +kernel
theorem own_d_method_3_code_8 : decode method_3_code 8 = .ok (.iload_n 0, 1) := by decide +kernel
theorem own_d_method_3_code_9 : decode method_3_code 9 = .ok (.iconst 1, 1) := by decide +kernel
theorem own_d_method_3_code_10 : decode method_3_code 10 = .ok (.if_icmp .ne 7, 3) := by decide +kernel
theorem own_d_method_3_code_13 : decode method_3_code 13 = .ok (.getstatic 24, 3) := by decide +kernel
theorem own_d_method_3_code_16 : decode method_3_code 16 = .ok (.areturn, 1) := by decide +kernel
theorem own_d_method_3_code_17 : decode method_3_code 17 = .ok (.iload_n 0, 1) := by decide +kernel
theorem own_d_method_3_code_18 : decode method_3_code 18 = .ok (.iconst 2, 1) := by decide +kernel
theorem own_d_method_3_code_19 : decode method_3_code 19 = .ok (.if_icmp .ne 7, 3) := by decide +kernel
theorem own_d_method_3_code_22 : decode method_3_code 22 = .ok (.getstatic 27, 3) := by decide +kernel
theorem own_d_method_3_code_25 : decode method_3_code 25 = .ok (.areturn, 1) := by decide +kernel
theorem own_d_method_3_code_26 : decode method_3_code 26 = .ok (.iload_n 0, 1) := by decide +kernel
theorem own_d_method_3_code_27 : decode method_3_code 27 = .ok (.iconst 3, 1) := by decide +kernel
theorem own_d_method_3_code_28 : decode method_3_code 28 = .ok (.if_icmp .ne 7, 3) := by decide +kernel
theorem own_d_method_3_code_31 : decode method_3_code 31 = .ok (.getstatic 30, 3) := by decide +kernel
theorem own_d_method_3_code_34 : decode method_3_code 34 = .ok (.areturn, 1) := by decide +kernel
theorem own_d_method_3_code_35 : decode method_3_code 35 = .ok (.iload_n 0, 1) := by decide +kernel
theorem own_d_method_3_code_36 : decode method_3_code 36 = .ok (.iconst 4, 1) := by decide +kernel
theorem own_d_method_3_code_37 : decode method_3_code 37 = .ok (.if_icmp .ne 7, 3) := by decide +kernel
theorem own_d_method_3_code_40 : decode method_3_code 40 = .ok (.getstatic 33, 3) := by decide +kernel
theorem own_d_method_3_code_43 : decode method_3_code 43 = .ok (.areturn, 1) := by decide +kernel
theorem own_d_method_3_code_44 : decode method_3_code 44 = .ok (.getstatic 36, 3) := by decide +kernel
theorem own_d_method_3_code_47 : decode method_3_code 47 = .ok (.areturn, 1) := by decide +kernel
theorem own_d_prog_149_method_6_code_0 : decode prog_149_method_6_code 0 = .ok (.aload_n 1, 1) := by decide +kernel
theorem own_d_prog_149_method_6_code_1 : decode prog_149_method_6_code 1 = .ok (.getfield 41, 3) := by decide +kernel
theorem own_d_prog_149_method_6_code_4 : decode prog_149_method_6_code 4 = .ok (.aload_n 0, 1) := by decide +kernel
theorem own_d_prog_149_method_6_code_5 : decode prog_149_method_6_code 5 = .ok (.getfield 41, 3) := by decide +kernel
theorem own_d_prog_149_method_6_code_8 : decode prog_149_method_6_code 8 = .ok (.if_icmp .le 7, 3) := by decide +kernel
theorem own_d_prog_149_method_6_code_11 : decode prog_149_method_6_code 11 = .ok (.aload_n 1, 1) := by decide +kernel
theorem own_d_prog_149_method_6_code_12 : decode prog_149_method_6_code 12 = .ok (.goto 4, 3) := by decide +kernel
theorem own_d_prog_149_method_6_code_16 : decode prog_149_method_6_code 16 = .ok (.areturn, 1) := by decide +kernel
theorem own_d_prog_149_method_6_code_15 : decode prog_149_method_6_code 15 = .ok (.aload_n 0, 1) := by decide +kernel

def own_pk (i : Int32) (c0 c1 c2 c3 c4 c5 : Addr) : Addr := if i = 0 then c0 else if i = 1 then c1 else if i = 2 then c2 else if i = 3 then c3 else if i = 4 then c4 else c5
theorem own_six (x : Int32) : (x &&& 2147483647) % 6 = 0 ∨ (x &&& 2147483647) % 6 = 1 ∨ (x &&& 2147483647) % 6 = 2 ∨ (x &&& 2147483647) % 6 = 3 ∨ (x &&& 2147483647) % 6 = 4 ∨ (x &&& 2147483647) % 6 = 5 := by
  have e1 : (x &&& 2147483647).toInt = x.toInt % 2 ^ 31 := Jvm.Kit.i32_mask x 2147483647 (k := 31) (by decide) (by decide)
  have e2 : ((x &&& 2147483647) % 6).toInt = (x &&& 2147483647).toInt % (6 : Int32).toInt := Jvm.Kit.i32_rem_nonneg (by omega)
  have e6 : (6 : Int32).toInt = 6 := rfl
  rw [e6] at e2
  simp only [← Int32.toInt_inj]
  have z0 : (0 : Int32).toInt = 0 := rfl
  have z1 : (1 : Int32).toInt = 1 := rfl
  have z2 : (2 : Int32).toInt = 2 := rfl
  have z3 : (3 : Int32).toInt = 3 := rfl
  have z4 : (4 : Int32).toInt = 4 := rfl
  have z5 : (5 : Int32).toInt = 5 := rfl
  omega

set_option maxRecDepth 65536 in
set_option maxHeartbeats 40000000 in
theorem own_rm1 (l : Launch) (Z : State) (a0 : Array Value) (hw : ∀ d ∈ tables_1, d.before a0 Z = true) (ws : List Jvm.Cond) (i1 : Int32) (c0 c1 c2 c3 c4 c5 : Addr) (h0 : Heap) (n0 : Nat) (Z0 : n0 ≤ h0.size) (S0 : Sta Z h0 "com/example/tokengauge/tokengauge/cli/ExitStatus" "OK" "Lcom/example/tokengauge/tokengauge/cli/ExitStatus;" (.ref c0)) (S1 : Sta Z h0 "com/example/tokengauge/tokengauge/cli/ExitStatus" "USAGE" "Lcom/example/tokengauge/tokengauge/cli/ExitStatus;" (.ref c1)) (S2 : Sta Z h0 "com/example/tokengauge/tokengauge/cli/ExitStatus" "UNREADABLE" "Lcom/example/tokengauge/tokengauge/cli/ExitStatus;" (.ref c2)) (S3 : Sta Z h0 "com/example/tokengauge/tokengauge/cli/ExitStatus" "UNSUPPORTED" "Lcom/example/tokengauge/tokengauge/cli/ExitStatus;" (.ref c3)) (S4 : Sta Z h0 "com/example/tokengauge/tokengauge/cli/ExitStatus" "INTERNAL_ERROR" "Lcom/example/tokengauge/tokengauge/cli/ExitStatus;" (.ref c4)) (S5 : Sta Z h0 "com/example/tokengauge/tokengauge/cli/ExitStatus" "OUTPUT_LOST" "Lcom/example/tokengauge/tokengauge/cli/ExitStatus;" (.ref c5)) :
    OMet l Z (⟨"com/example/tokengauge/tokengauge/cli/ExitStatusMaxPinLaw", "pick", "(I)Lcom/example/tokengauge/tokengauge/cli/ExitStatus;"⟩ : MethodName) method_3_code 1 (some (.object "com/example/tokengauge/tokengauge/cli/ExitStatus")) ws ({ frames := 0, cells := 0, slots := 0, locals := 0 } : Room) #[(.int i1)] h0 (fun v h L => v = some (.ref (own_pk i1 c0 c1 c2 c3 c4 c5)) ∧ Fr n0 L ∧ h = h0) := by
  refine OMet.body (plainFor_of_name own_pn0) ?_
  intro p e s m below meth c s₁ hx hby hml hown hnm hret hlk hZ X0 e0
  refine OGo.step (fun _ kk => castTop (show entryFrame m #[(.int i1)] 1 = (mkF m 0 #[.val (.int i1)] []) from by first | (simp [entryFrame, mkF, argsToLocals, Value.category]; done) | rfl) kk) ?_
  show OGo p e below (s₁.setTop (mkF m 0 #[.val (.int i1)] [])) (OEnd s (fun v h L => v = some (.ref (own_pk i1 c0 c1 c2 c3 c4 c5)) ∧ Fr n0 L ∧ h = h0) ({ frames := 0, cells := 0, slots := 0, locals := 0 } : Room).cells ({ frames := 0, cells := 0, slots := 0, locals := 0 } : Room).slots)
  have N0 := Fr.nil n0
  refine OGo.step (fun _ kk => XS.iloadN X0.here hx rfl (hb hby own_d_method_3_code_0) rfl kk) ?_
  show OGo p e below (s₁.setTop (mkF m 1 #[.val (.int i1)] [(.int i1)])) (OEnd s (fun v h L => v = some (.ref (own_pk i1 c0 c1 c2 c3 c4 c5)) ∧ Fr n0 L ∧ h = h0) ({ frames := 0, cells := 0, slots := 0, locals := 0 } : Room).cells ({ frames := 0, cells := 0, slots := 0, locals := 0 } : Room).slots)
  by_cases hc0 : i1 = (0 : Int32)
  · refine OGo.step (fun _ kk => XS.ifNo X0.here hx rfl (hb hby own_d_method_3_code_1) rfl ((if0 _ _).trans (teq hc0).2) kk) ?_
    show OGo p e below (s₁.setTop (mkF m 4 #[.val (.int i1)] [])) (OEnd s (fun v h L => v = some (.ref (own_pk i1 c0 c1 c2 c3 c4 c5)) ∧ Fr n0 L ∧ h = h0) ({ frames := 0, cells := 0, slots := 0, locals := 0 } : Room).cells ({ frames := 0, cells := 0, slots := 0, locals := 0 } : Room).slots)
    obtain ⟨T1, X1, e1, st1⟩ := getS2 X0 hx hZ hown (host := "") (Or.inl (hw _ (List.mem_of_getElem? (i := 5) rfl))) Via.refl e0 S0 (g := (mkF m 4 #[.val (.int i1)] [])) rfl (hb hby own_d_method_3_code_4)
    refine OGo.step st1 ?_
    show OGo p e below (T1.setTop (mkF m 7 #[.val (.int i1)] [(.ref c0)])) (OEnd s (fun v h L => v = some (.ref (own_pk i1 c0 c1 c2 c3 c4 c5)) ∧ Fr n0 L ∧ h = h0) ({ frames := 0, cells := 0, slots := 0, locals := 0 } : Room).cells ({ frames := 0, cells := 0, slots := 0, locals := 0 } : Room).slots)
    exact own_ret X1 hx hlk hret rfl (Or.inr (Or.inr (Or.inr (Or.inr ⟨rfl, rfl, rfl⟩)))) (hb hby own_d_method_3_code_7) ⟨by unfold own_pk; rw [if_pos hc0], N0, e1⟩ (by decide) (by decide)
  · refine OGo.step (fun _ kk => XS.ifYes X0.here hx rfl (pc0 := 1) (pc' := 8) rfl (hb hby own_d_method_3_code_1) rfl ((if0 _ _).trans (feq hc0).2) (by decide) (by decide) kk) ?_
    show OGo p e below (s₁.setTop (mkF m 8 #[.val (.int i1)] [])) (OEnd s (fun v h L => v = some (.ref (own_pk i1 c0 c1 c2 c3 c4 c5)) ∧ Fr n0 L ∧ h = h0) ({ frames := 0, cells := 0, slots := 0, locals := 0 } : Room).cells ({ frames := 0, cells := 0, slots := 0, locals := 0 } : Room).slots)
    refine OGo.step (fun _ kk => XS.iloadN X0.here hx rfl (hb hby own_d_method_3_code_8) rfl kk) ?_
    show OGo p e below (s₁.setTop (mkF m 9 #[.val (.int i1)] [(.int i1)])) (OEnd s (fun v h L => v = some (.ref (own_pk i1 c0 c1 c2 c3 c4 c5)) ∧ Fr n0 L ∧ h = h0) ({ frames := 0, cells := 0, slots := 0, locals := 0 } : Room).cells ({ frames := 0, cells := 0, slots := 0, locals := 0 } : Room).slots)
    refine OGo.step (fun _ kk => XS.iconst X0.here hx rfl (hb hby own_d_method_3_code_9) kk) ?_
    show OGo p e below (s₁.setTop (mkF m 10 #[.val (.int i1)] [(.int (1 : Int32)), (.int i1)])) (OEnd s (fun v h L => v = some (.ref (own_pk i1 c0 c1 c2 c3 c4 c5)) ∧ Fr n0 L ∧ h = h0) ({ frames := 0, cells := 0, slots := 0, locals := 0 } : Room).cells ({ frames := 0, cells := 0, slots := 0, locals := 0 } : Room).slots)
    by_cases hc1 : i1 = (1 : Int32)
    · refine OGo.step (fun _ kk => XS.icmpNo X0.here hx rfl (hb hby own_d_method_3_code_10) rfl (teq hc1).2 kk) ?_
      show OGo p e below (s₁.setTop (mkF m 13 #[.val (.int i1)] [])) (OEnd s (fun v h L => v = some (.ref (own_pk i1 c0 c1 c2 c3 c4 c5)) ∧ Fr n0 L ∧ h = h0) ({ frames := 0, cells := 0, slots := 0, locals := 0 } : Room).cells ({ frames := 0, cells := 0, slots := 0, locals := 0 } : Room).slots)
      obtain ⟨T2, X2, e2, st2⟩ := getS2 X0 hx hZ hown (host := "") (Or.inl (hw _ (List.mem_of_getElem? (i := 19) rfl))) Via.refl e0 S1 (g := (mkF m 13 #[.val (.int i1)] [])) rfl (hb hby own_d_method_3_code_13)
      refine OGo.step st2 ?_
      show OGo p e below (T2.setTop (mkF m 16 #[.val (.int i1)] [(.ref c1)])) (OEnd s (fun v h L => v = some (.ref (own_pk i1 c0 c1 c2 c3 c4 c5)) ∧ Fr n0 L ∧ h = h0) ({ frames := 0, cells := 0, slots := 0, locals := 0 } : Room).cells ({ frames := 0, cells := 0, slots := 0, locals := 0 } : Room).slots)
      exact own_ret X2 hx hlk hret rfl (Or.inr (Or.inr (Or.inr (Or.inr ⟨rfl, rfl, rfl⟩)))) (hb hby own_d_method_3_code_16) ⟨by unfold own_pk; rw [if_neg hc0, if_pos hc1], N0, e2⟩ (by decide) (by decide)
    · refine OGo.step (fun _ kk => XS.icmpYes X0.here hx rfl (pc0 := 10) (pc' := 17) rfl (hb hby own_d_method_3_code_10) rfl (feq hc1).2 (by decide) (by decide) kk) ?_
      show OGo p e below (s₁.setTop (mkF m 17 #[.val (.int i1)] [])) (OEnd s (fun v h L => v = some (.ref (own_pk i1 c0 c1 c2 c3 c4 c5)) ∧ Fr n0 L ∧ h = h0) ({ frames := 0, cells := 0, slots := 0, locals := 0 } : Room).cells ({ frames := 0, cells := 0, slots := 0, locals := 0 } : Room).slots)
      refine OGo.step (fun _ kk => XS.iloadN X0.here hx rfl (hb hby own_d_method_3_code_17) rfl kk) ?_
      show OGo p e below (s₁.setTop (mkF m 18 #[.val (.int i1)] [(.int i1)])) (OEnd s (fun v h L => v = some (.ref (own_pk i1 c0 c1 c2 c3 c4 c5)) ∧ Fr n0 L ∧ h = h0) ({ frames := 0, cells := 0, slots := 0, locals := 0 } : Room).cells ({ frames := 0, cells := 0, slots := 0, locals := 0 } : Room).slots)
      refine OGo.step (fun _ kk => XS.iconst X0.here hx rfl (hb hby own_d_method_3_code_18) kk) ?_
      show OGo p e below (s₁.setTop (mkF m 19 #[.val (.int i1)] [(.int (2 : Int32)), (.int i1)])) (OEnd s (fun v h L => v = some (.ref (own_pk i1 c0 c1 c2 c3 c4 c5)) ∧ Fr n0 L ∧ h = h0) ({ frames := 0, cells := 0, slots := 0, locals := 0 } : Room).cells ({ frames := 0, cells := 0, slots := 0, locals := 0 } : Room).slots)
      by_cases hc2 : i1 = (2 : Int32)
      · refine OGo.step (fun _ kk => XS.icmpNo X0.here hx rfl (hb hby own_d_method_3_code_19) rfl (teq hc2).2 kk) ?_
        show OGo p e below (s₁.setTop (mkF m 22 #[.val (.int i1)] [])) (OEnd s (fun v h L => v = some (.ref (own_pk i1 c0 c1 c2 c3 c4 c5)) ∧ Fr n0 L ∧ h = h0) ({ frames := 0, cells := 0, slots := 0, locals := 0 } : Room).cells ({ frames := 0, cells := 0, slots := 0, locals := 0 } : Room).slots)
        obtain ⟨T3, X3, e3, st3⟩ := getS2 X0 hx hZ hown (host := "") (Or.inl (hw _ (List.mem_of_getElem? (i := 17) rfl))) Via.refl e0 S2 (g := (mkF m 22 #[.val (.int i1)] [])) rfl (hb hby own_d_method_3_code_22)
        refine OGo.step st3 ?_
        show OGo p e below (T3.setTop (mkF m 25 #[.val (.int i1)] [(.ref c2)])) (OEnd s (fun v h L => v = some (.ref (own_pk i1 c0 c1 c2 c3 c4 c5)) ∧ Fr n0 L ∧ h = h0) ({ frames := 0, cells := 0, slots := 0, locals := 0 } : Room).cells ({ frames := 0, cells := 0, slots := 0, locals := 0 } : Room).slots)
        exact own_ret X3 hx hlk hret rfl (Or.inr (Or.inr (Or.inr (Or.inr ⟨rfl, rfl, rfl⟩)))) (hb hby own_d_method_3_code_25) ⟨by unfold own_pk; rw [if_neg hc0, if_neg hc1, if_pos hc2], N0, e3⟩ (by decide) (by decide)
      · refine OGo.step (fun _ kk => XS.icmpYes X0.here hx rfl (pc0 := 19) (pc' := 26) rfl (hb hby own_d_method_3_code_19) rfl (feq hc2).2 (by decide) (by decide) kk) ?_
        show OGo p e below (s₁.setTop (mkF m 26 #[.val (.int i1)] [])) (OEnd s (fun v h L => v = some (.ref (own_pk i1 c0 c1 c2 c3 c4 c5)) ∧ Fr n0 L ∧ h = h0) ({ frames := 0, cells := 0, slots := 0, locals := 0 } : Room).cells ({ frames := 0, cells := 0, slots := 0, locals := 0 } : Room).slots)
        refine OGo.step (fun _ kk => XS.iloadN X0.here hx rfl (hb hby own_d_method_3_code_26) rfl kk) ?_
        show OGo p e below (s₁.setTop (mkF m 27 #[.val (.int i1)] [(.int i1)])) (OEnd s (fun v h L => v = some (.ref (own_pk i1 c0 c1 c2 c3 c4 c5)) ∧ Fr n0 L ∧ h = h0) ({ frames := 0, cells := 0, slots := 0, locals := 0 } : Room).cells ({ frames := 0, cells := 0, slots := 0, locals := 0 } : Room).slots)
        refine OGo.step (fun _ kk => XS.iconst X0.here hx rfl (hb hby own_d_method_3_code_27) kk) ?_
        show OGo p e below (s₁.setTop (mkF m 28 #[.val (.int i1)] [(.int (3 : Int32)), (.int i1)])) (OEnd s (fun v h L => v = some (.ref (own_pk i1 c0 c1 c2 c3 c4 c5)) ∧ Fr n0 L ∧ h = h0) ({ frames := 0, cells := 0, slots := 0, locals := 0 } : Room).cells ({ frames := 0, cells := 0, slots := 0, locals := 0 } : Room).slots)
        by_cases hc3 : i1 = (3 : Int32)
        · refine OGo.step (fun _ kk => XS.icmpNo X0.here hx rfl (hb hby own_d_method_3_code_28) rfl (teq hc3).2 kk) ?_
          show OGo p e below (s₁.setTop (mkF m 31 #[.val (.int i1)] [])) (OEnd s (fun v h L => v = some (.ref (own_pk i1 c0 c1 c2 c3 c4 c5)) ∧ Fr n0 L ∧ h = h0) ({ frames := 0, cells := 0, slots := 0, locals := 0 } : Room).cells ({ frames := 0, cells := 0, slots := 0, locals := 0 } : Room).slots)
          obtain ⟨T4, X4, e4, st4⟩ := getS2 X0 hx hZ hown (host := "") (Or.inl (hw _ (List.mem_of_getElem? (i := 8) rfl))) Via.refl e0 S3 (g := (mkF m 31 #[.val (.int i1)] [])) rfl (hb hby own_d_method_3_code_31)
          refine OGo.step st4 ?_
          show OGo p e below (T4.setTop (mkF m 34 #[.val (.int i1)] [(.ref c3)])) (OEnd s (fun v h L => v = some (.ref (own_pk i1 c0 c1 c2 c3 c4 c5)) ∧ Fr n0 L ∧ h = h0) ({ frames := 0, cells := 0, slots := 0, locals := 0 } : Room).cells ({ frames := 0, cells := 0, slots := 0, locals := 0 } : Room).slots)
          exact own_ret X4 hx hlk hret rfl (Or.inr (Or.inr (Or.inr (Or.inr ⟨rfl, rfl, rfl⟩)))) (hb hby own_d_method_3_code_34) ⟨by unfold own_pk; rw [if_neg hc0, if_neg hc1, if_neg hc2, if_pos hc3], N0, e4⟩ (by decide) (by decide)
        · refine OGo.step (fun _ kk => XS.icmpYes X0.here hx rfl (pc0 := 28) (pc' := 35) rfl (hb hby own_d_method_3_code_28) rfl (feq hc3).2 (by decide) (by decide) kk) ?_
          show OGo p e below (s₁.setTop (mkF m 35 #[.val (.int i1)] [])) (OEnd s (fun v h L => v = some (.ref (own_pk i1 c0 c1 c2 c3 c4 c5)) ∧ Fr n0 L ∧ h = h0) ({ frames := 0, cells := 0, slots := 0, locals := 0 } : Room).cells ({ frames := 0, cells := 0, slots := 0, locals := 0 } : Room).slots)
          refine OGo.step (fun _ kk => XS.iloadN X0.here hx rfl (hb hby own_d_method_3_code_35) rfl kk) ?_
          show OGo p e below (s₁.setTop (mkF m 36 #[.val (.int i1)] [(.int i1)])) (OEnd s (fun v h L => v = some (.ref (own_pk i1 c0 c1 c2 c3 c4 c5)) ∧ Fr n0 L ∧ h = h0) ({ frames := 0, cells := 0, slots := 0, locals := 0 } : Room).cells ({ frames := 0, cells := 0, slots := 0, locals := 0 } : Room).slots)
          refine OGo.step (fun _ kk => XS.iconst X0.here hx rfl (hb hby own_d_method_3_code_36) kk) ?_
          show OGo p e below (s₁.setTop (mkF m 37 #[.val (.int i1)] [(.int (4 : Int32)), (.int i1)])) (OEnd s (fun v h L => v = some (.ref (own_pk i1 c0 c1 c2 c3 c4 c5)) ∧ Fr n0 L ∧ h = h0) ({ frames := 0, cells := 0, slots := 0, locals := 0 } : Room).cells ({ frames := 0, cells := 0, slots := 0, locals := 0 } : Room).slots)
          by_cases hc4 : i1 = (4 : Int32)
          · refine OGo.step (fun _ kk => XS.icmpNo X0.here hx rfl (hb hby own_d_method_3_code_37) rfl (teq hc4).2 kk) ?_
            show OGo p e below (s₁.setTop (mkF m 40 #[.val (.int i1)] [])) (OEnd s (fun v h L => v = some (.ref (own_pk i1 c0 c1 c2 c3 c4 c5)) ∧ Fr n0 L ∧ h = h0) ({ frames := 0, cells := 0, slots := 0, locals := 0 } : Room).cells ({ frames := 0, cells := 0, slots := 0, locals := 0 } : Room).slots)
            obtain ⟨T5, X5, e5, st5⟩ := getS2 X0 hx hZ hown (host := "") (Or.inl (hw _ (List.mem_of_getElem? (i := 23) rfl))) Via.refl e0 S4 (g := (mkF m 40 #[.val (.int i1)] [])) rfl (hb hby own_d_method_3_code_40)
            refine OGo.step st5 ?_
            show OGo p e below (T5.setTop (mkF m 43 #[.val (.int i1)] [(.ref c4)])) (OEnd s (fun v h L => v = some (.ref (own_pk i1 c0 c1 c2 c3 c4 c5)) ∧ Fr n0 L ∧ h = h0) ({ frames := 0, cells := 0, slots := 0, locals := 0 } : Room).cells ({ frames := 0, cells := 0, slots := 0, locals := 0 } : Room).slots)
            exact own_ret X5 hx hlk hret rfl (Or.inr (Or.inr (Or.inr (Or.inr ⟨rfl, rfl, rfl⟩)))) (hb hby own_d_method_3_code_43) ⟨by unfold own_pk; rw [if_neg hc0, if_neg hc1, if_neg hc2, if_neg hc3, if_pos hc4], N0, e5⟩ (by decide) (by decide)
          · refine OGo.step (fun _ kk => XS.icmpYes X0.here hx rfl (pc0 := 37) (pc' := 44) rfl (hb hby own_d_method_3_code_37) rfl (feq hc4).2 (by decide) (by decide) kk) ?_
            show OGo p e below (s₁.setTop (mkF m 44 #[.val (.int i1)] [])) (OEnd s (fun v h L => v = some (.ref (own_pk i1 c0 c1 c2 c3 c4 c5)) ∧ Fr n0 L ∧ h = h0) ({ frames := 0, cells := 0, slots := 0, locals := 0 } : Room).cells ({ frames := 0, cells := 0, slots := 0, locals := 0 } : Room).slots)
            obtain ⟨T6, X6, e6, st6⟩ := getS2 X0 hx hZ hown (host := "") (Or.inl (hw _ (List.mem_of_getElem? (i := 21) rfl))) Via.refl e0 S5 (g := (mkF m 44 #[.val (.int i1)] [])) rfl (hb hby own_d_method_3_code_44)
            refine OGo.step st6 ?_
            show OGo p e below (T6.setTop (mkF m 47 #[.val (.int i1)] [(.ref c5)])) (OEnd s (fun v h L => v = some (.ref (own_pk i1 c0 c1 c2 c3 c4 c5)) ∧ Fr n0 L ∧ h = h0) ({ frames := 0, cells := 0, slots := 0, locals := 0 } : Room).cells ({ frames := 0, cells := 0, slots := 0, locals := 0 } : Room).slots)
            exact own_ret X6 hx hlk hret rfl (Or.inr (Or.inr (Or.inr (Or.inr ⟨rfl, rfl, rfl⟩)))) (hb hby own_d_method_3_code_47) ⟨by unfold own_pk; rw [if_neg hc0, if_neg hc1, if_neg hc2, if_neg hc3, if_neg hc4], N0, e6⟩ (by decide) (by decide)

set_option maxRecDepth 65536 in
set_option maxHeartbeats 40000000 in
theorem own_rm2 (l : Launch) (Z : State) (a0 : Array Value) (hw : ∀ d ∈ tables_1, d.before a0 Z = true) (ws : List Jvm.Cond) (a b : Addr) (ca cb : Int32) (h0 : Heap) (n0 : Nat) (Z0 : n0 ≤ h0.size) (Fa : Fld Z h0 a "com/example/tokengauge/tokengauge/cli/ExitStatus" "code" "I" (.int ca)) (Fb : Fld Z h0 b "com/example/tokengauge/tokengauge/cli/ExitStatus" "code" "I" (.int cb)) :
    OMet l Z (⟨"com/example/tokengauge/tokengauge/cli/ExitStatus", "max", "(Lcom/example/tokengauge/tokengauge/cli/ExitStatus;)Lcom/example/tokengauge/tokengauge/cli/ExitStatus;"⟩ : MethodName) prog_149_method_6_code 2 (some (.object "com/example/tokengauge/tokengauge/cli/ExitStatus")) ws ({ frames := 0, cells := 0, slots := 0, locals := 0 } : Room) #[(.ref a), (.ref b)] h0 (fun v h L => v = some (.ref (if ca < cb then b else a)) ∧ Fr n0 L ∧ h = h0) := by
  refine OMet.body (plainFor_of_name own_pn1) ?_
  intro p e s m below meth c s₁ hx hby hml hown hnm hret hlk hZ X0 e0
  refine OGo.step (fun _ kk => castTop (show entryFrame m #[(.ref a), (.ref b)] 2 = (mkF m 0 #[.val (.ref a), .val (.ref b)] []) from by first | (simp [entryFrame, mkF, argsToLocals, Value.category]; done) | rfl) kk) ?_
  show OGo p e below (s₁.setTop (mkF m 0 #[.val (.ref a), .val (.ref b)] [])) (OEnd s (fun v h L => v = some (.ref (if ca < cb then b else a)) ∧ Fr n0 L ∧ h = h0) ({ frames := 0, cells := 0, slots := 0, locals := 0 } : Room).cells ({ frames := 0, cells := 0, slots := 0, locals := 0 } : Room).slots)
  have N0 := Fr.nil n0
  refine OGo.step (fun _ kk => XS.aloadN X0.here hx rfl (hb hby own_d_prog_149_method_6_code_0) rfl rfl kk) ?_
  show OGo p e below (s₁.setTop (mkF m 1 #[.val (.ref a), .val (.ref b)] [(.ref b)])) (OEnd s (fun v h L => v = some (.ref (if ca < cb then b else a)) ∧ Fr n0 L ∧ h = h0) ({ frames := 0, cells := 0, slots := 0, locals := 0 } : Room).cells ({ frames := 0, cells := 0, slots := 0, locals := 0 } : Room).slots)
  obtain ⟨T7, X7, e7, st7⟩ := getF X0 hx hZ hown (host := "") (Or.inl (hw _ (List.mem_of_getElem? (i := 15) rfl))) Via.refl e0 Fb (g := (mkF m 1 #[.val (.ref a), .val (.ref b)] [(.ref b)])) rfl rfl (hb hby own_d_prog_149_method_6_code_1)
  refine OGo.step st7 ?_
  show OGo p e below (T7.setTop (mkF m 4 #[.val (.ref a), .val (.ref b)] [(.int cb)])) (OEnd s (fun v h L => v = some (.ref (if ca < cb then b else a)) ∧ Fr n0 L ∧ h = h0) ({ frames := 0, cells := 0, slots := 0, locals := 0 } : Room).cells ({ frames := 0, cells := 0, slots := 0, locals := 0 } : Room).slots)
  refine OGo.step (fun _ kk => XS.aloadN X7.here hx rfl (hb hby own_d_prog_149_method_6_code_4) rfl rfl kk) ?_
  show OGo p e below (T7.setTop (mkF m 5 #[.val (.ref a), .val (.ref b)] [(.ref a), (.int cb)])) (OEnd s (fun v h L => v = some (.ref (if ca < cb then b else a)) ∧ Fr n0 L ∧ h = h0) ({ frames := 0, cells := 0, slots := 0, locals := 0 } : Room).cells ({ frames := 0, cells := 0, slots := 0, locals := 0 } : Room).slots)
  obtain ⟨T8, X8, e8, st8⟩ := getF X7 hx hZ hown (host := "") (Or.inl (hw _ (List.mem_of_getElem? (i := 15) rfl))) Via.refl e7 Fa (g := (mkF m 5 #[.val (.ref a), .val (.ref b)] [(.ref a), (.int cb)])) rfl rfl (hb hby own_d_prog_149_method_6_code_5)
  refine OGo.step st8 ?_
  show OGo p e below (T8.setTop (mkF m 8 #[.val (.ref a), .val (.ref b)] [(.int ca), (.int cb)])) (OEnd s (fun v h L => v = some (.ref (if ca < cb then b else a)) ∧ Fr n0 L ∧ h = h0) ({ frames := 0, cells := 0, slots := 0, locals := 0 } : Room).cells ({ frames := 0, cells := 0, slots := 0, locals := 0 } : Room).slots)
  by_cases hh : ca < cb
  · refine OGo.step (fun _ kk => XS.icmpNo X8.here hx rfl (hb hby own_d_prog_149_method_6_code_8) rfl (tlt hh).2.2.2 kk) ?_
    show OGo p e below (T8.setTop (mkF m 11 #[.val (.ref a), .val (.ref b)] [])) (OEnd s (fun v h L => v = some (.ref (if ca < cb then b else a)) ∧ Fr n0 L ∧ h = h0) ({ frames := 0, cells := 0, slots := 0, locals := 0 } : Room).cells ({ frames := 0, cells := 0, slots := 0, locals := 0 } : Room).slots)
    refine OGo.step (fun _ kk => XS.aloadN X8.here hx rfl (hb hby own_d_prog_149_method_6_code_11) rfl rfl kk) ?_
    show OGo p e below (T8.setTop (mkF m 12 #[.val (.ref a), .val (.ref b)] [(.ref b)])) (OEnd s (fun v h L => v = some (.ref (if ca < cb then b else a)) ∧ Fr n0 L ∧ h = h0) ({ frames := 0, cells := 0, slots := 0, locals := 0 } : Room).cells ({ frames := 0, cells := 0, slots := 0, locals := 0 } : Room).slots)
    refine OGo.step (fun _ kk => XS.goto X8.here hx rfl (pc0 := 12) (pc' := 16) rfl (hb hby own_d_prog_149_method_6_code_12) (by decide) (by decide) kk) ?_
    show OGo p e below (T8.setTop (mkF m 16 #[.val (.ref a), .val (.ref b)] [(.ref b)])) (OEnd s (fun v h L => v = some (.ref (if ca < cb then b else a)) ∧ Fr n0 L ∧ h = h0) ({ frames := 0, cells := 0, slots := 0, locals := 0 } : Room).cells ({ frames := 0, cells := 0, slots := 0, locals := 0 } : Room).slots)
    exact own_ret X8 hx hlk hret rfl (Or.inr (Or.inr (Or.inr (Or.inr ⟨rfl, rfl, rfl⟩)))) (hb hby own_d_prog_149_method_6_code_16) ⟨by rw [if_pos hh], N0, e8⟩ (by decide) (by decide)
  · refine OGo.step (fun _ kk => XS.icmpYes X8.here hx rfl (pc0 := 8) (pc' := 15) rfl (hb hby own_d_prog_149_method_6_code_8) rfl (flt hh).2.2.2 (by decide) (by decide) kk) ?_
    show OGo p e below (T8.setTop (mkF m 15 #[.val (.ref a), .val (.ref b)] [])) (OEnd s (fun v h L => v = some (.ref (if ca < cb then b else a)) ∧ Fr n0 L ∧ h = h0) ({ frames := 0, cells := 0, slots := 0, locals := 0 } : Room).cells ({ frames := 0, cells := 0, slots := 0, locals := 0 } : Room).slots)
    refine OGo.step (fun _ kk => XS.aloadN X8.here hx rfl (hb hby own_d_prog_149_method_6_code_15) rfl rfl kk) ?_
    show OGo p e below (T8.setTop (mkF m 16 #[.val (.ref a), .val (.ref b)] [(.ref a)])) (OEnd s (fun v h L => v = some (.ref (if ca < cb then b else a)) ∧ Fr n0 L ∧ h = h0) ({ frames := 0, cells := 0, slots := 0, locals := 0 } : Room).cells ({ frames := 0, cells := 0, slots := 0, locals := 0 } : Room).slots)
    exact own_ret X8 hx hlk hret rfl (Or.inr (Or.inr (Or.inr (Or.inr ⟨rfl, rfl, rfl⟩)))) (hb hby own_d_prog_149_method_6_code_16) ⟨by rw [if_neg hh], N0, e8⟩ (by decide) (by decide)


theorem own_fld {Z : State} {h : Heap} {c0 c1 c2 c3 c4 c5 : Addr} {i : Int32} (F0 : Fld Z h c0 "com/example/tokengauge/tokengauge/cli/ExitStatus" "code" "I" (.int 0)) (F1 : Fld Z h c1 "com/example/tokengauge/tokengauge/cli/ExitStatus" "code" "I" (.int 1)) (F2 : Fld Z h c2 "com/example/tokengauge/tokengauge/cli/ExitStatus" "code" "I" (.int 2)) (F3 : Fld Z h c3 "com/example/tokengauge/tokengauge/cli/ExitStatus" "code" "I" (.int 3)) (F4 : Fld Z h c4 "com/example/tokengauge/tokengauge/cli/ExitStatus" "code" "I" (.int 4)) (F5 : Fld Z h c5 "com/example/tokengauge/tokengauge/cli/ExitStatus" "code" "I" (.int 5)) (hi : i = 0 ∨ i = 1 ∨ i = 2 ∨ i = 3 ∨ i = 4 ∨ i = 5) : Fld Z h (own_pk i c0 c1 c2 c3 c4 c5) "com/example/tokengauge/tokengauge/cli/ExitStatus" "code" "I" (.int i) := by
  rcases hi with rfl | rfl | rfl | rfl | rfl | rfl <;> assumption
theorem own_exa {Z : State} {h : Heap} {c0 c1 c2 c3 c4 c5 : Addr} {i : Int32} (E0 : Exa Z h c0 "com/example/tokengauge/tokengauge/cli/ExitStatus") (E1 : Exa Z h c1 "com/example/tokengauge/tokengauge/cli/ExitStatus") (E2 : Exa Z h c2 "com/example/tokengauge/tokengauge/cli/ExitStatus") (E3 : Exa Z h c3 "com/example/tokengauge/tokengauge/cli/ExitStatus") (E4 : Exa Z h c4 "com/example/tokengauge/tokengauge/cli/ExitStatus") (E5 : Exa Z h c5 "com/example/tokengauge/tokengauge/cli/ExitStatus") (hi : i = 0 ∨ i = 1 ∨ i = 2 ∨ i = 3 ∨ i = 4 ∨ i = 5) : Exa Z h (own_pk i c0 c1 c2 c3 c4 c5) "com/example/tokengauge/tokengauge/cli/ExitStatus" := by
  rcases hi with rfl | rfl | rfl | rfl | rfl | rfl <;> assumption

set_option maxRecDepth 65536 in
set_option maxHeartbeats 40000000 in
theorem own_rm0 (l : Launch) (Z : State) (a0 : Array Value) (hw : ∀ d ∈ tables_1, d.before a0 Z = true) (ws : List Jvm.Cond) (p1 p2 : Int32) (c0 c1 c2 c3 c4 c5 : Addr) (h0 : Heap) (n0 : Nat) (Z0 : n0 ≤ h0.size) (S0 : Sta Z h0 "com/example/tokengauge/tokengauge/cli/ExitStatus" "OK" "Lcom/example/tokengauge/tokengauge/cli/ExitStatus;" (.ref c0)) (S1 : Sta Z h0 "com/example/tokengauge/tokengauge/cli/ExitStatus" "USAGE" "Lcom/example/tokengauge/tokengauge/cli/ExitStatus;" (.ref c1)) (S2 : Sta Z h0 "com/example/tokengauge/tokengauge/cli/ExitStatus" "UNREADABLE" "Lcom/example/tokengauge/tokengauge/cli/ExitStatus;" (.ref c2)) (S3 : Sta Z h0 "com/example/tokengauge/tokengauge/cli/ExitStatus" "UNSUPPORTED" "Lcom/example/tokengauge/tokengauge/cli/ExitStatus;" (.ref c3)) (S4 : Sta Z h0 "com/example/tokengauge/tokengauge/cli/ExitStatus" "INTERNAL_ERROR" "Lcom/example/tokengauge/tokengauge/cli/ExitStatus;" (.ref c4)) (S5 : Sta Z h0 "com/example/tokengauge/tokengauge/cli/ExitStatus" "OUTPUT_LOST" "Lcom/example/tokengauge/tokengauge/cli/ExitStatus;" (.ref c5)) (F0 : Fld Z h0 c0 "com/example/tokengauge/tokengauge/cli/ExitStatus" "code" "I" (.int 0)) (E0 : Exa Z h0 c0 "com/example/tokengauge/tokengauge/cli/ExitStatus") (F1 : Fld Z h0 c1 "com/example/tokengauge/tokengauge/cli/ExitStatus" "code" "I" (.int 1)) (E1 : Exa Z h0 c1 "com/example/tokengauge/tokengauge/cli/ExitStatus") (F2 : Fld Z h0 c2 "com/example/tokengauge/tokengauge/cli/ExitStatus" "code" "I" (.int 2)) (E2 : Exa Z h0 c2 "com/example/tokengauge/tokengauge/cli/ExitStatus") (F3 : Fld Z h0 c3 "com/example/tokengauge/tokengauge/cli/ExitStatus" "code" "I" (.int 3)) (E3 : Exa Z h0 c3 "com/example/tokengauge/tokengauge/cli/ExitStatus") (F4 : Fld Z h0 c4 "com/example/tokengauge/tokengauge/cli/ExitStatus" "code" "I" (.int 4)) (E4 : Exa Z h0 c4 "com/example/tokengauge/tokengauge/cli/ExitStatus") (F5 : Fld Z h0 c5 "com/example/tokengauge/tokengauge/cli/ExitStatus" "code" "I" (.int 5)) (E5 : Exa Z h0 c5 "com/example/tokengauge/tokengauge/cli/ExitStatus") :
    OMet l Z x code maxLocals ret ws room_1 #[(.int p1), (.int p2)] h0 (fun v h L => v = some (.int (1 : Int32)) ∧ Fr n0 L) := by
  refine OMet.body (plainFor_of_name own_pn0) ?_
  intro p e s m below meth c s₁ hx hby hml hown hnm hret hlk hZ X0 e0
  have hml : c.maxLocals = 7 := hml
  refine OGo.step (fun _ kk => castTop (show entryFrame m #[(.int p1), (.int p2)] maxLocals = (mkF m 0 #[.val (.int p1), .val (.int p2), .unset, .unset, .unset, .unset, .unset] []) from by first | (simp [entryFrame, mkF, argsToLocals, Value.category, maxLocals]; done) | rfl) kk) ?_
  show OGo p e below (s₁.setTop (mkF m 0 #[.val (.int p1), .val (.int p2), .unset, .unset, .unset, .unset, .unset] [])) (OEnd s (fun v h L => v = some (.int (1 : Int32)) ∧ Fr n0 L) room_1.cells room_1.slots)
  refine OGo.step (fun _ kk => XS.iloadN X0.here hx rfl (hb hby at_0) rfl kk) ?_
  show OGo p e below (s₁.setTop (mkF m 1 #[.val (.int p1), .val (.int p2), .unset, .unset, .unset, .unset, .unset] [(.int p1)])) (OEnd s (fun v h L => v = some (.int (1 : Int32)) ∧ Fr n0 L) room_1.cells room_1.slots)
  refine OGo.step (fun _ kk => X0.ldcInt hx hown (mvT hZ (hw _ (List.mem_of_getElem? (i := 0) rfl))) (g := (mkF m 1 #[.val (.int p1), .val (.int p2), .unset, .unset, .unset, .unset, .unset] [(.int p1)])) rfl (hb hby at_1) _ kk) ?_
  show OGo p e below (s₁.setTop (mkF m 3 #[.val (.int p1), .val (.int p2), .unset, .unset, .unset, .unset, .unset] [(.int (2147483647 : Int32)), (.int p1)])) (OEnd s (fun v h L => v = some (.int (1 : Int32)) ∧ Fr n0 L) room_1.cells room_1.slots)
  refine OGo.step (fun _ kk => XS.iand X0.here hx rfl (hb hby at_3) rfl kk) ?_
  show OGo p e below (s₁.setTop (mkF m 4 #[.val (.int p1), .val (.int p2), .unset, .unset, .unset, .unset, .unset] [(.int (p1 &&& (2147483647 : Int32)))])) (OEnd s (fun v h L => v = some (.int (1 : Int32)) ∧ Fr n0 L) room_1.cells room_1.slots)
  refine OGo.step (fun _ kk => XS.bipush X0.here hx rfl (hb hby at_4) kk) ?_
  show OGo p e below (s₁.setTop (mkF m 6 #[.val (.int p1), .val (.int p2), .unset, .unset, .unset, .unset, .unset] [(.int (6 : Int32)), (.int (p1 &&& (2147483647 : Int32)))])) (OEnd s (fun v h L => v = some (.int (1 : Int32)) ∧ Fr n0 L) room_1.cells room_1.slots)
  refine OGo.step (fun _ kk => Jvm.RoadKit.iremM X0 hx rfl (hb hby at_6) rfl (by decide) kk) ?_
  show OGo p e below (s₁.setTop (mkF m 7 #[.val (.int p1), .val (.int p2), .unset, .unset, .unset, .unset, .unset] [(.int ((p1 &&& (2147483647 : Int32)) % (6 : Int32)))])) (OEnd s (fun v h L => v = some (.int (1 : Int32)) ∧ Fr n0 L) room_1.cells room_1.slots)
  obtain ⟨i, hi⟩ : ∃ z, z = ((p1 &&& (2147483647 : Int32)) % (6 : Int32)) := ⟨_, rfl⟩
  rw [← hi]
  show OGo p e below (s₁.setTop (mkF m 7 #[.val (.int p1), .val (.int p2), .unset, .unset, .unset, .unset, .unset] [(.int i)])) (OEnd s (fun v h L => v = some (.int (1 : Int32)) ∧ Fr n0 L) room_1.cells room_1.slots)
  refine OGo.step (fun _ kk => XS.istoreN X0.here hx rfl (hb hby at_7) rfl (l' := #[.val (.int p1), .val (.int p2), .val (.int i), .unset, .unset, .unset, .unset]) rfl kk) ?_
  show OGo p e below (s₁.setTop (mkF m 8 #[.val (.int p1), .val (.int p2), .val (.int i), .unset, .unset, .unset, .unset] [])) (OEnd s (fun v h L => v = some (.int (1 : Int32)) ∧ Fr n0 L) room_1.cells room_1.slots)
  refine OGo.step (fun _ kk => XS.iloadN X0.here hx rfl (hb hby at_8) rfl kk) ?_
  show OGo p e below (s₁.setTop (mkF m 9 #[.val (.int p1), .val (.int p2), .val (.int i), .unset, .unset, .unset, .unset] [(.int p2)])) (OEnd s (fun v h L => v = some (.int (1 : Int32)) ∧ Fr n0 L) room_1.cells room_1.slots)
  refine OGo.step (fun _ kk => X0.ldcInt hx hown (mvT hZ (hw _ (List.mem_of_getElem? (i := 0) rfl))) (g := (mkF m 9 #[.val (.int p1), .val (.int p2), .val (.int i), .unset, .unset, .unset, .unset] [(.int p2)])) rfl (hb hby at_9) _ kk) ?_
  show OGo p e below (s₁.setTop (mkF m 11 #[.val (.int p1), .val (.int p2), .val (.int i), .unset, .unset, .unset, .unset] [(.int (2147483647 : Int32)), (.int p2)])) (OEnd s (fun v h L => v = some (.int (1 : Int32)) ∧ Fr n0 L) room_1.cells room_1.slots)
  refine OGo.step (fun _ kk => XS.iand X0.here hx rfl (hb hby at_11) rfl kk) ?_
  show OGo p e below (s₁.setTop (mkF m 12 #[.val (.int p1), .val (.int p2), .val (.int i), .unset, .unset, .unset, .unset] [(.int (p2 &&& (2147483647 : Int32)))])) (OEnd s (fun v h L => v = some (.int (1 : Int32)) ∧ Fr n0 L) room_1.cells room_1.slots)
  refine OGo.step (fun _ kk => XS.bipush X0.here hx rfl (hb hby at_12) kk) ?_
  show OGo p e below (s₁.setTop (mkF m 14 #[.val (.int p1), .val (.int p2), .val (.int i), .unset, .unset, .unset, .unset] [(.int (6 : Int32)), (.int (p2 &&& (2147483647 : Int32)))])) (OEnd s (fun v h L => v = some (.int (1 : Int32)) ∧ Fr n0 L) room_1.cells room_1.slots)
  refine OGo.step (fun _ kk => Jvm.RoadKit.iremM X0 hx rfl (hb hby at_14) rfl (by decide) kk) ?_
  show OGo p e below (s₁.setTop (mkF m 15 #[.val (.int p1), .val (.int p2), .val (.int i), .unset, .unset, .unset, .unset] [(.int ((p2 &&& (2147483647 : Int32)) % (6 : Int32)))])) (OEnd s (fun v h L => v = some (.int (1 : Int32)) ∧ Fr n0 L) room_1.cells room_1.slots)
  obtain ⟨j, hj⟩ : ∃ z, z = ((p2 &&& (2147483647 : Int32)) % (6 : Int32)) := ⟨_, rfl⟩
  rw [← hj]
  show OGo p e below (s₁.setTop (mkF m 15 #[.val (.int p1), .val (.int p2), .val (.int i), .unset, .unset, .unset, .unset] [(.int j)])) (OEnd s (fun v h L => v = some (.int (1 : Int32)) ∧ Fr n0 L) room_1.cells room_1.slots)
  have i6 := own_six p1
  rw [← hi] at i6
  have j6 := own_six p2
  rw [← hj] at j6
  refine OGo.step (fun _ kk => XS.istoreN X0.here hx rfl (hb hby at_15) rfl (l' := #[.val (.int p1), .val (.int p2), .val (.int i), .val (.int j), .unset, .unset, .unset]) rfl kk) ?_
  show OGo p e below (s₁.setTop (mkF m 16 #[.val (.int p1), .val (.int p2), .val (.int i), .val (.int j), .unset, .unset, .unset] [])) (OEnd s (fun v h L => v = some (.int (1 : Int32)) ∧ Fr n0 L) room_1.cells room_1.slots)
  refine OGo.step (fun _ kk => XS.iloadN X0.here hx rfl (hb hby at_16) rfl kk) ?_
  show OGo p e below (s₁.setTop (mkF m 17 #[.val (.int p1), .val (.int p2), .val (.int i), .val (.int j), .unset, .unset, .unset] [(.int i)])) (OEnd s (fun v h L => v = some (.int (1 : Int32)) ∧ Fr n0 L) room_1.cells room_1.slots)
  refine own_callS X0 hx hZ (y := (⟨"com/example/tokengauge/tokengauge/cli/ExitStatusMaxPinLaw", "pick", "(I)Lcom/example/tokengauge/tokengauge/cli/ExitStatus;"⟩ : MethodName)) hown (hw _ (List.mem_of_getElem? (i := 1) rfl)) (hw _ (List.mem_of_getElem? (i := 2) rfl)) (hw _ (List.mem_of_getElem? (i := 3) rfl)) (hw _ (List.mem_of_getElem? (i := 4) rfl)) (by decide) (W := 0) (own_rm1 l Z a0 hw [] i c0 c1 c2 c3 c4 c5 h0 n0 Z0 S0 S1 S2 S3 S4 S5) e0  (pc := 17) (Ls := #[.val (.int p1), .val (.int p2), .val (.int i), .val (.int j), .unset, .unset, .unset]) (argsL := [(.int i)]) (rest := []) (by rw [hml]; rfl) (lenOf own_pd0 rfl) rfl (hb hby at_17) (by decide) (by decide) (by decide) (by decide) ?_
  intro v9 T9 L9 X9 hQ9
  obtain ⟨rfl, N9, e9⟩ := hQ9
  show OGo p e below (T9.setTop (mkF m 20 #[.val (.int p1), .val (.int p2), .val (.int i), .val (.int j), .unset, .unset, .unset] [(.ref (own_pk i c0 c1 c2 c3 c4 c5))])) (OEnd s (fun v h L => v = some (.int (1 : Int32)) ∧ Fr n0 L) room_1.cells room_1.slots)
  refine OGo.step (fun _ kk => XS.astore X9.here hx rfl (hb hby at_20) rfl rfl (l' := #[.val (.int p1), .val (.int p2), .val (.int i), .val (.int j), .val (.ref (own_pk i c0 c1 c2 c3 c4 c5)), .unset, .unset]) rfl kk) ?_
  show OGo p e below (T9.setTop (mkF m 22 #[.val (.int p1), .val (.int p2), .val (.int i), .val (.int j), .val (.ref (own_pk i c0 c1 c2 c3 c4 c5)), .unset, .unset] [])) (OEnd s (fun v h L => v = some (.int (1 : Int32)) ∧ Fr n0 L) room_1.cells room_1.slots)
  refine OGo.step (fun _ kk => XS.iloadN X9.here hx rfl (hb hby at_22) rfl kk) ?_
  show OGo p e below (T9.setTop (mkF m 23 #[.val (.int p1), .val (.int p2), .val (.int i), .val (.int j), .val (.ref (own_pk i c0 c1 c2 c3 c4 c5)), .unset, .unset] [(.int j)])) (OEnd s (fun v h L => v = some (.int (1 : Int32)) ∧ Fr n0 L) room_1.cells room_1.slots)
  have eA : T9.heap = h0 := e9
  refine own_callS X9 hx hZ (y := (⟨"com/example/tokengauge/tokengauge/cli/ExitStatusMaxPinLaw", "pick", "(I)Lcom/example/tokengauge/tokengauge/cli/ExitStatus;"⟩ : MethodName)) hown (hw _ (List.mem_of_getElem? (i := 1) rfl)) (hw _ (List.mem_of_getElem? (i := 2) rfl)) (hw _ (List.mem_of_getElem? (i := 3) rfl)) (hw _ (List.mem_of_getElem? (i := 4) rfl)) (by decide) (W := 0) (own_rm1 l Z a0 hw [] j c0 c1 c2 c3 c4 c5 h0 n0 Z0 S0 S1 S2 S3 S4 S5) e9  (pc := 23) (Ls := #[.val (.int p1), .val (.int p2), .val (.int i), .val (.int j), .val (.ref (own_pk i c0 c1 c2 c3 c4 c5)), .unset, .unset]) (argsL := [(.int j)]) (rest := []) (by rw [hml]; rfl) (lenOf own_pd0 rfl) rfl (hb hby at_23) (by decide) (by decide) (by decide) (by decide) ?_
  intro v10 T10 L10 X10 hQ10
  obtain ⟨rfl, N10, e10⟩ := hQ10
  show OGo p e below (T10.setTop (mkF m 26 #[.val (.int p1), .val (.int p2), .val (.int i), .val (.int j), .val (.ref (own_pk i c0 c1 c2 c3 c4 c5)), .unset, .unset] [(.ref (own_pk j c0 c1 c2 c3 c4 c5))])) (OEnd s (fun v h L => v = some (.int (1 : Int32)) ∧ Fr n0 L) room_1.cells room_1.slots)
  refine OGo.step (fun _ kk => XS.astore X10.here hx rfl (hb hby at_26) rfl rfl (l' := #[.val (.int p1), .val (.int p2), .val (.int i), .val (.int j), .val (.ref (own_pk i c0 c1 c2 c3 c4 c5)), .val (.ref (own_pk j c0 c1 c2 c3 c4 c5)), .unset]) rfl kk) ?_
  show OGo p e below (T10.setTop (mkF m 28 #[.val (.int p1), .val (.int p2), .val (.int i), .val (.int j), .val (.ref (own_pk i c0 c1 c2 c3 c4 c5)), .val (.ref (own_pk j c0 c1 c2 c3 c4 c5)), .unset] [])) (OEnd s (fun v h L => v = some (.int (1 : Int32)) ∧ Fr n0 L) room_1.cells room_1.slots)
  refine OGo.step (fun _ kk => XS.iloadN X10.here hx rfl (hb hby at_28) rfl kk) ?_
  show OGo p e below (T10.setTop (mkF m 29 #[.val (.int p1), .val (.int p2), .val (.int i), .val (.int j), .val (.ref (own_pk i c0 c1 c2 c3 c4 c5)), .val (.ref (own_pk j c0 c1 c2 c3 c4 c5)), .unset] [(.int i)])) (OEnd s (fun v h L => v = some (.int (1 : Int32)) ∧ Fr n0 L) room_1.cells room_1.slots)
  refine OGo.step (fun _ kk => XS.iloadN X10.here hx rfl (hb hby at_29) rfl kk) ?_
  show OGo p e below (T10.setTop (mkF m 30 #[.val (.int p1), .val (.int p2), .val (.int i), .val (.int j), .val (.ref (own_pk i c0 c1 c2 c3 c4 c5)), .val (.ref (own_pk j c0 c1 c2 c3 c4 c5)), .unset] [(.int j), (.int i)])) (OEnd s (fun v h L => v = some (.int (1 : Int32)) ∧ Fr n0 L) room_1.cells room_1.slots)
  by_cases hlt : i < j
  · refine OGo.step (fun _ kk => XS.icmpYes X10.here hx rfl (pc0 := 30) (pc' := 38) rfl (hb hby at_30) rfl (tlt hlt).1 (by decide) (by decide) kk) ?_
    show OGo p e below (T10.setTop (mkF m 38 #[.val (.int p1), .val (.int p2), .val (.int i), .val (.int j), .val (.ref (own_pk i c0 c1 c2 c3 c4 c5)), .val (.ref (own_pk j c0 c1 c2 c3 c4 c5)), .unset] [])) (OEnd s (fun v h L => v = some (.int (1 : Int32)) ∧ Fr n0 L) room_1.cells room_1.slots)
    refine OGo.step (fun _ kk => XS.aload X10.here hx rfl (hb hby at_38) rfl rfl kk) ?_
    show OGo p e below (T10.setTop (mkF m 40 #[.val (.int p1), .val (.int p2), .val (.int i), .val (.int j), .val (.ref (own_pk i c0 c1 c2 c3 c4 c5)), .val (.ref (own_pk j c0 c1 c2 c3 c4 c5)), .unset] [(.ref (own_pk j c0 c1 c2 c3 c4 c5))])) (OEnd s (fun v h L => v = some (.int (1 : Int32)) ∧ Fr n0 L) room_1.cells room_1.slots)
    refine OGo.step (fun _ kk => XS.astore X10.here hx rfl (hb hby at_40) rfl rfl (l' := #[.val (.int p1), .val (.int p2), .val (.int i), .val (.int j), .val (.ref (own_pk i c0 c1 c2 c3 c4 c5)), .val (.ref (own_pk j c0 c1 c2 c3 c4 c5)), .val (.ref (own_pk j c0 c1 c2 c3 c4 c5))]) rfl kk) ?_
    show OGo p e below (T10.setTop (mkF m 42 #[.val (.int p1), .val (.int p2), .val (.int i), .val (.int j), .val (.ref (own_pk i c0 c1 c2 c3 c4 c5)), .val (.ref (own_pk j c0 c1 c2 c3 c4 c5)), .val (.ref (own_pk j c0 c1 c2 c3 c4 c5))] [])) (OEnd s (fun v h L => v = some (.int (1 : Int32)) ∧ Fr n0 L) room_1.cells room_1.slots)
    refine OGo.step (fun _ kk => XS.aload X10.here hx rfl (hb hby at_42) rfl rfl kk) ?_
    show OGo p e below (T10.setTop (mkF m 44 #[.val (.int p1), .val (.int p2), .val (.int i), .val (.int j), .val (.ref (own_pk i c0 c1 c2 c3 c4 c5)), .val (.ref (own_pk j c0 c1 c2 c3 c4 c5)), .val (.ref (own_pk j c0 c1 c2 c3 c4 c5))] [(.ref (own_pk i c0 c1 c2 c3 c4 c5))])) (OEnd s (fun v h L => v = some (.int (1 : Int32)) ∧ Fr n0 L) room_1.cells room_1.slots)
    refine OGo.step (fun _ kk => XS.aload X10.here hx rfl (hb hby at_44) rfl rfl kk) ?_
    show OGo p e below (T10.setTop (mkF m 46 #[.val (.int p1), .val (.int p2), .val (.int i), .val (.int j), .val (.ref (own_pk i c0 c1 c2 c3 c4 c5)), .val (.ref (own_pk j c0 c1 c2 c3 c4 c5)), .val (.ref (own_pk j c0 c1 c2 c3 c4 c5))] [(.ref (own_pk j c0 c1 c2 c3 c4 c5)), (.ref (own_pk i c0 c1 c2 c3 c4 c5))])) (OEnd s (fun v h L => v = some (.int (1 : Int32)) ∧ Fr n0 L) room_1.cells room_1.slots)
    refine own_virtual X10 hx hZ (y := (⟨"com/example/tokengauge/tokengauge/cli/ExitStatus", "max", "(Lcom/example/tokengauge/tokengauge/cli/ExitStatus;)Lcom/example/tokengauge/tokengauge/cli/ExitStatus;"⟩ : MethodName)) (z := (⟨"com/example/tokengauge/tokengauge/cli/ExitStatus", "max", "(Lcom/example/tokengauge/tokengauge/cli/ExitStatus;)Lcom/example/tokengauge/tokengauge/cli/ExitStatus;"⟩ : MethodName)) hown (hw _ (List.mem_of_getElem? (i := 10) rfl)) (hw _ (List.mem_of_getElem? (i := 11) rfl)) (notFace_of_selects (args := #[]) (mvT hZ (hw _ (List.mem_of_getElem? (i := 13) rfl)))) (hw _ (List.mem_of_getElem? (i := 13) rfl)) (hw _ (List.mem_of_getElem? (i := 12) rfl)) (by decide) (hw _ (List.mem_of_getElem? (i := 14) rfl)) (hw _ (List.mem_of_getElem? (i := 6) rfl)) (b := (own_pk i c0 c1 c2 c3 c4 c5)) (own_exa (i := i) E0 E1 E2 E3 E4 E5 i6) (W := 0) (own_rm2 l Z a0 hw [] (own_pk i c0 c1 c2 c3 c4 c5) (own_pk j c0 c1 c2 c3 c4 c5) i j h0 n0 Z0 (own_fld (i := i) F0 F1 F2 F3 F4 F5 i6) (own_fld (i := j) F0 F1 F2 F3 F4 F5 j6)) e10  (pc := 46) (Ls := #[.val (.int p1), .val (.int p2), .val (.int i), .val (.int j), .val (.ref (own_pk i c0 c1 c2 c3 c4 c5)), .val (.ref (own_pk j c0 c1 c2 c3 c4 c5)), .val (.ref (own_pk j c0 c1 c2 c3 c4 c5))]) (argsL := [(.ref (own_pk j c0 c1 c2 c3 c4 c5))]) (rest := []) (by rw [hml]; rfl) (lenOf own_pd1 rfl) rfl (hb hby at_46) (by decide) (by decide) (by decide) (by decide) ?_
    intro v11 T11 L11 X11 hQ11
    obtain ⟨rfl, N11, e11⟩ := hQ11
    show OGo p e below (T11.setTop (mkF m 49 #[.val (.int p1), .val (.int p2), .val (.int i), .val (.int j), .val (.ref (own_pk i c0 c1 c2 c3 c4 c5)), .val (.ref (own_pk j c0 c1 c2 c3 c4 c5)), .val (.ref (own_pk j c0 c1 c2 c3 c4 c5))] [(.ref (if i < j then (own_pk j c0 c1 c2 c3 c4 c5) else (own_pk i c0 c1 c2 c3 c4 c5)))])) (OEnd s (fun v h L => v = some (.int (1 : Int32)) ∧ Fr n0 L) room_1.cells room_1.slots)
    rw [if_pos hlt]
    show OGo p e below (T11.setTop (mkF m 49 #[.val (.int p1), .val (.int p2), .val (.int i), .val (.int j), .val (.ref (own_pk i c0 c1 c2 c3 c4 c5)), .val (.ref (own_pk j c0 c1 c2 c3 c4 c5)), .val (.ref (own_pk j c0 c1 c2 c3 c4 c5))] [(.ref (own_pk j c0 c1 c2 c3 c4 c5))])) (OEnd s (fun v h L => v = some (.int (1 : Int32)) ∧ Fr n0 L) room_1.cells room_1.slots)
    refine OGo.step (fun _ kk => XS.aload X11.here hx rfl (hb hby at_49) rfl rfl kk) ?_
    show OGo p e below (T11.setTop (mkF m 51 #[.val (.int p1), .val (.int p2), .val (.int i), .val (.int j), .val (.ref (own_pk i c0 c1 c2 c3 c4 c5)), .val (.ref (own_pk j c0 c1 c2 c3 c4 c5)), .val (.ref (own_pk j c0 c1 c2 c3 c4 c5))] [(.ref (own_pk j c0 c1 c2 c3 c4 c5)), (.ref (own_pk j c0 c1 c2 c3 c4 c5))])) (OEnd s (fun v h L => v = some (.int (1 : Int32)) ∧ Fr n0 L) room_1.cells room_1.slots)
    refine OGo.step (fun _ kk => Jvm.RoadKit.acmp (g := (mkF m 51 #[.val (.int p1), .val (.int p2), .val (.int i), .val (.int j), .val (.ref (own_pk i c0 c1 c2 c3 c4 c5)), .val (.ref (own_pk j c0 c1 c2 c3 c4 c5)), .val (.ref (own_pk j c0 c1 c2 c3 c4 c5))] [(.ref (own_pk j c0 c1 c2 c3 c4 c5)), (.ref (own_pk j c0 c1 c2 c3 c4 c5))])) X11 hx rfl rfl rfl (pc0 := 51) (pc' := 54) (same := true) rfl (hb hby at_51) rfl (decide_eq_true rfl) (by decide) (by decide) kk) ?_
    show OGo p e below (T11.setTop (mkF m 54 #[.val (.int p1), .val (.int p2), .val (.int i), .val (.int j), .val (.ref (own_pk i c0 c1 c2 c3 c4 c5)), .val (.ref (own_pk j c0 c1 c2 c3 c4 c5)), .val (.ref (own_pk j c0 c1 c2 c3 c4 c5))] [])) (OEnd s (fun v h L => v = some (.int (1 : Int32)) ∧ Fr n0 L) room_1.cells room_1.slots)
    refine OGo.step (fun _ kk => XS.iconst X11.here hx rfl (hb hby at_54) kk) ?_
    show OGo p e below (T11.setTop (mkF m 55 #[.val (.int p1), .val (.int p2), .val (.int i), .val (.int j), .val (.ref (own_pk i c0 c1 c2 c3 c4 c5)), .val (.ref (own_pk j c0 c1 c2 c3 c4 c5)), .val (.ref (own_pk j c0 c1 c2 c3 c4 c5))] [(.int (1 : Int32))])) (OEnd s (fun v h L => v = some (.int (1 : Int32)) ∧ Fr n0 L) room_1.cells room_1.slots)
    refine OGo.step (fun _ kk => XS.goto X11.here hx rfl (pc0 := 55) (pc' := 59) rfl (hb hby at_55) (by decide) (by decide) kk) ?_
    show OGo p e below (T11.setTop (mkF m 59 #[.val (.int p1), .val (.int p2), .val (.int i), .val (.int j), .val (.ref (own_pk i c0 c1 c2 c3 c4 c5)), .val (.ref (own_pk j c0 c1 c2 c3 c4 c5)), .val (.ref (own_pk j c0 c1 c2 c3 c4 c5))] [(.int (1 : Int32))])) (OEnd s (fun v h L => v = some (.int (1 : Int32)) ∧ Fr n0 L) room_1.cells room_1.slots)
    exact own_retN X11 hx hlk hret (by simp) (hb hby at_59) ⟨rfl, (((Fr.nil n0).app N9).app N10).app N11⟩ (by decide) (by decide)
  · refine OGo.step (fun _ kk => XS.icmpNo X10.here hx rfl (hb hby at_30) rfl (flt hlt).1 kk) ?_
    show OGo p e below (T10.setTop (mkF m 33 #[.val (.int p1), .val (.int p2), .val (.int i), .val (.int j), .val (.ref (own_pk i c0 c1 c2 c3 c4 c5)), .val (.ref (own_pk j c0 c1 c2 c3 c4 c5)), .unset] [])) (OEnd s (fun v h L => v = some (.int (1 : Int32)) ∧ Fr n0 L) room_1.cells room_1.slots)
    refine OGo.step (fun _ kk => XS.aload X10.here hx rfl (hb hby at_33) rfl rfl kk) ?_
    show OGo p e below (T10.setTop (mkF m 35 #[.val (.int p1), .val (.int p2), .val (.int i), .val (.int j), .val (.ref (own_pk i c0 c1 c2 c3 c4 c5)), .val (.ref (own_pk j c0 c1 c2 c3 c4 c5)), .unset] [(.ref (own_pk i c0 c1 c2 c3 c4 c5))])) (OEnd s (fun v h L => v = some (.int (1 : Int32)) ∧ Fr n0 L) room_1.cells room_1.slots)
    refine OGo.step (fun _ kk => XS.goto X10.here hx rfl (pc0 := 35) (pc' := 40) rfl (hb hby at_35) (by decide) (by decide) kk) ?_
    show OGo p e below (T10.setTop (mkF m 40 #[.val (.int p1), .val (.int p2), .val (.int i), .val (.int j), .val (.ref (own_pk i c0 c1 c2 c3 c4 c5)), .val (.ref (own_pk j c0 c1 c2 c3 c4 c5)), .unset] [(.ref (own_pk i c0 c1 c2 c3 c4 c5))])) (OEnd s (fun v h L => v = some (.int (1 : Int32)) ∧ Fr n0 L) room_1.cells room_1.slots)
    refine OGo.step (fun _ kk => XS.astore X10.here hx rfl (hb hby at_40) rfl rfl (l' := #[.val (.int p1), .val (.int p2), .val (.int i), .val (.int j), .val (.ref (own_pk i c0 c1 c2 c3 c4 c5)), .val (.ref (own_pk j c0 c1 c2 c3 c4 c5)), .val (.ref (own_pk i c0 c1 c2 c3 c4 c5))]) rfl kk) ?_
    show OGo p e below (T10.setTop (mkF m 42 #[.val (.int p1), .val (.int p2), .val (.int i), .val (.int j), .val (.ref (own_pk i c0 c1 c2 c3 c4 c5)), .val (.ref (own_pk j c0 c1 c2 c3 c4 c5)), .val (.ref (own_pk i c0 c1 c2 c3 c4 c5))] [])) (OEnd s (fun v h L => v = some (.int (1 : Int32)) ∧ Fr n0 L) room_1.cells room_1.slots)
    refine OGo.step (fun _ kk => XS.aload X10.here hx rfl (hb hby at_42) rfl rfl kk) ?_
    show OGo p e below (T10.setTop (mkF m 44 #[.val (.int p1), .val (.int p2), .val (.int i), .val (.int j), .val (.ref (own_pk i c0 c1 c2 c3 c4 c5)), .val (.ref (own_pk j c0 c1 c2 c3 c4 c5)), .val (.ref (own_pk i c0 c1 c2 c3 c4 c5))] [(.ref (own_pk i c0 c1 c2 c3 c4 c5))])) (OEnd s (fun v h L => v = some (.int (1 : Int32)) ∧ Fr n0 L) room_1.cells room_1.slots)
    refine OGo.step (fun _ kk => XS.aload X10.here hx rfl (hb hby at_44) rfl rfl kk) ?_
    show OGo p e below (T10.setTop (mkF m 46 #[.val (.int p1), .val (.int p2), .val (.int i), .val (.int j), .val (.ref (own_pk i c0 c1 c2 c3 c4 c5)), .val (.ref (own_pk j c0 c1 c2 c3 c4 c5)), .val (.ref (own_pk i c0 c1 c2 c3 c4 c5))] [(.ref (own_pk j c0 c1 c2 c3 c4 c5)), (.ref (own_pk i c0 c1 c2 c3 c4 c5))])) (OEnd s (fun v h L => v = some (.int (1 : Int32)) ∧ Fr n0 L) room_1.cells room_1.slots)
    refine own_virtual X10 hx hZ (y := (⟨"com/example/tokengauge/tokengauge/cli/ExitStatus", "max", "(Lcom/example/tokengauge/tokengauge/cli/ExitStatus;)Lcom/example/tokengauge/tokengauge/cli/ExitStatus;"⟩ : MethodName)) (z := (⟨"com/example/tokengauge/tokengauge/cli/ExitStatus", "max", "(Lcom/example/tokengauge/tokengauge/cli/ExitStatus;)Lcom/example/tokengauge/tokengauge/cli/ExitStatus;"⟩ : MethodName)) hown (hw _ (List.mem_of_getElem? (i := 10) rfl)) (hw _ (List.mem_of_getElem? (i := 11) rfl)) (notFace_of_selects (args := #[]) (mvT hZ (hw _ (List.mem_of_getElem? (i := 13) rfl)))) (hw _ (List.mem_of_getElem? (i := 13) rfl)) (hw _ (List.mem_of_getElem? (i := 12) rfl)) (by decide) (hw _ (List.mem_of_getElem? (i := 14) rfl)) (hw _ (List.mem_of_getElem? (i := 6) rfl)) (b := (own_pk i c0 c1 c2 c3 c4 c5)) (own_exa (i := i) E0 E1 E2 E3 E4 E5 i6) (W := 0) (own_rm2 l Z a0 hw [] (own_pk i c0 c1 c2 c3 c4 c5) (own_pk j c0 c1 c2 c3 c4 c5) i j h0 n0 Z0 (own_fld (i := i) F0 F1 F2 F3 F4 F5 i6) (own_fld (i := j) F0 F1 F2 F3 F4 F5 j6)) e10  (pc := 46) (Ls := #[.val (.int p1), .val (.int p2), .val (.int i), .val (.int j), .val (.ref (own_pk i c0 c1 c2 c3 c4 c5)), .val (.ref (own_pk j c0 c1 c2 c3 c4 c5)), .val (.ref (own_pk i c0 c1 c2 c3 c4 c5))]) (argsL := [(.ref (own_pk j c0 c1 c2 c3 c4 c5))]) (rest := []) (by rw [hml]; rfl) (lenOf own_pd1 rfl) rfl (hb hby at_46) (by decide) (by decide) (by decide) (by decide) ?_
    intro v12 T12 L12 X12 hQ12
    obtain ⟨rfl, N12, e12⟩ := hQ12
    show OGo p e below (T12.setTop (mkF m 49 #[.val (.int p1), .val (.int p2), .val (.int i), .val (.int j), .val (.ref (own_pk i c0 c1 c2 c3 c4 c5)), .val (.ref (own_pk j c0 c1 c2 c3 c4 c5)), .val (.ref (own_pk i c0 c1 c2 c3 c4 c5))] [(.ref (if i < j then (own_pk j c0 c1 c2 c3 c4 c5) else (own_pk i c0 c1 c2 c3 c4 c5)))])) (OEnd s (fun v h L => v = some (.int (1 : Int32)) ∧ Fr n0 L) room_1.cells room_1.slots)
    rw [if_neg hlt]
    show OGo p e below (T12.setTop (mkF m 49 #[.val (.int p1), .val (.int p2), .val (.int i), .val (.int j), .val (.ref (own_pk i c0 c1 c2 c3 c4 c5)), .val (.ref (own_pk j c0 c1 c2 c3 c4 c5)), .val (.ref (own_pk i c0 c1 c2 c3 c4 c5))] [(.ref (own_pk i c0 c1 c2 c3 c4 c5))])) (OEnd s (fun v h L => v = some (.int (1 : Int32)) ∧ Fr n0 L) room_1.cells room_1.slots)
    refine OGo.step (fun _ kk => XS.aload X12.here hx rfl (hb hby at_49) rfl rfl kk) ?_
    show OGo p e below (T12.setTop (mkF m 51 #[.val (.int p1), .val (.int p2), .val (.int i), .val (.int j), .val (.ref (own_pk i c0 c1 c2 c3 c4 c5)), .val (.ref (own_pk j c0 c1 c2 c3 c4 c5)), .val (.ref (own_pk i c0 c1 c2 c3 c4 c5))] [(.ref (own_pk i c0 c1 c2 c3 c4 c5)), (.ref (own_pk i c0 c1 c2 c3 c4 c5))])) (OEnd s (fun v h L => v = some (.int (1 : Int32)) ∧ Fr n0 L) room_1.cells room_1.slots)
    refine OGo.step (fun _ kk => Jvm.RoadKit.acmp (g := (mkF m 51 #[.val (.int p1), .val (.int p2), .val (.int i), .val (.int j), .val (.ref (own_pk i c0 c1 c2 c3 c4 c5)), .val (.ref (own_pk j c0 c1 c2 c3 c4 c5)), .val (.ref (own_pk i c0 c1 c2 c3 c4 c5))] [(.ref (own_pk i c0 c1 c2 c3 c4 c5)), (.ref (own_pk i c0 c1 c2 c3 c4 c5))])) X12 hx rfl rfl rfl (pc0 := 51) (pc' := 54) (same := true) rfl (hb hby at_51) rfl (decide_eq_true rfl) (by decide) (by decide) kk) ?_
    show OGo p e below (T12.setTop (mkF m 54 #[.val (.int p1), .val (.int p2), .val (.int i), .val (.int j), .val (.ref (own_pk i c0 c1 c2 c3 c4 c5)), .val (.ref (own_pk j c0 c1 c2 c3 c4 c5)), .val (.ref (own_pk i c0 c1 c2 c3 c4 c5))] [])) (OEnd s (fun v h L => v = some (.int (1 : Int32)) ∧ Fr n0 L) room_1.cells room_1.slots)
    refine OGo.step (fun _ kk => XS.iconst X12.here hx rfl (hb hby at_54) kk) ?_
    show OGo p e below (T12.setTop (mkF m 55 #[.val (.int p1), .val (.int p2), .val (.int i), .val (.int j), .val (.ref (own_pk i c0 c1 c2 c3 c4 c5)), .val (.ref (own_pk j c0 c1 c2 c3 c4 c5)), .val (.ref (own_pk i c0 c1 c2 c3 c4 c5))] [(.int (1 : Int32))])) (OEnd s (fun v h L => v = some (.int (1 : Int32)) ∧ Fr n0 L) room_1.cells room_1.slots)
    refine OGo.step (fun _ kk => XS.goto X12.here hx rfl (pc0 := 55) (pc' := 59) rfl (hb hby at_55) (by decide) (by decide) kk) ?_
    show OGo p e below (T12.setTop (mkF m 59 #[.val (.int p1), .val (.int p2), .val (.int i), .val (.int j), .val (.ref (own_pk i c0 c1 c2 c3 c4 c5)), .val (.ref (own_pk j c0 c1 c2 c3 c4 c5)), .val (.ref (own_pk i c0 c1 c2 c3 c4 c5))] [(.int (1 : Int32))])) (OEnd s (fun v h L => v = some (.int (1 : Int32)) ∧ Fr n0 L) room_1.cells room_1.slots)
    exact own_retN X12 hx hlk hret (by simp) (hb hby at_59) ⟨rfl, (((Fr.nil n0).app N9).app N10).app N12⟩ (by decide) (by decide)

set_option maxRecDepth 65536 in
set_option maxHeartbeats 40000000 in
theorem comes_1 {Post : Tables → Env → Array Value → State → Outcome → State → Prop} (hpost : ∀ tb e args s v u, (limb_1_1.after args s (.returned v) u = true ∧ limb_1_2.after args s (.returned v) u = true ∧ True) → FrameEnd s (.returned v) u (Jvm.fieldLocs frame_1_writes args s ++ Jvm.arrayLocs frame_1_arrays args s ++ Jvm.staticLocs frame_1_statics s) 0 0 → Post tb e args s (.returned v) u) :
    ArmFor flags0 classFile x code maxLocals ret World_1 tables_1 room_1 Calls_1 rest_1 Pre_1 Post := by
  intro l hfl _ _ p e ha hc hk s m args below hf hA hF happ hP
  obtain ⟨hcalls, hrest, hpre⟩ := hP
  obtain ⟨-, -, -, hnamed, -, -, -, hat⟩ := (Spec.applies_iff hf).mp happ
  obtain ⟨hg, hn⟩ := and_e (Cond.before_iff.mp (show (Jvm.Cond.and given_1 narrow_1).before args s = true from hpre))
  obtain ⟨k13, k13'⟩ := and_e hg
  obtain ⟨k14, k14'⟩ := and_e k13'
  obtain ⟨w0_, w1_, rfl⟩ : ∃ w0_ w1_ : Value, args = #[w0_, w1_] := by
    have hs : args.size = 2 := by simpa [Cond.value, given_1] using k13
    obtain ⟨L⟩ := args
    match L, hs with
    | [w0_, w1_], _ => exact ⟨w0_, w1_, rfl⟩
  have hw := fun d (hd : d ∈ tables_1) => atoms_spec (ws := Jvm.Cond.code x code maxLocals ret :: tables_1) hat d (List.mem_cons_of_mem _ hd)
  have hfit : Fit s := fun {y c} hc i hi => by
    obtain ⟨ha, rfl⟩ := Array.getElem?_eq_some_iff.mp hc
    have q := List.all_eq_true.mp ((Array.all_eq_true_iff_forall_mem.mp hF) _ (Array.getElem_mem ha)) i (List.mem_range.mpr hi)
    simpa [Array.getElem?_eq_getElem hi] using q
  obtain ⟨i0, ei0⟩ := is_v k14
  obtain rfl : w0_ = (.int i0) := Option.some.inj ei0
  obtain ⟨i1, ei1⟩ := is_v k14'
  obtain rfl : w1_ = (.int i1) := Option.some.inj ei1
  obtain ⟨k15, k15'⟩ := and_e hn
  obtain ⟨k16, k16'⟩ := and_e k15'
  obtain ⟨k17, k17'⟩ := and_e k16'
  obtain ⟨k18, k18'⟩ := and_e k17'
  obtain ⟨k19, k19'⟩ := and_e k18'
  obtain ⟨k20, k20'⟩ := and_e k19'
  obtain ⟨k21, k21'⟩ := and_e k20'
  obtain ⟨k22, k22'⟩ := and_e k21'
  obtain ⟨k23, k23'⟩ := and_e k22'
  obtain ⟨k24, k24'⟩ := and_e k23'
  obtain ⟨k25, k25'⟩ := and_e k24'
  obtain ⟨a_OK, ev_OK⟩ := exa_v k15
  have S_OK := Sta.start ev_OK (Or.inr ⟨(hw _ (List.mem_of_getElem? (i := 6) rfl)), (hw _ (List.mem_of_getElem? (i := 7) rfl))⟩)
  have E_OK := Exa.start ev_OK k15
  obtain ⟨a_UNSUPPORTED, ev_UNSUPPORTED⟩ := exa_v k16
  have S_UNSUPPORTED := Sta.start ev_UNSUPPORTED (Or.inr ⟨(hw _ (List.mem_of_getElem? (i := 6) rfl)), (hw _ (List.mem_of_getElem? (i := 9) rfl))⟩)
  have E_UNSUPPORTED := Exa.start ev_UNSUPPORTED k16
  obtain ⟨a_UNREADABLE, ev_UNREADABLE⟩ := exa_v k19
  have S_UNREADABLE := Sta.start ev_UNREADABLE (Or.inr ⟨(hw _ (List.mem_of_getElem? (i := 6) rfl)), (hw _ (List.mem_of_getElem? (i := 18) rfl))⟩)
  have E_UNREADABLE := Exa.start ev_UNREADABLE k19
  obtain ⟨a_USAGE, ev_USAGE⟩ := exa_v k20
  have S_USAGE := Sta.start ev_USAGE (Or.inr ⟨(hw _ (List.mem_of_getElem? (i := 6) rfl)), (hw _ (List.mem_of_getElem? (i := 20) rfl))⟩)
  have E_USAGE := Exa.start ev_USAGE k20
  obtain ⟨a_OUTPUT_LOST, ev_OUTPUT_LOST⟩ := exa_v k23
  have S_OUTPUT_LOST := Sta.start ev_OUTPUT_LOST (Or.inr ⟨(hw _ (List.mem_of_getElem? (i := 6) rfl)), (hw _ (List.mem_of_getElem? (i := 22) rfl))⟩)
  have E_OUTPUT_LOST := Exa.start ev_OUTPUT_LOST k23
  obtain ⟨a_INTERNAL_ERROR, ev_INTERNAL_ERROR⟩ := exa_v k25
  have S_INTERNAL_ERROR := Sta.start ev_INTERNAL_ERROR (Or.inr ⟨(hw _ (List.mem_of_getElem? (i := 6) rfl)), (hw _ (List.mem_of_getElem? (i := 24) rfl))⟩)
  have E_INTERNAL_ERROR := Exa.start ev_INTERNAL_ERROR k25
  have F_UNSUPPORTED_code := Fld.start ((fld_at ev_UNSUPPORTED).symm.trans (own_eqv k17 rfl))
  have F_OK_code := Fld.start ((fld_at ev_OK).symm.trans (own_eqv k18 rfl))
  have F_USAGE_code := Fld.start ((fld_at ev_USAGE).symm.trans (own_eqv k21 rfl))
  have F_UNREADABLE_code := Fld.start ((fld_at ev_UNREADABLE).symm.trans (own_eqv k22 rfl))
  have F_OUTPUT_LOST_code := Fld.start ((fld_at ev_OUTPUT_LOST).symm.trans (own_eqv k24 rfl))
  have F_INTERNAL_ERROR_code := Fld.start ((fld_at ev_INTERNAL_ERROR).symm.trans (own_eqv k25' rfl))
  obtain ⟨n, o, h1, h2, h3, _, L, rfl, ⟨rfl, N⟩, hq⟩ := own_rm0 l s _ hw tables_1 i0 i1 a_OK a_USAGE a_UNREADABLE a_UNSUPPORTED a_INTERNAL_ERROR a_OUTPUT_LOST s.heap s.heap.size (Nat.le_refl _) S_OK S_USAGE S_UNREADABLE S_UNSUPPORTED S_INTERNAL_ERROR S_OUTPUT_LOST F_OK_code E_OK F_USAGE_code E_USAGE F_UNREADABLE_code E_UNREADABLE F_UNSUPPORTED_code E_UNSUPPORTED F_INTERNAL_ERROR_code E_INTERNAL_ERROR F_OUTPUT_LOST_code E_OUTPUT_LOST p e ha hc hk s m _ below hf ((Spec.applies_iff_loose hf).mp happ).1 ⟨rfl, State.Warmed39.refl s, rfl⟩ trivial
  exact ⟨n, _, h1, h2, h3, hpost _ _ _ _ _ _ ⟨Cond.after_iff.mpr rfl, Cond.after_iff.mpr (eq_i res_at (Term.int_eval (1)) rfl), trivial⟩ ⟨hq.1, hq.2.1, (hq.2.2.sift fun y hy => Or.inr (N y hy)).mono (by decide) (by decide)⟩⟩
theorem main_1_1 : Claimed_1_1 := comes_1 fun _ _ _ _ _ _ h hF => ⟨h.1, hF⟩
theorem main_1_2 : Claimed_1_2 := comes_1 fun _ _ _ _ _ _ h hF => ⟨h.2.1, hF⟩
end Jvm.Pilot.@@N@@
namespace Jvm.Pilot.@@N@@
open Jvm Jvm.ClassFile Sem Op Lib Jvm.Free Jvm.Stand Jvm.Pilot.@@N@@.Jvm.D
/-! MADE BY PROGRAM (witnessworld.py) out of the Statement's table words and the real class files: 12 classes; the members and pool entries that the words name. The judged class is class 1, her method 1. -/
namespace start1
open Jvm.ClassFile
def u (s : String) : CpInfo := .utf8 (stringToUtf16 s)
/-- a pool by its gaps: so many unusable entries, then the entry; so many at the end -/
def gap : Nat → List CpInfo → List CpInfo
  | 0, r => r
  | n + 1, r => .unusable :: gap n r
def poolList (es : List (Nat × CpInfo)) (last : Nat) : List CpInfo := es.foldr (fun e r => gap e.1 (e.2 :: r)) (gap last [])
def pool (es : List (Nat × CpInfo)) (last : Nat) : Array CpInfo := ⟨poolList es last⟩
def fileOf (pool : Array CpInfo) (this : Nat) (attrs : Array Attribute := #[]) (ms : Array MethodInfo := #[]) (fl : Nat := 33) (sup : Nat := 0) (ifs : Array Nat := #[]) (fds : Array FieldInfo := #[]) : ClassFile where
  minorVersion := 0
  majorVersion := 65
  constantPool := pool
  accessFlags := fl
  thisClass := this
  superClass := sup
  interfaces := ifs
  fields := fds
  methods := ms
  attributes := attrs
def plain (name : String) (sup : Option ClassId) : Class where
  name := name
  kind := .ordinary
  loader := none
  accessFlags := 33
  super := sup
  interfaces := #[]
  cf := none
  fields := #[]
  methods := #[]
  instanceTypes := #[]
  staticTypes := #[]
  resolved := #[]
  callSites := []
  init := .initialized
  statics := none
  mirror := none

def pool0 : Array CpInfo := pool [(5, u "<init>"), (0, u "()V"), (1, .class_ 10), (1, u "java/lang/Object")] 113

def k0m0 : Method := { name := "<init>", desc := "()V", sig := { parameters := [], returnType := none }, accessFlags := 1, code := none }
/-- java/lang/Object -/
def k0 : Class := { plain "java/lang/Object" none with
  accessFlags := 33
  interfaces := #[]
  cf := some (fileOf pool0 8 #[] #[{ accessFlags := 1, nameIndex := 5, descriptorIndex := 6, attributes := #[] }] 33 0 #[] #[])
  fields := #[]
  methods := #[k0m0]
  instanceTypes := #[]
  staticTypes := #[]
  resolved := Array.replicate 124 none
  statics := none }

def pool1 : Array CpInfo := pool [(2, .class_ 4), (1, u "java/lang/Object"), (0, u "<init>"), (0, u "()V"), (0, .integer 2147483647), (0, .methodref 9 10), (0, .class_ 11), (0, .nameAndType 12 13), (0, u "com/example/tokengauge/tokengauge/cli/ExitStatusMaxPinLaw"), (0, u "pick"), (0, u "(I)Lcom/example/tokengauge/tokengauge/cli/ExitStatus;"), (0, .methodref 15 16), (0, .class_ 17), (0, .nameAndType 18 19), (0, u "com/example/tokengauge/tokengauge/cli/ExitStatus"), (0, u "max"), (0, u "(Lcom/example/tokengauge/tokengauge/cli/ExitStatus;)Lcom/example/tokengauge/tokengauge/cli/ExitStatus;"), (0, .fieldref 15 21), (0, .nameAndType 22 23), (0, u "OK"), (0, u "Lcom/example/tokengauge/tokengauge/cli/ExitStatus;"), (0, .fieldref 15 25), (0, .nameAndType 26 23), (0, u "USAGE"), (0, .fieldref 15 28), (0, .nameAndType 29 23), (0, u "UNREADABLE"), (0, .fieldref 15 31), (0, .nameAndType 32 23), (0, u "UNSUPPORTED"), (0, .fieldref 15 34), (0, .nameAndType 35 23), (0, u "INTERNAL_ERROR"), (0, .fieldref 15 37), (0, .nameAndType 38 23), (0, u "OUTPUT_LOST"), (2, u "law"), (0, u "(II)Z")] 3

def k1m0 : Method := { name := "<init>", desc := "()V", sig := { parameters := [], returnType := none }, accessFlags := 1, code := none }
def k1c1 : Code := { maxStack := 2, maxLocals := 7, code := code, exceptionTable := #[], attributes := #[] }
def k1m1 : Method := { name := "law", desc := "(II)Z", sig := { parameters := [.int, .int], returnType := some .boolean }, accessFlags := 9, code := some k1c1 }
def k1c2 : Code := { maxStack := 2, maxLocals := 1, code := method_3_code, exceptionTable := #[], attributes := #[] }
def k1m2 : Method := { name := "pick", desc := "(I)Lcom/example/tokengauge/tokengauge/cli/ExitStatus;", sig := { parameters := [.int], returnType := some (.object "com/example/tokengauge/tokengauge/cli/ExitStatus") }, accessFlags := 10, code := some k1c2 }
/-- com/example/tokengauge/tokengauge/cli/ExitStatusMaxPinLaw -/
def k1 : Class := { plain "com/example/tokengauge/tokengauge/cli/ExitStatusMaxPinLaw" (some 0) with
  accessFlags := 49
  interfaces := #[]
  cf := some (fileOf pool1 9 #[] #[{ accessFlags := 1, nameIndex := 5, descriptorIndex := 6, attributes := #[] }, { accessFlags := 9, nameIndex := 41, descriptorIndex := 42, attributes := #[] }, { accessFlags := 10, nameIndex := 12, descriptorIndex := 13, attributes := #[] }] 49 2 #[] #[])
  fields := #[]
  methods := #[k1m0, k1m1, k1m2]
  instanceTypes := #[]
  staticTypes := #[]
  resolved := Array.replicate 46 none
  statics := none }

def pool2 : Array CpInfo := pool [(1, .class_ 2), (0, u "java/lang/constant/Constable"), (0, .class_ 4), (0, u "java/lang/Object")] 6

/-- java/lang/constant/Constable -/
def k2 : Class := { plain "java/lang/constant/Constable" (some 0) with
  accessFlags := 1537
  interfaces := #[]
  cf := some (fileOf pool2 1 #[] #[] 1537 3 #[] #[])
  fields := #[]
  methods := #[]
  instanceTypes := #[]
  staticTypes := #[]
  resolved := Array.replicate 11 none
  statics := none }

def pool3 : Array CpInfo := pool [(1, .class_ 2), (0, u "java/lang/Comparable"), (0, .class_ 4), (0, u "java/lang/Object")] 7

/-- java/lang/Comparable -/
def k3 : Class := { plain "java/lang/Comparable" (some 0) with
  accessFlags := 1537
  interfaces := #[]
  cf := some (fileOf pool3 1 #[] #[] 1537 3 #[] #[])
  fields := #[]
  methods := #[]
  instanceTypes := #[]
  staticTypes := #[]
  resolved := Array.replicate 12 none
  statics := none }

def pool4 : Array CpInfo := pool [(1, .class_ 2), (0, u "java/io/Serializable"), (0, .class_ 4), (0, u "java/lang/Object")] 2

/-- java/io/Serializable -/
def k4 : Class := { plain "java/io/Serializable" (some 0) with
  accessFlags := 1537
  interfaces := #[]
  cf := some (fileOf pool4 1 #[] #[] 1537 3 #[] #[])
  fields := #[]
  methods := #[]
  instanceTypes := #[]
  staticTypes := #[]
  resolved := Array.replicate 7 none
  statics := none }

def pool5 : Array CpInfo := pool [(2, .class_ 4), (1, u "java/lang/Enum"), (0, u "name"), (0, u "Ljava/lang/String;"), (2, u "ordinal"), (0, u "I"), (1, .class_ 14), (1, u "java/lang/Object"), (4, u "hash"), (86, .class_ 108), (1, u "java/lang/Enum$EnumDesc"), (2, .class_ 112), (0, u "java/lang/constant/Constable"), (0, .class_ 114), (0, u "java/lang/Comparable"), (0, .class_ 116), (0, u "java/io/Serializable")] 87

/-- java/lang/Enum -/
def k5 : Class := { plain "java/lang/Enum" (some 0) with
  accessFlags := 1057
  interfaces := #[2, 3, 4]
  cf := some (fileOf pool5 2 #[.nestMembers #[106]] #[] 1057 12 #[111, 113, 115] #[{ accessFlags := 18, nameIndex := 5, descriptorIndex := 6, attributes := #[] }, { accessFlags := 18, nameIndex := 9, descriptorIndex := 10, attributes := #[] }, { accessFlags := 2, nameIndex := 19, descriptorIndex := 10, attributes := #[] }])
  fields := #[{ name := "name", type := (.object "java/lang/String"), accessFlags := 18, slot := 0, constantValue := 0 }, { name := "ordinal", type := .int, accessFlags := 18, slot := 1, constantValue := 0 }, { name := "hash", type := .int, accessFlags := 2, slot := 2, constantValue := 0 }]
  methods := #[]
  instanceTypes := #[(.object "java/lang/String"), .int, .int]
  staticTypes := #[]
  resolved := Array.replicate 204 none
  statics := none }

def pool6 : Array CpInfo := pool [(1, .class_ 2), (0, u "com/example/tokengauge/tokengauge/cli/ExitStatus"), (2, u "OK"), (0, u "Lcom/example/tokengauge/tokengauge/cli/ExitStatus;"), (2, u "USAGE"), (2, u "UNREADABLE"), (2, u "UNSUPPORTED"), (2, u "INTERNAL_ERROR"), (2, u "OUTPUT_LOST"), (2, u "$VALUES"), (0, u "[Lcom/example/tokengauge/tokengauge/cli/ExitStatus;"), (6, .class_ 34), (1, u "java/lang/Enum"), (6, .fieldref 1 42), (0, .nameAndType 43 44), (0, u "code"), (0, u "I"), (2, u "meaning"), (0, u "Ljava/lang/String;"), (34, u "max"), (0, u "(Lcom/example/tokengauge/tokengauge/cli/ExitStatus;)Lcom/example/tokengauge/tokengauge/cli/ExitStatus;")] 6

def k6c0 : Code := { maxStack := 2, maxLocals := 2, code := prog_149_method_6_code, exceptionTable := #[], attributes := #[] }
def k6m0 : Method := { name := "max", desc := "(Lcom/example/tokengauge/tokengauge/cli/ExitStatus;)Lcom/example/tokengauge/tokengauge/cli/ExitStatus;", sig := { parameters := [(.object "com/example/tokengauge/tokengauge/cli/ExitStatus")], returnType := some (.object "com/example/tokengauge/tokengauge/cli/ExitStatus") }, accessFlags := 0, code := some k6c0 }
/-- com/example/tokengauge/tokengauge/cli/ExitStatus -/
def k6 : Class := { plain "com/example/tokengauge/tokengauge/cli/ExitStatus" (some 5) with
  accessFlags := 16432
  interfaces := #[]
  cf := some (fileOf pool6 1 #[] #[{ accessFlags := 0, nameIndex := 83, descriptorIndex := 84, attributes := #[] }] 16432 32 #[] #[{ accessFlags := 16409, nameIndex := 5, descriptorIndex := 6, attributes := #[] }, { accessFlags := 16409, nameIndex := 9, descriptorIndex := 6, attributes := #[] }, { accessFlags := 16409, nameIndex := 12, descriptorIndex := 6, attributes := #[] }, { accessFlags := 16409, nameIndex := 15, descriptorIndex := 6, attributes := #[] }, { accessFlags := 16409, nameIndex := 18, descriptorIndex := 6, attributes := #[] }, { accessFlags := 16409, nameIndex := 21, descriptorIndex := 6, attributes := #[] }, { accessFlags := 18, nameIndex := 43, descriptorIndex := 44, attributes := #[] }, { accessFlags := 18, nameIndex := 47, descriptorIndex := 48, attributes := #[] }, { accessFlags := 4122, nameIndex := 24, descriptorIndex := 25, attributes := #[] }])
  fields := #[{ name := "OK", type := (.object "com/example/tokengauge/tokengauge/cli/ExitStatus"), accessFlags := 16409, slot := 0, constantValue := 0 }, { name := "USAGE", type := (.object "com/example/tokengauge/tokengauge/cli/ExitStatus"), accessFlags := 16409, slot := 1, constantValue := 0 }, { name := "UNREADABLE", type := (.object "com/example/tokengauge/tokengauge/cli/ExitStatus"), accessFlags := 16409, slot := 2, constantValue := 0 }, { name := "UNSUPPORTED", type := (.object "com/example/tokengauge/tokengauge/cli/ExitStatus"), accessFlags := 16409, slot := 3, constantValue := 0 }, { name := "INTERNAL_ERROR", type := (.object "com/example/tokengauge/tokengauge/cli/ExitStatus"), accessFlags := 16409, slot := 4, constantValue := 0 }, { name := "OUTPUT_LOST", type := (.object "com/example/tokengauge/tokengauge/cli/ExitStatus"), accessFlags := 16409, slot := 5, constantValue := 0 }, { name := "code", type := .int, accessFlags := 18, slot := 3, constantValue := 0 }, { name := "meaning", type := (.object "java/lang/String"), accessFlags := 18, slot := 4, constantValue := 0 }, { name := "$VALUES", type := (.array (.object "com/example/tokengauge/tokengauge/cli/ExitStatus")), accessFlags := 4122, slot := 6, constantValue := 0 }]
  methods := #[k6m0]
  instanceTypes := #[(.object "java/lang/String"), .int, .int, .int, (.object "java/lang/String")]
  staticTypes := #[(.object "com/example/tokengauge/tokengauge/cli/ExitStatus"), (.object "com/example/tokengauge/tokengauge/cli/ExitStatus"), (.object "com/example/tokengauge/tokengauge/cli/ExitStatus"), (.object "com/example/tokengauge/tokengauge/cli/ExitStatus"), (.object "com/example/tokengauge/tokengauge/cli/ExitStatus"), (.object "com/example/tokengauge/tokengauge/cli/ExitStatus"), (.array (.object "com/example/tokengauge/tokengauge/cli/ExitStatus"))]
  resolved := Array.replicate 91 none
  statics := some 0 }

def pool7 : Array CpInfo := pool [(1, u "java/lang/Cloneable"), (0, .class_ 1), (0, u "java/lang/Object"), (0, .class_ 3)] 3

/-- java/lang/Cloneable -/
def k7 : Class := { plain "java/lang/Cloneable" (some 0) with
  accessFlags := 1537
  interfaces := #[]
  cf := some (fileOf pool7 2 #[] #[] 1537 4 #[] #[])
  fields := #[]
  methods := #[]
  instanceTypes := #[]
  staticTypes := #[]
  resolved := Array.replicate 8 none
  statics := none }

/-- the primitive byte -/
def k8 : Class := { plain "byte" none with kind := .primitive 'B', accessFlags := 0x411 }
/-- [B -/
def k9 : Class := { plain "[B" (some 0) with kind := .array 8 .byte, interfaces := #[7, 4], accessFlags := 1041 }

/-- the primitive int -/
def k10 : Class := { plain "int" none with kind := .primitive 'I', accessFlags := 0x411 }
/-- [I -/
def k11 : Class := { plain "[I" (some 0) with kind := .array 10 .int, interfaces := #[7, 4], accessFlags := 1041 }

def heap : Heap := #[{ cls := 6, slots := #[.ref 1, .ref 2, .ref 3, .ref 4, .ref 5, .ref 6, .null], vm := .statics 6 },
  { cls := 6, slots := #[.null, .int 0, .int 0, .int 0, .null], vm := .none },
  { cls := 6, slots := #[.null, .int 1, .int 0, .int 1, .null], vm := .none },
  { cls := 6, slots := #[.null, .int 2, .int 0, .int 2, .null], vm := .none },
  { cls := 6, slots := #[.null, .int 3, .int 0, .int 3, .null], vm := .none },
  { cls := 6, slots := #[.null, .int 4, .int 0, .int 4, .null], vm := .none },
  { cls := 6, slots := #[.null, .int 5, .int 0, .int 5, .null], vm := .none }]
def classes : Array Class := #[k0, k1, k2, k3, k4, k5, k6, k7, k8, k9, k10, k11]
def interned : List (Array UInt16 × Addr) := []
def slotsUsed : Nat := 37
def theMethod : MethodId := ⟨1, 1⟩
def args0 : Array Value := #[.int 5, .int 3]
def aboutOver (below : List Frame) : State where
  vm := { classes := classes, interned := interned.toArray }
  heap := heap
  slotsUsed := slotsUsed
  threads := #[{ frames := .invoking theMethod args0 :: below }]
def below0 : List Frame := [.native { method := ⟨0, 0⟩, args := #[] }]
def about1 : State := aboutOver below0
def p0 : Program := .bare "" "" ""
def e0 : Env := launch0.env 0 0 0
theorem w_frames : about1.frames = Frame.invoking theMethod args0 :: below0 := rfl
set_option maxRecDepth 65536 in
theorem w_args : argsFit about1.vm theMethod args0 = true := by decide +kernel
set_option maxRecDepth 65536 in
theorem w_heap : heapFits about1 = true := by decide +kernel
set_option maxRecDepth 65536 in
theorem w_runnable : about1.curStatus? = some .runnable := by decide +kernel
set_option maxRecDepth 65536 in
theorem w_alone : about1.alone = true := by decide +kernel
set_option maxRecDepth 65536 in
theorem w_named : about1.methodNamed? x = some theMethod := by decide +kernel
set_option maxRecDepth 65536 in
theorem w_hears : about1.hears theMethod below0 = true := by decide +kernel
set_option maxRecDepth 65536 in
theorem w_ripe : about1.ripe theMethod args0 below0 = true := by decide +kernel
theorem w_running : about1.status = .running := rfl
set_option maxRecDepth 65536 in
theorem w_room : about1.hasRoom e0.platform room_1 = true :=
  launch0.hasRoom_least _ room_1 (by decide +kernel) (by decide +kernel) (by decide +kernel) (by decide +kernel) (by decide +kernel) (by decide +kernel)
theorem allAtoms_all (ts : List Jvm.Cond) (a : Array Jvm.Value) (st : Jvm.State) : (allAtoms ts).before a st = ts.all (fun c => c.before a st) := by
  induction ts with
  | nil => rfl
  | cons c t ih =>
    show (Jvm.Cond.and c (allAtoms t)).before a st = _
    rw [Jvm.Cond.before_and, ih, List.all_cons]
def words1 : List Jvm.Cond := Jvm.Cond.code x code maxLocals ret :: tables_1
/-- a 'code' word, met by the world's own term for the bytes: nothing is compared byte by byte -/
theorem code_word {y : MethodName} {bytes : ByteArray} {mx : Nat} {rt : Option FieldType} {a : Array Value} {s : State} {m : MethodId} {meth : Method} {c : Code} (h1 : s.methodNamed? y = some m) (h2 : s.vm.method? m = some meth) (h3 : meth.code = some c) (h4 : c.code = bytes)
    (h5 : (c.maxLocals == mx && c.exceptionTable.isEmpty && decide (c.maxStack ≤ mostOperands) && decide (meth.sig.returnType = rt) && !meth.locks && decide (parseMethodDescriptor y.desc = some meth.sig)) = true) : (Jvm.Cond.code y bytes mx rt).before a s = true := by
  simp only [Bool.and_eq_true, beq_iff_eq, Bool.not_eq_true', decide_eq_true_eq] at h5
  obtain ⟨⟨⟨⟨⟨g1, g2⟩, g3⟩, g4⟩, g5⟩, g6⟩ := h5
  simp [Cond.before, Cond.holds, Cond.value, h1, h2, h3, h4, g1, g2, g3, g4, g5, g6]
def isCode : Jvm.Cond → Bool
  | .code _ _ _ _ => true
  | _ => false
theorem all_split {L : List Jvm.Cond} {P : Jvm.Cond → Bool} (h1 : L.all (fun c => isCode c || P c) = true) (h2 : ∀ c ∈ L.filter isCode, P c = true) : L.all P = true := by
  refine List.all_eq_true.mpr fun c hc => ?_
  have h := List.all_eq_true.mp h1 c hc
  rcases Bool.eq_false_or_eq_true (isCode c) with hi | hi
  · exact h2 c (List.mem_filter.mpr ⟨hc, hi⟩)
  · simpa [hi] using h
set_option maxRecDepth 65536 in
theorem w_c0 : (Jvm.Cond.code x code maxLocals ret).before args0 about1 = true := code_word (m := ⟨1, 1⟩) (meth := k1m1) (c := k1c1) (by decide +kernel) rfl rfl rfl (by decide +kernel)
set_option maxRecDepth 65536 in
theorem w_c1 : (Jvm.Cond.code ({ cls := "com/example/tokengauge/tokengauge/cli/ExitStatusMaxPinLaw", name := "pick", desc := "(I)Lcom/example/tokengauge/tokengauge/cli/ExitStatus;" } : Jvm.MethodName) method_3_code (1 : Nat) (Option.some (Jvm.ClassFile.FieldType.object "com/example/tokengauge/tokengauge/cli/ExitStatus"))).before args0 about1 = true := code_word (m := ⟨1, 2⟩) (meth := k1m2) (c := k1c2) (by decide +kernel) rfl rfl rfl (by decide +kernel)
set_option maxRecDepth 65536 in
theorem w_c2 : (Jvm.Cond.code ({ cls := "com/example/tokengauge/tokengauge/cli/ExitStatus", name := "max", desc := "(Lcom/example/tokengauge/tokengauge/cli/ExitStatus;)Lcom/example/tokengauge/tokengauge/cli/ExitStatus;" } : Jvm.MethodName) prog_149_method_6_code (2 : Nat) (Option.some (Jvm.ClassFile.FieldType.object "com/example/tokengauge/tokengauge/cli/ExitStatus"))).before args0 about1 = true := code_word (m := ⟨6, 0⟩) (meth := k6m0) (c := k6c0) (by decide +kernel) rfl rfl rfl (by decide +kernel)
def codes1 : List Jvm.Cond := [Jvm.Cond.code x code maxLocals ret, Jvm.Cond.code ({ cls := "com/example/tokengauge/tokengauge/cli/ExitStatusMaxPinLaw", name := "pick", desc := "(I)Lcom/example/tokengauge/tokengauge/cli/ExitStatus;" } : Jvm.MethodName) method_3_code (1 : Nat) (Option.some (Jvm.ClassFile.FieldType.object "com/example/tokengauge/tokengauge/cli/ExitStatus")), Jvm.Cond.code ({ cls := "com/example/tokengauge/tokengauge/cli/ExitStatus", name := "max", desc := "(Lcom/example/tokengauge/tokengauge/cli/ExitStatus;)Lcom/example/tokengauge/tokengauge/cli/ExitStatus;" } : Jvm.MethodName) prog_149_method_6_code (2 : Nat) (Option.some (Jvm.ClassFile.FieldType.object "com/example/tokengauge/tokengauge/cli/ExitStatus"))]
set_option maxRecDepth 65536 in
theorem codes_eq : words1.filter isCode = codes1 := rfl
theorem w_codes : ∀ c ∈ words1.filter isCode, c.before args0 about1 = true := by
  rw [codes_eq]
  intro c hc
  simp only [codes1, List.mem_cons, List.not_mem_nil, or_false] at hc
  rcases hc with rfl | rfl | rfl
  · exact w_c0
  · exact w_c1
  · exact w_c2
set_option maxRecDepth 65536 in
theorem w_t1 : (words1.take 24).all (fun c => isCode c || c.before args0 about1) = true := by decide +kernel
set_option maxRecDepth 65536 in
theorem w_t2 : (words1.drop 24).all (fun c => isCode c || c.before args0 about1) = true := by decide +kernel
theorem w_tables : (allAtoms (Jvm.Cond.code x code maxLocals ret :: tables_1)).before args0 about1 = true := by
  rw [allAtoms_all]
  show words1.all (fun c => c.before args0 about1) = true
  refine all_split ?_ w_codes
  rw [← List.take_append_drop 24 words1, List.all_append, w_t1, w_t2]
  rfl
set_option maxRecDepth 65536 in
theorem w_case : (Jvm.Cond.and given_1 narrow_1).before args0 about1 = true := by decide +kernel
theorem w_applies : (headSpec (Jvm.Cond.code x code maxLocals ret :: tables_1) room_1).applies x e0.platform about1 = true :=
  (Spec.applies_iff w_frames).mpr ⟨w_running, w_runnable, w_alone, w_named, w_hears, w_ripe, w_room, w_tables⟩
theorem atStart : AtStart classFile x code maxLocals ret World_1 tables_1 room_1 Calls_1 rest_1 Pre_1 launch0 p0 e0 about1 theMethod args0 below0 :=
  ⟨lists_1, trivial, launch0.admits_env _ _ _, launch0.least_env, fairChoices_fair.cas, fairChoices_fair.clock, w_frames, w_args, w_heap, w_applies, trivial, trivial, w_case⟩
end start1
theorem witness_1 : WitnessClaimed_1 := ⟨start1.p0, start1.e0, start1.about1, start1.theMethod, start1.args0, start1.below0, start1.atStart⟩
end Jvm.Pilot.@@N@@
