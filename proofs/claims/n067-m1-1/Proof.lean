import JvmDerived
import JvmDerived.Pilot.@@N@@Statement
import JvmDerived.Pilot.@@N@@Code
set_option linter.unusedVariables false
set_option linter.unusedSimpArgs false
@@BLOCK:NumsL.lean.txt@@
namespace Jvm.Pilot.@@N@@
open Jvm Jvm.ClassFile Sem Op Lib Jvm.Free Jvm.Stand Jvm.LawKit Jvm.RoadKit Bundle Jvm.Pilot.@@N@@.Jvm.D
section Own
variable {p : Program} {l : Launch} {e : Env} {R : Room} {s : State} {m : MethodId} {args : Array Value} {below : List Frame} {meth : Method} {c : Code} {T : State} {locs : List Loc} {cells slots : Nat} {Z : State} {a0 : Array Value} {h : Heap}
/-- from U the run comes to the method's end, and P holds there -/
def OGo (p : Program) (e : Env) (below : List Frame) (U : State) (P : State → Outcome → Prop) : Prop :=
  ∃ t o, Steps p.tables e below U t ∧ t.status = .running ∧ Ended t below o ∧ P t o
theorem OGo.step {U U' : State} {P : State → Outcome → Prop} (k : ∀ t, Steps p.tables e below U' t → Steps p.tables e below U t) (g : OGo p e below U' P) : OGo p e below U P := by
  obtain ⟨t, o, h1, h2⟩ := g
  exact ⟨t, o, k t h1, h2⟩
def OEnd (s : State) (Q : Option Value → Heap → List Loc → Prop) (kc ks : Nat) (t : State) (o : Outcome) : Prop :=
  ∃ v L, o = .returned v ∧ Q v t.heap L ∧ FrameEnd s o t L kc ks
/-- the contract of one body, at one array of arguments and one heap -/
abbrev OMet (l : Launch) (Z : State) (y : MethodName) (bytes : ByteArray) (maxL : Nat) (ret : Option FieldType) (ws : List Jvm.Cond) (rm : Room) (as' : Array Value) (h0 : Heap) (Q : Option Value → Heap → List Loc → Prop) : Prop :=
  MetFree l y (head1 (Jvm.Cond.code y bytes maxL ret :: ws) rm) (fun a U => a = as' ∧ Z.Warmed39 U.vm ∧ U.heap = h0) (fun _ _ _ _ _ => True) (fun _ U o U' => ∃ v L, o = .returned v ∧ Q v U'.heap L ∧ FrameEnd U o U' L rm.cells rm.slots)
theorem OMet.body {y : MethodName} {bytes : ByteArray} {maxL : Nat} {ret : Option FieldType} {ws : List Jvm.Cond} {rm : Room} {as' : Array Value} {h0 : Heap} {Q : Option Value → Heap → List Loc → Prop} (hpn : plainFor y = true)
    (b : ∀ (p : Program) (e : Env) (s : State) (m : MethodId) (below : List Frame) (meth : Method) (c : Code) (s₁ : State), p.tables.exec = Jvm.exec → c.code = bytes → c.maxLocals = maxL → s.vm.findClass y.cls = some m.cls → meth.name = y.name → meth.sig.returnType = ret → meth.locks = false → Z.Warmed39 s.vm →
      Stand p l e rm s m as' below meth c s₁ [] 0 0 → s₁.heap = h0 → OGo p e below (s₁.setTop (entryFrame m as' maxL)) (OEnd s Q rm.cells rm.slots)) : OMet l Z y bytes maxL ret ws rm as' h0 Q := by
  refine MetFree.of_bodySF hpn hisR ?_
  intro p e s m args below meth c s₁ Bd hml0 hP hK
  obtain ⟨rfl, hZ, hh⟩ := hP
  exact b p e s m below meth c s₁ Bd.exec Bd.bytes hml0 (findClass_of_methodNamed Bd.named) (name_of_methodNamed Bd.named Bd.method).1 Bd.returns Bd.notSynchronized hZ (Stand.of_body Bd) (by rw [← hh, Bd.state]; rfl)
theorem own_ret (X : Stand p l e R s m args below meth c T locs cells slots) (hx : p.tables.exec = Jvm.exec) (hlk : meth.locks = false) {pc : Nat} {Ls : Array Slot} {w : Value} {t : FieldType} {i : Instr} {rest : List Value} (hret : meth.sig.returnType = some t) (hn : narrow t w = w)
    (hi : (i = .ireturn ∧ (t = .int ∨ t = .boolean ∨ t = .byte ∨ t = .char ∨ t = .short) ∧ ∃ z, w = .int z) ∨ (i = .lreturn ∧ t = .long ∧ ∃ z, w = .long z) ∨ (i = .dreturn ∧ t = .double ∧ ∃ z, w = .double z) ∨ (i = .freturn ∧ t = .float ∧ ∃ z, w = .float z) ∨ (i = .areturn ∧ t.isReference = true ∧ w.isRef = true))
    (hd : decode c.code pc = .ok (i, 1)) {Q : Option Value → Heap → List Loc → Prop} {kc ks : Nat} (hQ : Q (some w) T.heap locs) (h1 : cells ≤ kc) (h2 : slots ≤ ks) : OGo p e below (T.setTop (mkF m pc Ls (w :: rest))) (OEnd s Q kc ks) := by
  obtain ⟨fs, hr, hrun, hended, hW, hsame⟩ := X.leave (v := some w) (fun h => by rw [hret] at h; cases h) hlk
  exact ⟨_, _, retOut X hx hret hn hi hd hr, hrun, hended, _, _, rfl, hQ, ⟨_, rfl⟩, hW, hsame.mono h1 h2⟩
theorem own_retN (X : Stand p l e R s m args below meth c T locs cells slots) (hx : p.tables.exec = Jvm.exec) (hlk : meth.locks = false) {pc : Nat} {Ls : Array Slot} {z : Int32} {t : FieldType} {rest : List Value} (hret : meth.sig.returnType = some t) (ht : t = .boolean ∨ t = .byte ∨ t = .char ∨ t = .short)
    (hd : decode c.code pc = .ok (.ireturn, 1)) {Q : Option Value → Heap → List Loc → Prop} {kc ks : Nat} (hQ : Q (some (.int (nar t z))) T.heap locs) (h1 : cells ≤ kc) (h2 : slots ≤ ks) : OGo p e below (T.setTop (mkF m pc Ls (.int z :: rest))) (OEnd s Q kc ks) := by
  obtain ⟨fs, hr, hrun, hended, hW, hsame⟩ := X.leave (v := some (.int (nar t z))) (fun h => by rw [hret] at h; cases h) hlk
  exact ⟨_, _, retN X hx hret ht hd hr, hrun, hended, _, _, rfl, hQ, ⟨_, rfl⟩, hW, hsame.mono h1 h2⟩
theorem own_ret0 (X : Stand p l e R s m args below meth c T locs cells slots) (hx : p.tables.exec = Jvm.exec) (hlk : meth.locks = false) {pc : Nat} {Ls : Array Slot} (hret : meth.sig.returnType = none)
    (hd : decode c.code pc = .ok (.return_, 1)) {Q : Option Value → Heap → List Loc → Prop} {kc ks : Nat} (hQ : Q none T.heap locs) (h1 : cells ≤ kc) (h2 : slots ≤ ks) : OGo p e below (T.setTop (mkF m pc Ls [])) (OEnd s Q kc ks) := by
  obtain ⟨fs, hr, hrun, hended, hW, hsame⟩ := X.leave (v := none) (fun _ => rfl) hlk
  exact ⟨_, _, X.returnOut hx hret hd hr, hrun, hended, _, _, rfl, hQ, ⟨_, rfl⟩, hW, hsame.mono h1 h2⟩
/-- who pays a call: at these arguments and this heap -/
abbrev OBack (l : Launch) (R : Room) (p : Program) (e : Env) (below : List Frame) (s : State) (args : Array Value) (y : MethodName) (len W : Nat) (as' : Array Value) (h : Heap) (kc ks : Nat) (Q : Option Value → Heap → List Loc → Prop) : Prop :=
  Back l R p e below s args y len W (fun P a => a = as' ∧ P.U.heap = h ∧ P.cells + kc ≤ R.cells ∧ P.slots + ks ≤ R.slots) (fun P _ v B => ∃ L, Q v B.U.heap L ∧ B.locs = P.locs ++ L ∧ B.cells = P.cells + kc ∧ B.slots = P.slots + ks)
/-- a static call by the callee's contract -/
theorem own_callSK (X : Stand p l e R s m args below meth c T locs cells slots) (hx : p.tables.exec = Jvm.exec) (hZ : Z.Warmed39 s.vm) {own : String} {index : Nat} {y : MethodName} {bytes : ByteArray} {maxL : Nat} {ret : Option FieldType}
    (hown : s.vm.findClass own = some m.cls) (w1 : (Jvm.Cond.methodLink own index y).before a0 Z = true) (w2 : (Jvm.Cond.static y).before a0 Z = true) (w3 : (Jvm.Cond.initialized y.cls).before a0 Z = true)
    (w4 : (Jvm.Cond.code y bytes maxL ret).before a0 Z = true) (hy : y.cls ≠ "java/lang/invoke/MethodHandle" ∧ y.cls ≠ "java/lang/invoke/VarHandle")
    {W : Nat} {kc ks : Nat} {argsL rest : List Value} {Q : Option Value → Heap → List Loc → Prop} (hK : OBack l R p e below s args y 3 W argsL.toArray h kc ks Q) (eT : T.heap = h)
    {pc : Nat} {Ls : Array Slot} (hsize : Ls.size = c.maxLocals) (hlen : ∀ sig, parseMethodDescriptor y.desc = some sig → argsL.length = sig.parameters.length) (hW : (rest.map fun v => v.category).sum = W)
    (hd : decode c.code pc = .ok (.invokestatic index, 3)) (hc : cells + kc ≤ R.cells) (hs : slots + ks ≤ R.slots) {P : State → Outcome → Prop}
    (k : ∀ (v : Option Value) (T' : State) (L : List Loc), Stand p l e R s m args below meth c T' (locs ++ L) (cells + kc) (slots + ks) → Q v T'.heap L → OGo p e below (T'.setTop (mkF m (pc + 3) Ls (v.toList ++ rest))) P) :
    OGo p e below (T.setTop (mkF m pc Ls (argsL.reverse ++ rest))) P := by
  obtain ⟨v, vm, ⟨T', L', k', n'⟩, -, X', ⟨L, hQ, l1, y1, z1⟩, st⟩ := Jvm.LawKit.callS X hx (y := y) hown (mvT hZ w1) (mvT hZ w2) (mvT hZ w3) (mvT hZ w4) hy hK (g := mkF m pc Ls (argsL.reverse ++ rest)) rfl hsize (argsL := argsL) (rest := rest) hlen rfl
    (by show 2 * 0 + _ ≤ _; rw [hW]; omega) hd (fun _ _ => ⟨rfl, eT, hc, hs⟩)
  dsimp only [Pt.U, Pt.locs, Pt.cells, Pt.slots] at X' l1 y1 z1 st hQ
  subst l1 y1 z1
  exact OGo.step st (k v T' L X' hQ)
theorem own_callS (X : Stand p l e R s m args below meth c T locs cells slots) (hx : p.tables.exec = Jvm.exec) (hZ : Z.Warmed39 s.vm) {own : String} {index : Nat} {y : MethodName} {bytes : ByteArray} {maxL : Nat} {ret : Option FieldType}
    (hown : s.vm.findClass own = some m.cls) (w1 : (Jvm.Cond.methodLink own index y).before a0 Z = true) (w2 : (Jvm.Cond.static y).before a0 Z = true) (w3 : (Jvm.Cond.initialized y.cls).before a0 Z = true)
    (w4 : (Jvm.Cond.code y bytes maxL ret).before a0 Z = true) (hy : y.cls ≠ "java/lang/invoke/MethodHandle" ∧ y.cls ≠ "java/lang/invoke/VarHandle")
    {W : Nat} {rm : Room} {argsL rest : List Value} {Q : Option Value → Heap → List Loc → Prop} (hM : OMet l Z y bytes maxL ret [] rm argsL.toArray h Q) (eT : T.heap = h)
    {pc : Nat} {Ls : Array Slot} (hsize : Ls.size = c.maxLocals) (hlen : ∀ sig, parseMethodDescriptor y.desc = some sig → argsL.length = sig.parameters.length) (hW : (rest.map fun v => v.category).sum = W)
    (hd : decode c.code pc = .ok (.invokestatic index, 3)) (hf : rm.frames + 1 ≤ R.frames) (hl : W + (maxL + 11) + rm.locals ≤ R.locals) (hc : cells + rm.cells ≤ R.cells) (hs : slots + rm.slots ≤ R.slots) {P : State → Outcome → Prop}
    (k : ∀ (v : Option Value) (T' : State) (L : List Loc), Stand p l e R s m args below meth c T' (locs ++ L) (cells + rm.cells) (slots + rm.slots) → Q v T'.heap L → OGo p e below (T'.setTop (mkF m (pc + 3) Ls (v.toList ++ rest))) P) :
    OGo p e below (T.setTop (mkF m pc Ls (argsL.reverse ++ rest))) P := 
  own_callSK X hx hZ hown w1 w2 w3 w4 hy (backOf (W := W) hM hZ w4 w3 hf hl) eT hsize hlen hW hd hc hs k
/-- a constructor by its contract -/
theorem own_specialK (X : Stand p l e R s m args below meth c T locs cells slots) (hx : p.tables.exec = Jvm.exec) (hZ : Z.Warmed39 s.vm) {own : String} {index : Nat} {y : MethodName} {bytes : ByteArray} {maxL : Nat} (hy1 : y.name = "<init>")
    (hown : s.vm.findClass own = some m.cls) (w1 : (Jvm.Cond.methodLink own index y).before a0 Z = true) (w2 : (Jvm.Cond.instanceMethod y).before a0 Z = true)
    (w4 : (Jvm.Cond.code y bytes maxL none).before a0 Z = true) (hy : y.cls ≠ "java/lang/invoke/MethodHandle" ∧ y.cls ≠ "java/lang/invoke/VarHandle") {a : Addr}
    {W : Nat} {kc ks : Nat} {argsL rest : List Value} {Q : Option Value → Heap → List Loc → Prop} (hK : OBack l R p e below s args y 3 W (.ref a :: argsL).toArray h kc ks Q) (eT : T.heap = h)
    {pc : Nat} {Ls : Array Slot} (hsize : Ls.size = c.maxLocals) (hlen : ∀ sig, parseMethodDescriptor y.desc = some sig → argsL.length = sig.parameters.length) (hW : (rest.map fun v => v.category).sum = W)
    (hd : decode c.code pc = .ok (.invokespecial index, 3)) (hc : cells + kc ≤ R.cells) (hs : slots + ks ≤ R.slots) {P : State → Outcome → Prop}
    (k : ∀ (v : Option Value) (T' : State) (L : List Loc), Stand p l e R s m args below meth c T' (locs ++ L) (cells + kc) (slots + ks) → Q v T'.heap L → OGo p e below (T'.setTop (mkF m (pc + 3) Ls (v.toList ++ rest))) P) :
    OGo p e below (T.setTop (mkF m pc Ls (argsL.reverse ++ .ref a :: rest))) P := by
  obtain ⟨v, vm, ⟨T', L', k', n'⟩, -, X', ⟨L, hQ, l1, y1, z1⟩, st⟩ := X.specialBack hx (y := y) hy1 hown (mvT hZ w1) (mvT hZ w2) (mvT hZ w4) hy hK (g := mkF m pc Ls (argsL.reverse ++ .ref a :: rest)) rfl hsize (Steps.refl _) (a := a) (argsL := argsL) (rest := rest) hlen rfl
    (by show 2 * 0 + _ ≤ _; rw [hW]; omega) hd (fun _ _ => ⟨rfl, eT, hc, hs⟩)
  dsimp only [Pt.U, Pt.locs, Pt.cells, Pt.slots] at X' l1 y1 z1 st hQ
  subst l1 y1 z1
  exact OGo.step (fun _ kk => st.trans kk) (k v T' L X' hQ)
theorem own_special (X : Stand p l e R s m args below meth c T locs cells slots) (hx : p.tables.exec = Jvm.exec) (hZ : Z.Warmed39 s.vm) {own : String} {index : Nat} {y : MethodName} {bytes : ByteArray} {maxL : Nat} (hy1 : y.name = "<init>")
    (hown : s.vm.findClass own = some m.cls) (w1 : (Jvm.Cond.methodLink own index y).before a0 Z = true) (w2 : (Jvm.Cond.instanceMethod y).before a0 Z = true)
    (w4 : (Jvm.Cond.code y bytes maxL none).before a0 Z = true) (w3 : (Jvm.Cond.initialized y.cls).before a0 Z = true) (hy : y.cls ≠ "java/lang/invoke/MethodHandle" ∧ y.cls ≠ "java/lang/invoke/VarHandle") {a : Addr}
    {W : Nat} {rm : Room} {argsL rest : List Value} {Q : Option Value → Heap → List Loc → Prop} (hM : OMet l Z y bytes maxL none [] rm (.ref a :: argsL).toArray h Q) (eT : T.heap = h)
    {pc : Nat} {Ls : Array Slot} (hsize : Ls.size = c.maxLocals) (hlen : ∀ sig, parseMethodDescriptor y.desc = some sig → argsL.length = sig.parameters.length) (hW : (rest.map fun v => v.category).sum = W)
    (hd : decode c.code pc = .ok (.invokespecial index, 3)) (hf : rm.frames + 1 ≤ R.frames) (hl : W + (maxL + 11) + rm.locals ≤ R.locals) (hc : cells + rm.cells ≤ R.cells) (hs : slots + rm.slots ≤ R.slots) {P : State → Outcome → Prop}
    (k : ∀ (v : Option Value) (T' : State) (L : List Loc), Stand p l e R s m args below meth c T' (locs ++ L) (cells + rm.cells) (slots + rm.slots) → Q v T'.heap L → OGo p e below (T'.setTop (mkF m (pc + 3) Ls (v.toList ++ rest))) P) :
    OGo p e below (T.setTop (mkF m pc Ls (argsL.reverse ++ .ref a :: rest))) P := 
  own_specialK X hx hZ hy1 hown w1 w2 w4 hy (backOf (W := W) hM hZ w4 w3 hf hl) eT hsize hlen hW hd hc hs k
/-- an instance method by its contract -/
theorem own_virtualK (X : Stand p l e R s m args below meth c T locs cells slots) (hx : p.tables.exec = Jvm.exec) (hZ : Z.Warmed39 s.vm) {own C : String} {index : Nat} {y z : MethodName}
    (hown : s.vm.findClass own = some m.cls) (w1 : (Jvm.Cond.methodLink own index y).before a0 Z = true) (w2 : (Jvm.Cond.declares y).before a0 Z = true) (hnf : NotFace s y) (w5 : (Jvm.Cond.selects C y z).before a0 Z = true) (w6 : (Jvm.Cond.instanceMethod z).before a0 Z = true)
    (hy : y.cls ≠ "java/lang/invoke/MethodHandle" ∧ y.cls ≠ "java/lang/invoke/VarHandle") {b : Addr} (hb : Exa Z h b C)
    {W : Nat} {kc ks : Nat} {argsL rest : List Value} {Q : Option Value → Heap → List Loc → Prop} (hK : OBack l R p e below s args z 3 W (.ref b :: argsL).toArray h kc ks Q) (eT : T.heap = h)
    {pc : Nat} {Ls : Array Slot} (hsize : Ls.size = c.maxLocals) (hlen : ∀ sig, parseMethodDescriptor y.desc = some sig → argsL.length = sig.parameters.length) (hW : (rest.map fun v => v.category).sum = W)
    (hd : decode c.code pc = .ok (.invokevirtual index, 3)) (hc : cells + kc ≤ R.cells) (hs : slots + ks ≤ R.slots) {P : State → Outcome → Prop}
    (k : ∀ (v : Option Value) (T' : State) (L : List Loc), Stand p l e R s m args below meth c T' (locs ++ L) (cells + kc) (slots + ks) → Q v T'.heap L → OGo p e below (T'.setTop (mkF m (pc + 3) Ls (v.toList ++ rest))) P) :
    OGo p e below (T.setTop (mkF m pc Ls (argsL.reverse ++ .ref b :: rest))) P := by
  obtain ⟨cq, kq, qa, qb, qc⟩ := isOf hZ eT hb
  obtain ⟨v, vm, ⟨T', L', k', n'⟩, -, X', ⟨L, hQ, l1, y1, z1⟩, st⟩ := X.virtualBack hx (y := y) (z := z) hown (mvT hZ w1) (mvT hZ w2) hnf (mvT hZ w5) (mvT hZ w6) hy hK qa qc (g := mkF m pc Ls (argsL.reverse ++ .ref b :: rest)) rfl hsize (Steps.refl _) (argsL := argsL) (rest := rest) hlen rfl
    (by show 2 * 0 + _ ≤ _; rw [hW]; omega) hd (fun _ _ => ⟨rfl, eT, hc, hs⟩)
  dsimp only [Pt.U, Pt.locs, Pt.cells, Pt.slots] at X' l1 y1 z1 st hQ
  subst l1 y1 z1
  exact OGo.step (fun _ kk => st.trans kk) (k v T' L X' hQ)
theorem own_virtual (X : Stand p l e R s m args below meth c T locs cells slots) (hx : p.tables.exec = Jvm.exec) (hZ : Z.Warmed39 s.vm) {own C : String} {index : Nat} {y z : MethodName} {bytes : ByteArray} {maxL : Nat} {ret : Option FieldType}
    (hown : s.vm.findClass own = some m.cls) (w1 : (Jvm.Cond.methodLink own index y).before a0 Z = true) (w2 : (Jvm.Cond.declares y).before a0 Z = true) (hnf : NotFace s y) (w5 : (Jvm.Cond.selects C y z).before a0 Z = true) (w6 : (Jvm.Cond.instanceMethod z).before a0 Z = true)
    (hy : y.cls ≠ "java/lang/invoke/MethodHandle" ∧ y.cls ≠ "java/lang/invoke/VarHandle") (w4 : (Jvm.Cond.code z bytes maxL ret).before a0 Z = true) (w3 : (Jvm.Cond.initialized z.cls).before a0 Z = true) {b : Addr} (hb : Exa Z h b C)
    {W : Nat} {rm : Room} {argsL rest : List Value} {Q : Option Value → Heap → List Loc → Prop} (hM : OMet l Z z bytes maxL ret [] rm (.ref b :: argsL).toArray h Q) (eT : T.heap = h)
    {pc : Nat} {Ls : Array Slot} (hsize : Ls.size = c.maxLocals) (hlen : ∀ sig, parseMethodDescriptor y.desc = some sig → argsL.length = sig.parameters.length) (hW : (rest.map fun v => v.category).sum = W)
    (hd : decode c.code pc = .ok (.invokevirtual index, 3)) (hf : rm.frames + 1 ≤ R.frames) (hl : W + (maxL + 11) + rm.locals ≤ R.locals) (hc : cells + rm.cells ≤ R.cells) (hs : slots + rm.slots ≤ R.slots) {P : State → Outcome → Prop}
    (k : ∀ (v : Option Value) (T' : State) (L : List Loc), Stand p l e R s m args below meth c T' (locs ++ L) (cells + rm.cells) (slots + rm.slots) → Q v T'.heap L → OGo p e below (T'.setTop (mkF m (pc + 3) Ls (v.toList ++ rest))) P) :
    OGo p e below (T.setTop (mkF m pc Ls (argsL.reverse ++ .ref b :: rest))) P := 
  own_virtualK X hx hZ hown w1 w2 hnf w5 w6 hy hb (backOf (W := W) hM hZ w4 w3 hf hl) eT hsize hlen hW hd hc hs k
/-- an instance method that an ancestor declares, by its contract -/
theorem own_virtualUpK (X : Stand p l e R s m args below meth c T locs cells slots) (hx : p.tables.exec = Jvm.exec) (hZ : Z.Warmed39 s.vm) {own C owner : String} {index : Nat} {y z : MethodName}
    (hown : s.vm.findClass own = some m.cls) (w1 : (Jvm.Cond.methodLink own index y).before a0 Z = true) (w7 : (Jvm.Cond.sameMethod y.cls owner y.name y.desc).before a0 Z = true) (w2 : (Jvm.Cond.declares ⟨owner, y.name, y.desc⟩).before a0 Z = true) (w5 : (Jvm.Cond.selects C y z).before a0 Z = true) (w6 : (Jvm.Cond.instanceMethod z).before a0 Z = true)
    (hy : owner ≠ "java/lang/invoke/MethodHandle" ∧ owner ≠ "java/lang/invoke/VarHandle") {b : Addr} (hb : Exa Z h b C)
    {W : Nat} {kc ks : Nat} {argsL rest : List Value} {Q : Option Value → Heap → List Loc → Prop} (hK : OBack l R p e below s args z 3 W (.ref b :: argsL).toArray h kc ks Q) (eT : T.heap = h)
    {pc : Nat} {Ls : Array Slot} (hsize : Ls.size = c.maxLocals) (hlen : ∀ sig, parseMethodDescriptor y.desc = some sig → argsL.length = sig.parameters.length) (hW : (rest.map fun v => v.category).sum = W)
    (hd : decode c.code pc = .ok (.invokevirtual index, 3)) (hc : cells + kc ≤ R.cells) (hs : slots + ks ≤ R.slots) {P : State → Outcome → Prop}
    (k : ∀ (v : Option Value) (T' : State) (L : List Loc), Stand p l e R s m args below meth c T' (locs ++ L) (cells + kc) (slots + ks) → Q v T'.heap L → OGo p e below (T'.setTop (mkF m (pc + 3) Ls (v.toList ++ rest))) P) :
    OGo p e below (T.setTop (mkF m pc Ls (argsL.reverse ++ .ref b :: rest))) P := by
  obtain ⟨cq, kq, qa, qb, qc⟩ := isOf hZ eT hb
  obtain ⟨v, vm, ⟨T', L', k', n'⟩, -, X', ⟨L, hQ, l1, y1, z1⟩, st⟩ := X.virtualBackUp hx (x := y) (y := z) hown (mvT hZ w1) (mvT hZ w7) (mvT hZ w2) hy (mvT hZ w5) (mvT hZ w6) hK qa qc (g := mkF m pc Ls (argsL.reverse ++ .ref b :: rest)) rfl hsize (Steps.refl _) (argsL := argsL) (rest := rest) hlen rfl
    (by show 2 * 0 + _ ≤ _; rw [hW]; omega) hd (fun _ _ => ⟨rfl, eT, hc, hs⟩)
  dsimp only [Pt.U, Pt.locs, Pt.cells, Pt.slots] at X' l1 y1 z1 st hQ
  subst l1 y1 z1
  exact OGo.step (fun _ kk => st.trans kk) (k v T' L X' hQ)
theorem own_virtualUp (X : Stand p l e R s m args below meth c T locs cells slots) (hx : p.tables.exec = Jvm.exec) (hZ : Z.Warmed39 s.vm) {own C owner : String} {index : Nat} {y z : MethodName} {bytes : ByteArray} {maxL : Nat} {ret : Option FieldType}
    (hown : s.vm.findClass own = some m.cls) (w1 : (Jvm.Cond.methodLink own index y).before a0 Z = true) (w7 : (Jvm.Cond.sameMethod y.cls owner y.name y.desc).before a0 Z = true) (w2 : (Jvm.Cond.declares ⟨owner, y.name, y.desc⟩).before a0 Z = true) (w5 : (Jvm.Cond.selects C y z).before a0 Z = true) (w6 : (Jvm.Cond.instanceMethod z).before a0 Z = true)
    (hy : owner ≠ "java/lang/invoke/MethodHandle" ∧ owner ≠ "java/lang/invoke/VarHandle") (w4 : (Jvm.Cond.code z bytes maxL ret).before a0 Z = true) (w3 : (Jvm.Cond.initialized z.cls).before a0 Z = true) {b : Addr} (hb : Exa Z h b C)
    {W : Nat} {rm : Room} {argsL rest : List Value} {Q : Option Value → Heap → List Loc → Prop} (hM : OMet l Z z bytes maxL ret [] rm (.ref b :: argsL).toArray h Q) (eT : T.heap = h)
    {pc : Nat} {Ls : Array Slot} (hsize : Ls.size = c.maxLocals) (hlen : ∀ sig, parseMethodDescriptor y.desc = some sig → argsL.length = sig.parameters.length) (hW : (rest.map fun v => v.category).sum = W)
    (hd : decode c.code pc = .ok (.invokevirtual index, 3)) (hf : rm.frames + 1 ≤ R.frames) (hl : W + (maxL + 11) + rm.locals ≤ R.locals) (hc : cells + rm.cells ≤ R.cells) (hs : slots + rm.slots ≤ R.slots) {P : State → Outcome → Prop}
    (k : ∀ (v : Option Value) (T' : State) (L : List Loc), Stand p l e R s m args below meth c T' (locs ++ L) (cells + rm.cells) (slots + rm.slots) → Q v T'.heap L → OGo p e below (T'.setTop (mkF m (pc + 3) Ls (v.toList ++ rest))) P) :
    OGo p e below (T.setTop (mkF m pc Ls (argsL.reverse ++ .ref b :: rest))) P := 
  own_virtualUpK X hx hZ hown w1 w7 w2 w5 w6 hy hb (backOf (W := W) hM hZ w4 w3 hf hl) eT hsize hlen hW hd hc hs k
theorem own_cat {v : Value} (q : v.isRef = true) : v.category = 1 := by cases v <;> first | rfl | (simp [Value.isRef] at q)
theorem own_narR {v : Value} {t : FieldType} (q : v.isRef = true) (ht : t.isReference = true := by rfl) : narrow t v = v := by cases v <;> first | (simp [Value.isRef] at q; done) | (cases t <;> first | rfl | (cases ht))
theorem own_fitR {v : Value} {t : FieldType} (q : v.isRef = true) (ht : t.isReference = true := by rfl) : fits t v = true := by cases v <;> first | (simp [Value.isRef] at q; done) | (cases t <;> first | rfl | (cases ht))
theorem own_store1 {l l' : Array Slot} {i : Nat} {v : Value} {o : Slot} (hold : l[i]? = some o) (ho : o = .unset ∨ ∃ w, o = .val w ∧ w.category = 1) (hv : v.category = 1) (hl' : l.setIfInBounds i (.val v) = l' := by rfl) : storeLocals l i v = some l' := by
  rw [XS.store1 hold ho hv, hl']
end Own
theorem own_eqv {args : Array Value} {s : State} {a b : Term} {y : Value} (h : (Jvm.Cond.eq a b).value args s none s [] = some true) (hb : b.eval args s none [] s = some y) : a.eval args s none [] s = some y := by
  cases ha : a.eval args s none [] s with
  | none => simp [Cond.value, ha] at h
  | some x => cases x <;> cases y <;> simp_all [Cond.value]
theorem own_len {args : Array Value} {s : State} {t : Term} {a : Addr} {cl : Cell} {ty : FieldType} {n : Int32} (ev : t.eval args s none [] s = some (.ref a)) (A : Arr s s.heap a cl ty) (h : (Term.length t).eval args s none [] s = some (.int n)) : cl.slots.size < 2 ^ 31 ∧ cl.slots.size.toInt32 = n := by
  have ha : s.arrayAt? a = some cl := Arr.fin (State.WarmedH.refl s).alike A
  by_cases q : cl.slots.size < 2 ^ 31
  · rw [len_f ev ha q] at h
    exact ⟨q, Value.int.inj (Option.some.inj h)⟩
  · simp [Term.eval, ev, ha] at h
    omega
theorem own_elem {args : Array Value} {s : State} {t : Term} {a : Addr} {cl : Cell} {ty : FieldType} {j : Int32} {v : Value} (ev : t.eval args s none [] s = some (.ref a)) (A : Arr s s.heap a cl ty) (h : (Term.elem t (Term.int j)).eval args s none [] s = some v) (hn : ¬ j < 0 := by decide) : cl.slots[j.toNatClampNeg]? = some v := by
  have ha : s.arrayAt? a = some cl := Arr.fin (State.WarmedH.refl s).alike A
  rw [← elem_f ev (Term.int_eval j) ha hn]; exact h
theorem own_pd0 : parseMethodDescriptor "()V" = some ⟨[], none⟩ := by decide +kernel
theorem own_pd1 : parseMethodDescriptor "(DD)D" = some ⟨[.double, .double], some .double⟩ := by decide +kernel
theorem own_pd2 : parseMethodDescriptor "(JJZ)V" = some ⟨[.long, .long, .boolean], none⟩ := by decide +kernel
theorem own_pd3 : parseMethodDescriptor "()Z" = some ⟨[], some .boolean⟩ := by decide +kernel
theorem own_pd4 : parseMethodDescriptor "(JJ)D" = some ⟨[.long, .long], some .double⟩ := by decide +kernel
theorem own_pn0 : plainName "java/lang/Record" = true := by first | (simp [plainName, overriddenIn]; done) | decide +kernel
theorem own_pn1 : plainName "com/example/slotwise/slotwise/search/Budget" = true := by first | (simp [plainName, overriddenIn]; done) | decide +kernel
theorem own_pn2 : plainName "com/example/slotwise/slotwise/search/BudgetHasTimeLimitPinLaw" = true := by first | (simp [plainName, overriddenIn]; done) | decide +kernel
theorem own_d_jdk_30_method_1_code_0 : decode jdk_30_method_1_code 0 = .ok (.aload_n 0, 1) := by decide +kernel
theorem own_d_jdk_30_method_1_code_1 : decode jdk_30_method_1_code 1 = .ok (.invokespecial 1, 3) := by decide +kernel
theorem own_d_jdk_30_method_1_code_4 : decode jdk_30_method_1_code 4 = .ok (.return_, 1) := by decide +kernel
theorem own_d_prog_44_method_1_code_0 : decode prog_44_method_1_code 0 = .ok (.aload_n 0, 1) := by decide +kernel
theorem own_d_prog_44_method_1_code_1 : decode prog_44_method_1_code 1 = .ok (.invokespecial 3, 3) := by decide +kernel
theorem own_d_prog_44_method_1_code_4 : decode prog_44_method_1_code 4 = .ok (.lload_n 1, 1) := by decide +kernel
theorem own_d_prog_44_method_1_code_5 : decode prog_44_method_1_code 5 = .ok (.lconst 1, 1) := by decide +kernel
theorem own_d_prog_44_method_1_code_6 : decode prog_44_method_1_code 6 = .ok (.lcmp, 1) := by decide +kernel
theorem own_d_prog_44_method_1_code_7 : decode prog_44_method_1_code 7 = .ok (.ifCond .lt 9, 3) := by decide +kernel
theorem own_d_prog_44_method_1_code_10 : decode prog_44_method_1_code 10 = .ok (.lload_n 3, 1) := by decide +kernel
theorem own_d_prog_44_method_1_code_11 : decode prog_44_method_1_code 11 = .ok (.lconst 1, 1) := by decide +kernel
theorem own_d_prog_44_method_1_code_12 : decode prog_44_method_1_code 12 = .ok (.lcmp, 1) := by decide +kernel
theorem own_d_prog_44_method_1_code_13 : decode prog_44_method_1_code 13 = .ok (.ifCond .ge 18, 3) := by decide +kernel
theorem own_d_prog_44_method_1_code_31 : decode prog_44_method_1_code 31 = .ok (.lload_n 1, 1) := by decide +kernel
theorem own_d_prog_44_method_1_code_32 : decode prog_44_method_1_code 32 = .ok (.ldc2_w 20, 3) := by decide +kernel
theorem own_d_prog_44_method_1_code_35 : decode prog_44_method_1_code 35 = .ok (.lcmp, 1) := by decide +kernel
theorem own_d_prog_44_method_1_code_36 : decode prog_44_method_1_code 36 = .ok (.ifCond .ne 21, 3) := by decide +kernel
theorem own_d_prog_44_method_1_code_39 : decode prog_44_method_1_code 39 = .ok (.lload_n 3, 1) := by decide +kernel
theorem own_d_prog_44_method_1_code_40 : decode prog_44_method_1_code 40 = .ok (.ldc2_w 20, 3) := by decide +kernel
theorem own_d_prog_44_method_1_code_43 : decode prog_44_method_1_code 43 = .ok (.lcmp, 1) := by decide +kernel
theorem own_d_prog_44_method_1_code_44 : decode prog_44_method_1_code 44 = .ok (.ifCond .ne 13, 3) := by decide +kernel
theorem own_d_prog_44_method_1_code_57 : decode prog_44_method_1_code 57 = .ok (.aload_n 0, 1) := by decide +kernel
theorem own_d_prog_44_method_1_code_58 : decode prog_44_method_1_code 58 = .ok (.lload_n 1, 1) := by decide +kernel
theorem own_d_prog_44_method_1_code_59 : decode prog_44_method_1_code 59 = .ok (.putfield 24, 3) := by decide +kernel
theorem own_d_prog_44_method_1_code_62 : decode prog_44_method_1_code 62 = .ok (.aload_n 0, 1) := by decide +kernel
theorem own_d_prog_44_method_1_code_63 : decode prog_44_method_1_code 63 = .ok (.lload_n 3, 1) := by decide +kernel
theorem own_d_prog_44_method_1_code_64 : decode prog_44_method_1_code 64 = .ok (.putfield 28, 3) := by decide +kernel
theorem own_d_prog_44_method_1_code_67 : decode prog_44_method_1_code 67 = .ok (.aload_n 0, 1) := by decide +kernel
theorem own_d_prog_44_method_1_code_68 : decode prog_44_method_1_code 68 = .ok (.iload 5, 2) := by decide +kernel
theorem own_d_prog_44_method_1_code_70 : decode prog_44_method_1_code 70 = .ok (.putfield 31, 3) := by decide +kernel
theorem own_d_prog_44_method_1_code_73 : decode prog_44_method_1_code 73 = .ok (.return_, 1) := by decide +kernel
theorem own_d_prog_44_method_2_code_0 : decode prog_44_method_2_code 0 = .ok (.aload_n 0, 1) := by decide +kernel
theorem own_d_prog_44_method_2_code_1 : decode prog_44_method_2_code 1 = .ok (.getfield 28, 3) := by decide +kernel
theorem own_d_prog_44_method_2_code_4 : decode prog_44_method_2_code 4 = .ok (.ldc2_w 20, 3) := by decide +kernel
theorem own_d_prog_44_method_2_code_7 : decode prog_44_method_2_code 7 = .ok (.lcmp, 1) := by decide +kernel
theorem own_d_prog_44_method_2_code_8 : decode prog_44_method_2_code 8 = .ok (.ifCond .eq 7, 3) := by decide +kernel
theorem own_d_prog_44_method_2_code_15 : decode prog_44_method_2_code 15 = .ok (.iconst 0, 1) := by decide +kernel
theorem own_d_prog_44_method_2_code_16 : decode prog_44_method_2_code 16 = .ok (.ireturn, 1) := by decide +kernel
theorem own_d_prog_44_method_2_code_11 : decode prog_44_method_2_code 11 = .ok (.iconst 1, 1) := by decide +kernel
theorem own_d_prog_44_method_2_code_12 : decode prog_44_method_2_code 12 = .ok (.goto 4, 3) := by decide +kernel
theorem own_d_prog_44_method_4_code_0 : decode prog_44_method_4_code 0 = .ok (.aload_n 0, 1) := by decide +kernel
theorem own_d_prog_44_method_4_code_1 : decode prog_44_method_4_code 1 = .ok (.getfield 24, 3) := by decide +kernel
theorem own_d_prog_44_method_4_code_4 : decode prog_44_method_4_code 4 = .ok (.ldc2_w 20, 3) := by decide +kernel
theorem own_d_prog_44_method_4_code_7 : decode prog_44_method_4_code 7 = .ok (.lcmp, 1) := by decide +kernel
theorem own_d_prog_44_method_4_code_23 : decode prog_44_method_4_code 23 = .ok (.dstore 5, 2) := by decide +kernel
theorem own_d_prog_44_method_4_code_25 : decode prog_44_method_4_code 25 = .ok (.aload_n 0, 1) := by decide +kernel
theorem own_d_prog_44_method_4_code_26 : decode prog_44_method_4_code 26 = .ok (.getfield 28, 3) := by decide +kernel
theorem own_d_prog_44_method_4_code_29 : decode prog_44_method_4_code 29 = .ok (.ldc2_w 20, 3) := by decide +kernel
theorem own_d_prog_44_method_4_code_32 : decode prog_44_method_4_code 32 = .ok (.lcmp, 1) := by decide +kernel
theorem own_d_prog_44_method_4_code_33 : decode prog_44_method_4_code 33 = .ok (.ifCond .ne 7, 3) := by decide +kernel
theorem own_d_prog_44_method_4_code_36 : decode prog_44_method_4_code 36 = .ok (.dconst 0, 1) := by decide +kernel
theorem own_d_prog_44_method_4_code_37 : decode prog_44_method_4_code 37 = .ok (.goto 11, 3) := by decide +kernel
theorem own_d_prog_44_method_4_code_48 : decode prog_44_method_4_code 48 = .ok (.dstore 7, 2) := by decide +kernel
theorem own_d_prog_44_method_4_code_50 : decode prog_44_method_4_code 50 = .ok (.dconst 1, 1) := by decide +kernel
theorem own_d_prog_44_method_4_code_51 : decode prog_44_method_4_code 51 = .ok (.dload 5, 2) := by decide +kernel
theorem own_d_prog_44_method_4_code_53 : decode prog_44_method_4_code 53 = .ok (.dload 7, 2) := by decide +kernel
theorem own_d_prog_44_method_4_code_55 : decode prog_44_method_4_code 55 = .ok (.invokestatic 38, 3) := by decide +kernel
theorem own_d_prog_44_method_4_code_58 : decode prog_44_method_4_code 58 = .ok (.invokestatic 44, 3) := by decide +kernel
theorem own_d_prog_44_method_4_code_61 : decode prog_44_method_4_code 61 = .ok (.dreturn, 1) := by decide +kernel
theorem own_d_prog_44_method_4_code_40 : decode prog_44_method_4_code 40 = .ok (.lload_n 3, 1) := by decide +kernel
theorem own_d_prog_44_method_4_code_41 : decode prog_44_method_4_code 41 = .ok (.l2d, 1) := by decide +kernel
theorem own_d_prog_44_method_4_code_42 : decode prog_44_method_4_code 42 = .ok (.aload_n 0, 1) := by decide +kernel
theorem own_d_prog_44_method_4_code_43 : decode prog_44_method_4_code 43 = .ok (.getfield 28, 3) := by decide +kernel
theorem own_d_prog_44_method_4_code_46 : decode prog_44_method_4_code 46 = .ok (.l2d, 1) := by decide +kernel
theorem own_d_prog_44_method_4_code_47 : decode prog_44_method_4_code 47 = .ok (.ddiv, 1) := by decide +kernel
theorem own_d_prog_44_method_4_code_8 : decode prog_44_method_4_code 8 = .ok (.ifCond .ne 7, 3) := by decide +kernel
theorem own_d_prog_44_method_4_code_11 : decode prog_44_method_4_code 11 = .ok (.dconst 0, 1) := by decide +kernel
theorem own_d_prog_44_method_4_code_12 : decode prog_44_method_4_code 12 = .ok (.goto 11, 3) := by decide +kernel
theorem own_d_prog_44_method_4_code_15 : decode prog_44_method_4_code 15 = .ok (.lload_n 1, 1) := by decide +kernel
theorem own_d_prog_44_method_4_code_16 : decode prog_44_method_4_code 16 = .ok (.l2d, 1) := by decide +kernel
theorem own_d_prog_44_method_4_code_17 : decode prog_44_method_4_code 17 = .ok (.aload_n 0, 1) := by decide +kernel
theorem own_d_prog_44_method_4_code_18 : decode prog_44_method_4_code 18 = .ok (.getfield 24, 3) := by decide +kernel
theorem own_d_prog_44_method_4_code_21 : decode prog_44_method_4_code 21 = .ok (.l2d, 1) := by decide +kernel
theorem own_d_prog_44_method_4_code_22 : decode prog_44_method_4_code 22 = .ok (.ddiv, 1) := by decide +kernel

section OwnD
open Jvm.FP.Core Jvm.Free.Fl
open Native.java_lang_Math.nans (pick64)
theorem own_l2d {n : Int64} (h : 1 ≤ n.toInt) : ∃ d r, val64 (FP.l2d n) = .fin false d r ∧ 0 < d := by
  obtain ⟨s, c, q, e⟩ := Jvm.FP.Core.l2d_fin n
  have e2 : b64.qmin = -1074 := by decide +kernel
  have e1 : val64 (l2d n) = roundRatio b64 (decide (n.toInt < 0)) n.toInt.natAbs 1 0 := val64_l2d n
  have hs : (decide (n.toInt < 0)) = false := decide_eq_false (by omega)
  rw [hs] at e1
  have hfit : Jvm.FP.Core.fits b64 (.fin false 1 b64.qmin) := ⟨by decide +kernel, by omega, by decide +kernel, Or.inl rfl⟩
  have g := zmag_roundRatio_ge good_b64 (s := false) (A := n.toInt.natAbs) (B := 1) (e := 0) (e0 := b64.qmin) (V := .fin false 1 b64.qmin) (by decide) hfit (Int.le_refl _) (by rw [e2]; decide) (by
    show 1 * 2 ^ (b64.qmin - b64.qmin).toNat * 2 ^ (b64.qmin - b64.qmin).toNat * 1 ≤ n.toInt.natAbs * 2 ^ (0 - b64.qmin).toNat
    rw [Int.sub_self]
    have := Nat.two_pow_pos (0 - b64.qmin).toNat
    have : 1 * 1 ≤ n.toInt.natAbs * 2 ^ (0 - b64.qmin).toNat := Nat.mul_le_mul (by omega) this
    simpa using this)
  have hg := sgn_roundRatio b64 false n.toInt.natAbs 1 0
  rw [← e1, e] at g hg
  refine ⟨c, q, ?_, ?_⟩
  · have : s = false := hg
    rw [← this]; exact e
  · have g' : 1 * 2 ^ (b64.qmin - b64.qmin).toNat ≤ c * 2 ^ (q - b64.qmin).toNat := g
    rcases Nat.eq_zero_or_pos c with z | z
    · rw [z, Nat.zero_mul, Int.sub_self] at g'; exact absurd g' (by decide)
    · exact z
theorem own_C : val64 (FP.l2d 9223372036854775807) = .fin false (2 ^ 52) 11 := by decide +kernel
theorem own_pos {n : Int64} (h : 1 ≤ n.toInt) : val64 (FP.ddiv (FP.l2d 9223372036854775807) (FP.l2d n)) ≠ .nan ∧ 0 < zval b64 (val64 (FP.ddiv (FP.l2d 9223372036854775807) (FP.l2d n))) := by
  obtain ⟨d, r, e, hd⟩ := own_l2d h
  have e2 : b64.qmin = -1074 := by decide +kernel
  have e1 : b64.p = 53 := by decide +kernel
  have e3 : b64.qmax = 971 := by decide +kernel
  have hf := val64_fits (FP.l2d n)
  rw [e] at hf
  obtain ⟨f1, f2, f3, -⟩ := hf
  rw [e1] at f1
  rw [e2] at f2
  rw [e3] at f3
  have q : val64 (FP.ddiv (FP.l2d 9223372036854775807) (FP.l2d n)) = roundRatio b64 (false != false) (2 ^ 52) d (11 - r) := by
    show val64 (ddiv _ _) = _
    rw [val64_ddiv]
    rw [show val64 (FP.l2d 9223372036854775807) = _ from own_C, e]
    show (if d = 0 then (if (2 : Nat) ^ 52 = 0 then Datum.nan else Datum.inf (false != false)) else roundRatio b64 (false != false) (2 ^ 52) d (11 - r)) = _
    rw [if_neg (by omega)]
  rw [q]
  refine ⟨roundRatio_ne_nan _ _ _ _ _, ?_⟩
  have hfit : Jvm.FP.Core.fits b64 (.fin false 1 b64.qmin) := ⟨by decide +kernel, by omega, by decide +kernel, Or.inl rfl⟩
  have g := zmag_roundRatio_ge good_b64 (s := (false != false)) (A := 2 ^ 52) (B := d) (e := 11 - r) (e0 := b64.qmin) (V := .fin false 1 b64.qmin) hd hfit (Int.le_refl _) (by rw [e2]; omega) (by
    show 1 * 2 ^ (b64.qmin - b64.qmin).toNat * 2 ^ (b64.qmin - b64.qmin).toNat * d ≤ 2 ^ 52 * 2 ^ (11 - r - b64.qmin).toNat
    rw [Int.sub_self, ← Nat.pow_add]
    have : 2 ^ 53 ≤ 2 ^ (52 + (11 - r - b64.qmin).toNat) := Nat.pow_le_pow_right (by decide) (by rw [e2]; omega)
    simp only [Int.toNat_zero, Nat.pow_zero, Nat.one_mul]
    omega)
  show 0 < signed (sgn _) (zmag b64 _)
  rw [sgn_roundRatio]
  have g' : 1 * 2 ^ (b64.qmin - b64.qmin).toNat ≤ zmag b64 (roundRatio b64 (false != false) (2 ^ 52) d (11 - r)) := g
  rw [Int.sub_self] at g'
  show (0 : Int) < ((zmag b64 (roundRatio b64 (false != false) (2 ^ 52) d (11 - r)) : Nat) : Int)
  simp only [Int.toNat_zero, Nat.pow_zero, Nat.one_mul] at g'
  omega
theorem own_zdiv {n : Int64} (h : 1 ≤ n.toInt) : FP.ddiv (FP.l2d 0) (FP.l2d n) = FP.dconst0 := by
  obtain ⟨d, r, e, hd⟩ := own_l2d h
  have e0 : FP.l2d 0 = 0 := by decide +kernel
  have ez : val64 0 = .fin false 0 b64.qmin := by decide +kernel
  have ed : FP.dconst0 = 0 := by decide +kernel
  have q : val64 (FP.ddiv 0 (FP.l2d n)) = val64 0 := by
    show val64 (ddiv _ _) = _
    rw [val64_ddiv, ez, e]
    show (if d = 0 then (if (0 : Nat) = 0 then Datum.nan else Datum.inf (false != false)) else roundRatio b64 (false != false) 0 d (b64.qmin - r)) = _
    rw [if_neg (by omega)]
    exact roundRatio_exact good_b64 hd (zero_fits good_b64 _) (by simp)
  rw [e0, ed]
  exact val64_inj (by rw [q, ez]; exact Datum.noConfusion) q
theorem own_zz : ¬ 0 < cmpValue (FP.dcmp (pick64 false FP.dconst1 (pick64 true FP.dconst0 FP.dconst0)) FP.dconst0) .l := by decide +kernel
theorem own_gt {y : UInt64} (h1 : val64 y ≠ .nan) (h2 : 0 < zval b64 (val64 y)) : FP.dcmp FP.dconst0 y = some .lt ∧ FP.dcmp y FP.dconst0 = some .gt := by
  have ed : FP.dconst0 = 0 := by decide +kernel
  have ez : val64 0 ≠ .nan := by decide +kernel
  have z := zval64_zero
  constructor
  · show dcmp _ _ = _
    rw [ed, dcmp_zval ez h1, z]
    congr 1
    show (if (0 : Int) < zval b64 (val64 y) then Ordering.lt else if (0 : Int) = zval b64 (val64 y) then Ordering.eq else Ordering.gt) = _
    rw [if_pos h2]
  · show dcmp _ _ = _
    rw [ed, dcmp_zval h1 ez, z]
    congr 1
    show (if zval b64 (val64 y) < (0 : Int) then Ordering.lt else if zval b64 (val64 y) = (0 : Int) then Ordering.eq else Ordering.gt) = _
    rw [if_neg (by omega), if_neg (by omega)]
theorem own_pz {y : UInt64} (h1 : val64 y ≠ .nan) (h2 : 0 < zval b64 (val64 y)) : pick64 true FP.dconst0 y = y ∧ 0 < cmpValue (FP.dcmp (pick64 false FP.dconst1 y) FP.dconst0) .l := by
  have g := own_gt h1 h2
  constructor
  · show (match FP.dcmp FP.dconst0 y with | some .lt => if true then y else FP.dconst0 | some .gt => if true then FP.dconst0 else y | _ => if (FP.dconst0 >>> 63 == 1) == true then y else FP.dconst0) = y
    rw [g.1]; rfl
  · rcases pick64_or false FP.dconst1 y with e | e
    · rw [e]; decide +kernel
    · rw [e, g.2]; decide
theorem own_nn {y : UInt64} (h : val64 y ≠ .nan) : NoNaN64 y := noNaN64_no.mpr ((notNaN_iff y).mpr h)
theorem own_maxB {p : Program} {l : Launch} {e : Env} {R : Room} {s : State} {args : Array Value} {below : List Frame} {W : Nat} {Z : State} {a0 : Array Value} {h : Heap} {a b : UInt64} (hZ : Z.Warmed39 s.vm) (w : (Jvm.Cond.code ⟨"java/lang/Math", "max", "(DD)D"⟩ jdk_29_method_68_code 4 (some .double)).before a0 Z = true) (hf : 1 ≤ R.frames) (hl : W + 15 ≤ R.locals) (ha : NoNaN64 a) (hb : NoNaN64 b) :
    OBack l R p e below s args ⟨"java/lang/Math", "max", "(DD)D"⟩ 3 W #[.double a, .double b] h 0 0 (fun v h' L => v = some (.double (pick64 true a b)) ∧ L = [] ∧ h' = h) :=
  Back.mono (Jvm.Free.Fl.Abs.maxD_pays a b (mvT hZ w) hf hl) (fun A x q => ⟨q.2.2.1, q.2.2.2, q.1, ha, hb⟩) (fun A x v B q r => by obtain ⟨r1, rfl⟩ := r; exact ⟨[], ⟨r1, rfl, q.2.1⟩, (List.append_nil _).symm, rfl, rfl⟩)
theorem own_minB {p : Program} {l : Launch} {e : Env} {R : Room} {s : State} {args : Array Value} {below : List Frame} {W : Nat} {Z : State} {a0 : Array Value} {h : Heap} {a b : UInt64} (hZ : Z.Warmed39 s.vm) (w : (Jvm.Cond.code ⟨"java/lang/Math", "min", "(DD)D"⟩ jdk_29_method_72_code 4 (some .double)).before a0 Z = true) (hf : 1 ≤ R.frames) (hl : W + 15 ≤ R.locals) (ha : NoNaN64 a) (hb : NoNaN64 b) :
    OBack l R p e below s args ⟨"java/lang/Math", "min", "(DD)D"⟩ 3 W #[.double a, .double b] h 0 0 (fun v h' L => v = some (.double (pick64 false a b)) ∧ L = [] ∧ h' = h) :=
  Back.mono (Jvm.Free.Fl.Abs.minD_pays a b (mvT hZ w) hf hl) (fun A x q => ⟨q.2.2.1, q.2.2.2, q.1, ha, hb⟩) (fun A x v B q r => by obtain ⟨r1, rfl⟩ := r; exact ⟨[], ⟨r1, rfl, q.2.1⟩, (List.append_nil _).symm, rfl, rfl⟩)

theorem own_one : NoNaN64 FP.dconst1 := own_nn (by decide +kernel)
theorem own_zero : NoNaN64 FP.dconst0 := own_nn (by decide +kernel)
end OwnD
theorem own_ge {n : Int64} (h : ¬ n < 1) : 1 ≤ n.toInt := by
  rw [Int64.lt_iff_toInt_lt] at h
  have z : (1 : Int64).toInt = 1 := rfl
  omega
theorem own_msk (x : Int64) (h : ¬ (x &&& (9223372036854775807 : Int64)) = 0) : ¬ (x &&& (9223372036854775807 : Int64)) < 1 := by
  have e1 : (x &&& 9223372036854775807).toInt = x.toInt % 2 ^ 63 := Jvm.Kit.i64_mask x 9223372036854775807 (k := 63) (by decide) (by decide)
  rw [Int64.lt_iff_toInt_lt]
  rw [← Int64.toInt_inj] at h
  have z0 : (0 : Int64).toInt = 0 := rfl
  have z1 : (1 : Int64).toInt = 1 := rfl
  omega
theorem own_nar1 : nar .boolean (1 : Int32) = 1 := by decide
theorem own_nar0 : nar .boolean (0 : Int32) = 0 := by decide
open Native.java_lang_Math.nans (pick64)
open Jvm.Free.Fl

set_option maxRecDepth 65536 in
set_option maxHeartbeats 40000000 in
theorem own_rec (l : Launch) (Z : State) (a0 : Array Value) (hw : ∀ d ∈ tables_1, d.before a0 Z = true) (ws : List Jvm.Cond) (a : Addr) (h0 : Heap) (n0 : Nat) (Z0 : n0 ≤ h0.size)  :
    OMet l Z (⟨"java/lang/Record", "<init>", "()V"⟩ : MethodName) jdk_30_method_1_code 1 none ws ({ frames := 1, cells := 0, slots := 0, locals := 12 } : Room) #[(.ref a)] h0 (fun v h L => v = none ∧ Fr n0 L ∧ h = h0) := by
  refine OMet.body (plainFor_of_name own_pn0) ?_
  intro p e s m below meth c s₁ hx hby hml hown hnm hret hlk hZ X0 e0
  refine OGo.step (fun _ kk => castTop (show entryFrame m #[(.ref a)] 1 = (mkF m 0 #[.val (.ref a)] []) from by first | (simp [entryFrame, mkF, argsToLocals, Value.category]; done) | rfl) kk) ?_
  show OGo p e below (s₁.setTop (mkF m 0 #[.val (.ref a)] [])) _
  refine OGo.step (fun _ kk => XS.aloadN X0.here hx rfl (hb hby own_d_jdk_30_method_1_code_0) rfl rfl kk) ?_
  show OGo p e below (s₁.setTop (mkF m 1 #[.val (.ref a)] [(.ref a)])) _
  obtain ⟨T1, X1, e1, st1⟩ := initO X0 hx hZ hown (hw _ (List.mem_of_getElem? (i := 12) rfl)) (hw _ (List.mem_of_getElem? (i := 13) rfl)) (hw _ (List.mem_of_getElem? (i := 14) rfl)) e0 (g := (mkF m 1 #[.val (.ref a)] [(.ref a)])) rfl (by rw [hml]; rfl) rfl (hb hby own_d_jdk_30_method_1_code_1) (by decide) (W := 0) (by show 2 * 0 + _ ≤ _; exact Nat.le_of_eq rfl) (by decide)
  refine OGo.step st1 ?_
  show OGo p e below (T1.setTop (mkF m 4 #[.val (.ref a)] [])) _
  exact own_ret0 X1 hx hlk hret (hb hby own_d_jdk_30_method_1_code_4) ⟨rfl, Fr.nil n0, e1⟩ (by decide) (by decide)

set_option maxRecDepth 65536 in
set_option maxHeartbeats 40000000 in
theorem own_binit (l : Launch) (Z : State) (a0 : Array Value) (hw : ∀ d ∈ tables_1, d.before a0 Z = true) (ws : List Jvm.Cond) (a : Addr) (e1_ n1_ : Int64) (fl : Int32) (h0 : Heap) (n0 : Nat) (Z0 : n0 ≤ h0.size) (E1 : Exa Z h0 a "com/example/slotwise/slotwise/search/Budget") (F_evaluations : Fld Z h0 a "com/example/slotwise/slotwise/search/Budget" "evaluations" "J" (.long (0 : Int64))) (F_nanos : Fld Z h0 a "com/example/slotwise/slotwise/search/Budget" "nanos" "J" (.long (0 : Int64))) (F_stopWhenFeasible : Fld Z h0 a "com/example/slotwise/slotwise/search/Budget" "stopWhenFeasible" "Z" (.int (0 : Int32))) (ga : n0 ≤ a) (he : ¬ e1_ < 1) (hn : ¬ n1_ < 1) (hb_ : ¬ (e1_ = (9223372036854775807 : Int64) ∧ n1_ = (9223372036854775807 : Int64))) :
    OMet l Z (⟨"com/example/slotwise/slotwise/search/Budget", "<init>", "(JJZ)V"⟩ : MethodName) prog_44_method_1_code 6 none ws ({ frames := 2, cells := 0, slots := 0, locals := 24 } : Room) #[(.ref a), (.long e1_), (.long n1_), (.int fl)] h0 (fun v h L => v = none ∧ Fr n0 L ∧ Keep h0 h [a] ∧ Exa Z h a "com/example/slotwise/slotwise/search/Budget" ∧ Fld Z h a "com/example/slotwise/slotwise/search/Budget" "evaluations" "J" (.long e1_) ∧ Fld Z h a "com/example/slotwise/slotwise/search/Budget" "nanos" "J" (.long n1_)) := by
  refine OMet.body (plainFor_of_name own_pn1) ?_
  intro p e s m below meth c s₁ hx hby hml hown hnm hret hlk hZ X0 e0
  refine OGo.step (fun _ kk => castTop (show entryFrame m #[(.ref a), (.long e1_), (.long n1_), (.int fl)] 6 = (mkF m 0 #[.val (.ref a), .val (.long e1_), .second, .val (.long n1_), .second, .val (.int fl)] []) from by first | (simp [entryFrame, mkF, argsToLocals, Value.category]; done) | rfl) kk) ?_
  show OGo p e below (s₁.setTop (mkF m 0 #[.val (.ref a), .val (.long e1_), .second, .val (.long n1_), .second, .val (.int fl)] [])) _
  refine OGo.step (fun _ kk => XS.aloadN X0.here hx rfl (hb hby own_d_prog_44_method_1_code_0) rfl rfl kk) ?_
  show OGo p e below (s₁.setTop (mkF m 1 #[.val (.ref a), .val (.long e1_), .second, .val (.long n1_), .second, .val (.int fl)] [(.ref a)])) _
  refine own_special X0 hx hZ (y := (⟨"java/lang/Record", "<init>", "()V"⟩ : MethodName)) rfl hown (hw _ (List.mem_of_getElem? (i := 7) rfl)) (hw _ (List.mem_of_getElem? (i := 8) rfl)) (hw _ (List.mem_of_getElem? (i := 11) rfl)) (hw _ (List.mem_of_getElem? (i := 10) rfl)) (by decide) (a := a) (W := 0) (own_rec l Z a0 hw [] a h0 n0 Z0) e0  (pc := 1) (Ls := #[.val (.ref a), .val (.long e1_), .second, .val (.long n1_), .second, .val (.int fl)]) (argsL := []) (rest := []) (by rw [hml]; rfl) (lenOf own_pd0 rfl) rfl (hb hby own_d_prog_44_method_1_code_1) (by decide) (by decide) (by decide) (by decide) ?_
  intro v2 T2 L2 X2 hQ2
  obtain ⟨rfl, N2, e2⟩ := hQ2
  show OGo p e below (T2.setTop (mkF m 4 #[.val (.ref a), .val (.long e1_), .second, .val (.long n1_), .second, .val (.int fl)] [])) _
  have Nc2 := Fr.app (Fr.nil n0) N2
  refine OGo.step (fun _ kk => XS.lloadN X2.here hx rfl (hb hby own_d_prog_44_method_1_code_4) rfl kk) ?_
  show OGo p e below (T2.setTop (mkF m 5 #[.val (.ref a), .val (.long e1_), .second, .val (.long n1_), .second, .val (.int fl)] [(.long e1_)])) _
  refine OGo.step (fun _ kk => XS.lconst X2.here hx rfl (hb hby own_d_prog_44_method_1_code_5) kk) ?_
  show OGo p e below (T2.setTop (mkF m 6 #[.val (.ref a), .val (.long e1_), .second, .val (.long n1_), .second, .val (.int fl)] [(.long (1 : Int64)), (.long e1_)])) _
  refine OGo.step (fun _ kk => XS.lcmp X2.here hx rfl (hb hby own_d_prog_44_method_1_code_6) rfl kk) ?_
  show OGo p e below (T2.setTop (mkF m 7 #[.val (.ref a), .val (.long e1_), .second, .val (.long n1_), .second, .val (.int fl)] [(.int (lcmpW e1_ (1 : Int64)))])) _
  refine OGo.step (fun _ kk => XS.ifNo X2.here hx rfl (hb hby own_d_prog_44_method_1_code_7) rfl ((if0 _ _).trans (flt (fun z => he ((lw_lt _ _).mp z))).1) kk) ?_
  show OGo p e below (T2.setTop (mkF m 10 #[.val (.ref a), .val (.long e1_), .second, .val (.long n1_), .second, .val (.int fl)] [])) _
  refine OGo.step (fun _ kk => XS.lloadN X2.here hx rfl (hb hby own_d_prog_44_method_1_code_10) rfl kk) ?_
  show OGo p e below (T2.setTop (mkF m 11 #[.val (.ref a), .val (.long e1_), .second, .val (.long n1_), .second, .val (.int fl)] [(.long n1_)])) _
  refine OGo.step (fun _ kk => XS.lconst X2.here hx rfl (hb hby own_d_prog_44_method_1_code_11) kk) ?_
  show OGo p e below (T2.setTop (mkF m 12 #[.val (.ref a), .val (.long e1_), .second, .val (.long n1_), .second, .val (.int fl)] [(.long (1 : Int64)), (.long n1_)])) _
  refine OGo.step (fun _ kk => XS.lcmp X2.here hx rfl (hb hby own_d_prog_44_method_1_code_12) rfl kk) ?_
  show OGo p e below (T2.setTop (mkF m 13 #[.val (.ref a), .val (.long e1_), .second, .val (.long n1_), .second, .val (.int fl)] [(.int (lcmpW n1_ (1 : Int64)))])) _
  refine OGo.step (fun _ kk => XS.ifYes X2.here hx rfl (pc0 := 13) (pc' := 31) rfl (hb hby own_d_prog_44_method_1_code_13) rfl ((if0 _ _).trans (flt (fun z => hn ((lw_lt _ _).mp z))).2.1) (by decide) (by decide) kk) ?_
  show OGo p e below (T2.setTop (mkF m 31 #[.val (.ref a), .val (.long e1_), .second, .val (.long n1_), .second, .val (.int fl)] [])) _
  refine OGo.step (fun _ kk => XS.lloadN X2.here hx rfl (hb hby own_d_prog_44_method_1_code_31) rfl kk) ?_
  show OGo p e below (T2.setTop (mkF m 32 #[.val (.ref a), .val (.long e1_), .second, .val (.long n1_), .second, .val (.int fl)] [(.long e1_)])) _
  refine OGo.step (fun _ kk => X2.ldc2Long hx hown (mvT hZ (hw _ (List.mem_of_getElem? (i := 15) rfl))) (g := (mkF m 32 #[.val (.ref a), .val (.long e1_), .second, .val (.long n1_), .second, .val (.int fl)] [(.long e1_)])) rfl (hb hby own_d_prog_44_method_1_code_32) _ kk) ?_
  show OGo p e below (T2.setTop (mkF m 35 #[.val (.ref a), .val (.long e1_), .second, .val (.long n1_), .second, .val (.int fl)] [(.long (9223372036854775807 : Int64)), (.long e1_)])) _
  refine OGo.step (fun _ kk => XS.lcmp X2.here hx rfl (hb hby own_d_prog_44_method_1_code_35) rfl kk) ?_
  show OGo p e below (T2.setTop (mkF m 36 #[.val (.ref a), .val (.long e1_), .second, .val (.long n1_), .second, .val (.int fl)] [(.int (lcmpW e1_ (9223372036854775807 : Int64)))])) _
  by_cases hh : (lcmpW e1_ (9223372036854775807 : Int64)) = (0 : Int32)
  · refine OGo.step (fun _ kk => XS.ifNo X2.here hx rfl (hb hby own_d_prog_44_method_1_code_36) rfl ((if0 _ _).trans (teq hh).2) kk) ?_
    show OGo p e below (T2.setTop (mkF m 39 #[.val (.ref a), .val (.long e1_), .second, .val (.long n1_), .second, .val (.int fl)] [])) _
    refine OGo.step (fun _ kk => XS.lloadN X2.here hx rfl (hb hby own_d_prog_44_method_1_code_39) rfl kk) ?_
    show OGo p e below (T2.setTop (mkF m 40 #[.val (.ref a), .val (.long e1_), .second, .val (.long n1_), .second, .val (.int fl)] [(.long n1_)])) _
    refine OGo.step (fun _ kk => X2.ldc2Long hx hown (mvT hZ (hw _ (List.mem_of_getElem? (i := 15) rfl))) (g := (mkF m 40 #[.val (.ref a), .val (.long e1_), .second, .val (.long n1_), .second, .val (.int fl)] [(.long n1_)])) rfl (hb hby own_d_prog_44_method_1_code_40) _ kk) ?_
    show OGo p e below (T2.setTop (mkF m 43 #[.val (.ref a), .val (.long e1_), .second, .val (.long n1_), .second, .val (.int fl)] [(.long (9223372036854775807 : Int64)), (.long n1_)])) _
    refine OGo.step (fun _ kk => XS.lcmp X2.here hx rfl (hb hby own_d_prog_44_method_1_code_43) rfl kk) ?_
    show OGo p e below (T2.setTop (mkF m 44 #[.val (.ref a), .val (.long e1_), .second, .val (.long n1_), .second, .val (.int fl)] [(.int (lcmpW n1_ (9223372036854775807 : Int64)))])) _
    refine OGo.step (fun _ kk => XS.ifYes X2.here hx rfl (pc0 := 44) (pc' := 57) rfl (hb hby own_d_prog_44_method_1_code_44) rfl ((if0 _ _).trans (feq (fun z => hb_ ⟨(lw_eq _ _).mp hh, (lw_eq _ _).mp z⟩)).2) (by decide) (by decide) kk) ?_
    show OGo p e below (T2.setTop (mkF m 57 #[.val (.ref a), .val (.long e1_), .second, .val (.long n1_), .second, .val (.int fl)] [])) _
    refine OGo.step (fun _ kk => XS.aloadN X2.here hx rfl (hb hby own_d_prog_44_method_1_code_57) rfl rfl kk) ?_
    show OGo p e below (T2.setTop (mkF m 58 #[.val (.ref a), .val (.long e1_), .second, .val (.long n1_), .second, .val (.int fl)] [(.ref a)])) _
    refine OGo.step (fun _ kk => XS.lloadN X2.here hx rfl (hb hby own_d_prog_44_method_1_code_58) rfl kk) ?_
    show OGo p e below (T2.setTop (mkF m 59 #[.val (.ref a), .val (.long e1_), .second, .val (.long n1_), .second, .val (.int fl)] [(.long e1_), (.ref a)])) _
    obtain ⟨T3, h3, X3, e3, W3, st3⟩ := putF X2 hx hZ hown (host := "") (Or.inl (hw _ (List.mem_of_getElem? (i := 16) rfl))) Via.refl e2 F_evaluations E1 (Or.inr ⟨(hw _ (List.mem_of_getElem? (i := 17) rfl)), rfl, hnm⟩) (hw _ (List.mem_of_getElem? (i := 2) rfl)) (ty := .long) (by decide) rfl rfl (g := (mkF m 59 #[.val (.ref a), .val (.long e1_), .second, .val (.long n1_), .second, .val (.int fl)] [(.long e1_), (.ref a)])) rfl rfl (hb hby own_d_prog_44_method_1_code_59)
    refine OGo.step st3 ?_
    show OGo p e below (T3.setTop (mkF m 62 #[.val (.ref a), .val (.long e1_), .second, .val (.long n1_), .second, .val (.int fl)] [])) _
    have Fw3 := F_evaluations.same W3
    have Nf3 := Fr.snoc X3 Nc2 ga
    have sz3 : n0 ≤ h3.size := by rw [W3.size]; exact Z0
    refine OGo.step (fun _ kk => XS.aloadN X3.here hx rfl (hb hby own_d_prog_44_method_1_code_62) rfl rfl kk) ?_
    show OGo p e below (T3.setTop (mkF m 63 #[.val (.ref a), .val (.long e1_), .second, .val (.long n1_), .second, .val (.int fl)] [(.ref a)])) _
    refine OGo.step (fun _ kk => XS.lloadN X3.here hx rfl (hb hby own_d_prog_44_method_1_code_63) rfl kk) ?_
    show OGo p e below (T3.setTop (mkF m 64 #[.val (.ref a), .val (.long e1_), .second, .val (.long n1_), .second, .val (.int fl)] [(.long n1_), (.ref a)])) _
    have fc4 := (F_nanos.other W3 (Or.inr (slot_ne (Or.inr (hw _ (List.mem_of_getElem? (i := 19) rfl))) (Or.inr (hw _ (List.mem_of_getElem? (i := 17) rfl))) (by decide) (t := .long) (t' := .long) (by decide) (by decide))))
    have fc5 := (E1.wr W3)
    obtain ⟨T6, h6, X6, e6, W6, st6⟩ := putF X3 hx hZ hown (host := "") (Or.inl (hw _ (List.mem_of_getElem? (i := 18) rfl))) Via.refl e3 fc4 fc5 (Or.inr ⟨(hw _ (List.mem_of_getElem? (i := 19) rfl)), rfl, hnm⟩) (hw _ (List.mem_of_getElem? (i := 2) rfl)) (ty := .long) (by decide) rfl rfl (g := (mkF m 64 #[.val (.ref a), .val (.long e1_), .second, .val (.long n1_), .second, .val (.int fl)] [(.long n1_), (.ref a)])) rfl rfl (hb hby own_d_prog_44_method_1_code_64)
    refine OGo.step st6 ?_
    show OGo p e below (T6.setTop (mkF m 67 #[.val (.ref a), .val (.long e1_), .second, .val (.long n1_), .second, .val (.int fl)] [])) _
    have Fw6 := fc4.same W6
    have Nf6 := Fr.snoc X6 Nf3 ga
    have sz6 : n0 ≤ h6.size := by rw [W6.size]; exact sz3
    refine OGo.step (fun _ kk => XS.aloadN X6.here hx rfl (hb hby own_d_prog_44_method_1_code_67) rfl rfl kk) ?_
    show OGo p e below (T6.setTop (mkF m 68 #[.val (.ref a), .val (.long e1_), .second, .val (.long n1_), .second, .val (.int fl)] [(.ref a)])) _
    refine OGo.step (fun _ kk => XS.iload X6.here hx rfl (hb hby own_d_prog_44_method_1_code_68) rfl kk) ?_
    show OGo p e below (T6.setTop (mkF m 70 #[.val (.ref a), .val (.long e1_), .second, .val (.long n1_), .second, .val (.int fl)] [(.int fl), (.ref a)])) _
    have fc7 := ((F_stopWhenFeasible.other W3 (Or.inr (slot_ne (Or.inr (hw _ (List.mem_of_getElem? (i := 21) rfl))) (Or.inr (hw _ (List.mem_of_getElem? (i := 17) rfl))) (by decide) (t := .boolean) (t' := .long) (by decide) (by decide)))).other W6 (Or.inr (slot_ne (Or.inr (hw _ (List.mem_of_getElem? (i := 21) rfl))) (Or.inr (hw _ (List.mem_of_getElem? (i := 19) rfl))) (by decide) (t := .boolean) (t' := .long) (by decide) (by decide))))
    have fc8 := (fc5.wr W6)
    obtain ⟨T9, h9, X9, e9, W9, st9⟩ := putFN X6 hx hZ hown (hw _ (List.mem_of_getElem? (i := 20) rfl)) Via.refl e6 fc7 fc8 (Or.inr ⟨(hw _ (List.mem_of_getElem? (i := 21) rfl)), rfl, hnm⟩) (hw _ (List.mem_of_getElem? (i := 2) rfl)) (ty := .boolean) (v' := (.int (nar .boolean fl))) (by decide) rfl (fits_nar_bool fl) (g := (mkF m 70 #[.val (.ref a), .val (.long e1_), .second, .val (.long n1_), .second, .val (.int fl)] [(.int fl), (.ref a)])) rfl rfl (hb hby own_d_prog_44_method_1_code_70)
    refine OGo.step st9 ?_
    show OGo p e below (T9.setTop (mkF m 73 #[.val (.ref a), .val (.long e1_), .second, .val (.long n1_), .second, .val (.int fl)] [])) _
    have Fw9 := fc7.same W9
    have Nf9 := Fr.snoc X9 Nf6 ga
    have sz9 : n0 ≤ h9.size := by rw [W9.size]; exact sz6
    have fc10 := (fc8.wr W9)
    have fc11 := ((Fw3.other W6 (Or.inr (slot_ne (Or.inr (hw _ (List.mem_of_getElem? (i := 17) rfl))) (Or.inr (hw _ (List.mem_of_getElem? (i := 19) rfl))) (by decide) (t := .long) (t' := .long) (by decide) (by decide)))).other W9 (Or.inr (slot_ne (Or.inr (hw _ (List.mem_of_getElem? (i := 17) rfl))) (Or.inr (hw _ (List.mem_of_getElem? (i := 21) rfl))) (by decide) (t := .long) (t' := .boolean) (by decide) (by decide))))
    have fc12 := (Fw6.other W9 (Or.inr (slot_ne (Or.inr (hw _ (List.mem_of_getElem? (i := 19) rfl))) (Or.inr (hw _ (List.mem_of_getElem? (i := 21) rfl))) (by decide) (t := .long) (t' := .boolean) (by decide) (by decide))))
    have HK := ((((Keep.refl h0 [a]).wr W3 (Or.inl (List.mem_of_getElem? (i := 0) rfl))).wr W6 (Or.inl (List.mem_of_getElem? (i := 0) rfl))).wr W9 (Or.inl (List.mem_of_getElem? (i := 0) rfl)))
    exact own_ret0 X9 hx hlk hret (hb hby own_d_prog_44_method_1_code_73) (by rw [e9]; exact ⟨rfl, Nf9, HK, fc10, fc11, fc12⟩) (by decide) (by decide)
  · refine OGo.step (fun _ kk => XS.ifYes X2.here hx rfl (pc0 := 36) (pc' := 57) rfl (hb hby own_d_prog_44_method_1_code_36) rfl ((if0 _ _).trans (feq hh).2) (by decide) (by decide) kk) ?_
    show OGo p e below (T2.setTop (mkF m 57 #[.val (.ref a), .val (.long e1_), .second, .val (.long n1_), .second, .val (.int fl)] [])) _
    refine OGo.step (fun _ kk => XS.aloadN X2.here hx rfl (hb hby own_d_prog_44_method_1_code_57) rfl rfl kk) ?_
    show OGo p e below (T2.setTop (mkF m 58 #[.val (.ref a), .val (.long e1_), .second, .val (.long n1_), .second, .val (.int fl)] [(.ref a)])) _
    refine OGo.step (fun _ kk => XS.lloadN X2.here hx rfl (hb hby own_d_prog_44_method_1_code_58) rfl kk) ?_
    show OGo p e below (T2.setTop (mkF m 59 #[.val (.ref a), .val (.long e1_), .second, .val (.long n1_), .second, .val (.int fl)] [(.long e1_), (.ref a)])) _
    obtain ⟨T13, h13, X13, e13, W13, st13⟩ := putF X2 hx hZ hown (host := "") (Or.inl (hw _ (List.mem_of_getElem? (i := 16) rfl))) Via.refl e2 F_evaluations E1 (Or.inr ⟨(hw _ (List.mem_of_getElem? (i := 17) rfl)), rfl, hnm⟩) (hw _ (List.mem_of_getElem? (i := 2) rfl)) (ty := .long) (by decide) rfl rfl (g := (mkF m 59 #[.val (.ref a), .val (.long e1_), .second, .val (.long n1_), .second, .val (.int fl)] [(.long e1_), (.ref a)])) rfl rfl (hb hby own_d_prog_44_method_1_code_59)
    refine OGo.step st13 ?_
    show OGo p e below (T13.setTop (mkF m 62 #[.val (.ref a), .val (.long e1_), .second, .val (.long n1_), .second, .val (.int fl)] [])) _
    have Fw13 := F_evaluations.same W13
    have Nf13 := Fr.snoc X13 Nc2 ga
    have sz13 : n0 ≤ h13.size := by rw [W13.size]; exact Z0
    refine OGo.step (fun _ kk => XS.aloadN X13.here hx rfl (hb hby own_d_prog_44_method_1_code_62) rfl rfl kk) ?_
    show OGo p e below (T13.setTop (mkF m 63 #[.val (.ref a), .val (.long e1_), .second, .val (.long n1_), .second, .val (.int fl)] [(.ref a)])) _
    refine OGo.step (fun _ kk => XS.lloadN X13.here hx rfl (hb hby own_d_prog_44_method_1_code_63) rfl kk) ?_
    show OGo p e below (T13.setTop (mkF m 64 #[.val (.ref a), .val (.long e1_), .second, .val (.long n1_), .second, .val (.int fl)] [(.long n1_), (.ref a)])) _
    have fc14 := (F_nanos.other W13 (Or.inr (slot_ne (Or.inr (hw _ (List.mem_of_getElem? (i := 19) rfl))) (Or.inr (hw _ (List.mem_of_getElem? (i := 17) rfl))) (by decide) (t := .long) (t' := .long) (by decide) (by decide))))
    have fc15 := (E1.wr W13)
    obtain ⟨T16, h16, X16, e16, W16, st16⟩ := putF X13 hx hZ hown (host := "") (Or.inl (hw _ (List.mem_of_getElem? (i := 18) rfl))) Via.refl e13 fc14 fc15 (Or.inr ⟨(hw _ (List.mem_of_getElem? (i := 19) rfl)), rfl, hnm⟩) (hw _ (List.mem_of_getElem? (i := 2) rfl)) (ty := .long) (by decide) rfl rfl (g := (mkF m 64 #[.val (.ref a), .val (.long e1_), .second, .val (.long n1_), .second, .val (.int fl)] [(.long n1_), (.ref a)])) rfl rfl (hb hby own_d_prog_44_method_1_code_64)
    refine OGo.step st16 ?_
    show OGo p e below (T16.setTop (mkF m 67 #[.val (.ref a), .val (.long e1_), .second, .val (.long n1_), .second, .val (.int fl)] [])) _
    have Fw16 := fc14.same W16
    have Nf16 := Fr.snoc X16 Nf13 ga
    have sz16 : n0 ≤ h16.size := by rw [W16.size]; exact sz13
    refine OGo.step (fun _ kk => XS.aloadN X16.here hx rfl (hb hby own_d_prog_44_method_1_code_67) rfl rfl kk) ?_
    show OGo p e below (T16.setTop (mkF m 68 #[.val (.ref a), .val (.long e1_), .second, .val (.long n1_), .second, .val (.int fl)] [(.ref a)])) _
    refine OGo.step (fun _ kk => XS.iload X16.here hx rfl (hb hby own_d_prog_44_method_1_code_68) rfl kk) ?_
    show OGo p e below (T16.setTop (mkF m 70 #[.val (.ref a), .val (.long e1_), .second, .val (.long n1_), .second, .val (.int fl)] [(.int fl), (.ref a)])) _
    have fc17 := ((F_stopWhenFeasible.other W13 (Or.inr (slot_ne (Or.inr (hw _ (List.mem_of_getElem? (i := 21) rfl))) (Or.inr (hw _ (List.mem_of_getElem? (i := 17) rfl))) (by decide) (t := .boolean) (t' := .long) (by decide) (by decide)))).other W16 (Or.inr (slot_ne (Or.inr (hw _ (List.mem_of_getElem? (i := 21) rfl))) (Or.inr (hw _ (List.mem_of_getElem? (i := 19) rfl))) (by decide) (t := .boolean) (t' := .long) (by decide) (by decide))))
    have fc18 := (fc15.wr W16)
    obtain ⟨T19, h19, X19, e19, W19, st19⟩ := putFN X16 hx hZ hown (hw _ (List.mem_of_getElem? (i := 20) rfl)) Via.refl e16 fc17 fc18 (Or.inr ⟨(hw _ (List.mem_of_getElem? (i := 21) rfl)), rfl, hnm⟩) (hw _ (List.mem_of_getElem? (i := 2) rfl)) (ty := .boolean) (v' := (.int (nar .boolean fl))) (by decide) rfl (fits_nar_bool fl) (g := (mkF m 70 #[.val (.ref a), .val (.long e1_), .second, .val (.long n1_), .second, .val (.int fl)] [(.int fl), (.ref a)])) rfl rfl (hb hby own_d_prog_44_method_1_code_70)
    refine OGo.step st19 ?_
    show OGo p e below (T19.setTop (mkF m 73 #[.val (.ref a), .val (.long e1_), .second, .val (.long n1_), .second, .val (.int fl)] [])) _
    have Fw19 := fc17.same W19
    have Nf19 := Fr.snoc X19 Nf16 ga
    have sz19 : n0 ≤ h19.size := by rw [W19.size]; exact sz16
    have fc20 := (fc18.wr W19)
    have fc21 := ((Fw13.other W16 (Or.inr (slot_ne (Or.inr (hw _ (List.mem_of_getElem? (i := 17) rfl))) (Or.inr (hw _ (List.mem_of_getElem? (i := 19) rfl))) (by decide) (t := .long) (t' := .long) (by decide) (by decide)))).other W19 (Or.inr (slot_ne (Or.inr (hw _ (List.mem_of_getElem? (i := 17) rfl))) (Or.inr (hw _ (List.mem_of_getElem? (i := 21) rfl))) (by decide) (t := .long) (t' := .boolean) (by decide) (by decide))))
    have fc22 := (Fw16.other W19 (Or.inr (slot_ne (Or.inr (hw _ (List.mem_of_getElem? (i := 19) rfl))) (Or.inr (hw _ (List.mem_of_getElem? (i := 21) rfl))) (by decide) (t := .long) (t' := .boolean) (by decide) (by decide))))
    have HK := ((((Keep.refl h0 [a]).wr W13 (Or.inl (List.mem_of_getElem? (i := 0) rfl))).wr W16 (Or.inl (List.mem_of_getElem? (i := 0) rfl))).wr W19 (Or.inl (List.mem_of_getElem? (i := 0) rfl)))
    exact own_ret0 X19 hx hlk hret (hb hby own_d_prog_44_method_1_code_73) (by rw [e19]; exact ⟨rfl, Nf19, HK, fc20, fc21, fc22⟩) (by decide) (by decide)

set_option maxRecDepth 65536 in
set_option maxHeartbeats 40000000 in
theorem own_has (l : Launch) (Z : State) (a0 : Array Value) (hw : ∀ d ∈ tables_1, d.before a0 Z = true) (ws : List Jvm.Cond) (a : Addr) (n1_ : Int64) (h0 : Heap) (n0 : Nat) (Z0 : n0 ≤ h0.size) (Fn : Fld Z h0 a "com/example/slotwise/slotwise/search/Budget" "nanos" "J" (.long n1_)) :
    OMet l Z (⟨"com/example/slotwise/slotwise/search/Budget", "hasTimeLimit", "()Z"⟩ : MethodName) prog_44_method_2_code 1 (some .boolean) ws ({ frames := 0, cells := 0, slots := 0, locals := 0 } : Room) #[(.ref a)] h0 (fun v h L => v = some (.int (if n1_ = (9223372036854775807 : Int64) then (0 : Int32) else 1)) ∧ Fr n0 L ∧ h = h0) := by
  refine OMet.body (plainFor_of_name own_pn1) ?_
  intro p e s m below meth c s₁ hx hby hml hown hnm hret hlk hZ X0 e0
  refine OGo.step (fun _ kk => castTop (show entryFrame m #[(.ref a)] 1 = (mkF m 0 #[.val (.ref a)] []) from by first | (simp [entryFrame, mkF, argsToLocals, Value.category]; done) | rfl) kk) ?_
  show OGo p e below (s₁.setTop (mkF m 0 #[.val (.ref a)] [])) _
  refine OGo.step (fun _ kk => XS.aloadN X0.here hx rfl (hb hby own_d_prog_44_method_2_code_0) rfl rfl kk) ?_
  show OGo p e below (s₁.setTop (mkF m 1 #[.val (.ref a)] [(.ref a)])) _
  obtain ⟨T23, X23, e23, st23⟩ := getF X0 hx hZ hown (host := "") (Or.inl (hw _ (List.mem_of_getElem? (i := 18) rfl))) Via.refl e0 Fn (g := (mkF m 1 #[.val (.ref a)] [(.ref a)])) rfl rfl (hb hby own_d_prog_44_method_2_code_1)
  refine OGo.step st23 ?_
  show OGo p e below (T23.setTop (mkF m 4 #[.val (.ref a)] [(.long n1_)])) _
  refine OGo.step (fun _ kk => X23.ldc2Long hx hown (mvT hZ (hw _ (List.mem_of_getElem? (i := 15) rfl))) (g := (mkF m 4 #[.val (.ref a)] [(.long n1_)])) rfl (hb hby own_d_prog_44_method_2_code_4) _ kk) ?_
  show OGo p e below (T23.setTop (mkF m 7 #[.val (.ref a)] [(.long (9223372036854775807 : Int64)), (.long n1_)])) _
  refine OGo.step (fun _ kk => XS.lcmp X23.here hx rfl (hb hby own_d_prog_44_method_2_code_7) rfl kk) ?_
  show OGo p e below (T23.setTop (mkF m 8 #[.val (.ref a)] [(.int (lcmpW n1_ (9223372036854775807 : Int64)))])) _
  by_cases hh : (lcmpW n1_ (9223372036854775807 : Int64)) = (0 : Int32)
  · refine OGo.step (fun _ kk => XS.ifYes X23.here hx rfl (pc0 := 8) (pc' := 15) rfl (hb hby own_d_prog_44_method_2_code_8) rfl ((if0 _ _).trans (teq hh).1) (by decide) (by decide) kk) ?_
    show OGo p e below (T23.setTop (mkF m 15 #[.val (.ref a)] [])) _
    refine OGo.step (fun _ kk => XS.iconst X23.here hx rfl (hb hby own_d_prog_44_method_2_code_15) kk) ?_
    show OGo p e below (T23.setTop (mkF m 16 #[.val (.ref a)] [(.int (0 : Int32))])) _
    exact own_retN X23 hx hlk hret (by simp) (hb hby own_d_prog_44_method_2_code_16) ⟨by rw [if_pos ((lw_eq _ _).mp hh), own_nar0], Fr.nil n0, e23⟩ (by decide) (by decide)
  · refine OGo.step (fun _ kk => XS.ifNo X23.here hx rfl (hb hby own_d_prog_44_method_2_code_8) rfl ((if0 _ _).trans (feq hh).1) kk) ?_
    show OGo p e below (T23.setTop (mkF m 11 #[.val (.ref a)] [])) _
    refine OGo.step (fun _ kk => XS.iconst X23.here hx rfl (hb hby own_d_prog_44_method_2_code_11) kk) ?_
    show OGo p e below (T23.setTop (mkF m 12 #[.val (.ref a)] [(.int (1 : Int32))])) _
    refine OGo.step (fun _ kk => XS.goto X23.here hx rfl (pc0 := 12) (pc' := 16) rfl (hb hby own_d_prog_44_method_2_code_12) (by decide) (by decide) kk) ?_
    show OGo p e below (T23.setTop (mkF m 16 #[.val (.ref a)] [(.int (1 : Int32))])) _
    exact own_retN X23 hx hlk hret (by simp) (hb hby own_d_prog_44_method_2_code_16) ⟨by rw [if_neg (fun z => hh ((lw_eq _ _).mpr z)), own_nar1], Fr.nil n0, e23⟩ (by decide) (by decide)

set_option maxRecDepth 65536 in
set_option maxHeartbeats 40000000 in
theorem own_used (l : Launch) (Z : State) (a0 : Array Value) (hw : ∀ d ∈ tables_1, d.before a0 Z = true) (ws : List Jvm.Cond) (a : Addr) (e1_ n1_ : Int64) (h0 : Heap) (n0 : Nat) (Z0 : n0 ≤ h0.size) (Fe : Fld Z h0 a "com/example/slotwise/slotwise/search/Budget" "evaluations" "J" (.long e1_)) (Fn : Fld Z h0 a "com/example/slotwise/slotwise/search/Budget" "nanos" "J" (.long n1_)) (he : ¬ e1_ < 1) (hn : ¬ n1_ < 1) :
    OMet l Z (⟨"com/example/slotwise/slotwise/search/Budget", "used", "(JJ)D"⟩ : MethodName) prog_44_method_4_code 9 (some .double) ws ({ frames := 1, cells := 0, slots := 0, locals := 19 } : Room) #[(.ref a), (.long (0 : Int64)), (.long (9223372036854775807 : Int64))] h0 (fun v h L => ∃ r : UInt64, v = some (.double r) ∧ Fr n0 L ∧ h = h0 ∧ (n1_ = (9223372036854775807 : Int64) → ¬ 0 < cmpValue (FP.dcmp r FP.dconst0) .l) ∧ (¬ n1_ = (9223372036854775807 : Int64) → 0 < cmpValue (FP.dcmp r FP.dconst0) .l)) := by
  refine OMet.body (plainFor_of_name own_pn1) ?_
  intro p e s m below meth c s₁ hx hby hml hown hnm hret hlk hZ X0 e0
  refine OGo.step (fun _ kk => castTop (show entryFrame m #[(.ref a), (.long (0 : Int64)), (.long (9223372036854775807 : Int64))] 9 = (mkF m 0 #[.val (.ref a), .val (.long (0 : Int64)), .second, .val (.long (9223372036854775807 : Int64)), .second, .unset, .unset, .unset, .unset] []) from by first | (simp [entryFrame, mkF, argsToLocals, Value.category]; done) | rfl) kk) ?_
  show OGo p e below (s₁.setTop (mkF m 0 #[.val (.ref a), .val (.long (0 : Int64)), .second, .val (.long (9223372036854775807 : Int64)), .second, .unset, .unset, .unset, .unset] [])) _
  refine OGo.step (fun _ kk => XS.aloadN X0.here hx rfl (hb hby own_d_prog_44_method_4_code_0) rfl rfl kk) ?_
  show OGo p e below (s₁.setTop (mkF m 1 #[.val (.ref a), .val (.long (0 : Int64)), .second, .val (.long (9223372036854775807 : Int64)), .second, .unset, .unset, .unset, .unset] [(.ref a)])) _
  obtain ⟨T24, X24, e24, st24⟩ := getF X0 hx hZ hown (host := "") (Or.inl (hw _ (List.mem_of_getElem? (i := 16) rfl))) Via.refl e0 Fe (g := (mkF m 1 #[.val (.ref a), .val (.long (0 : Int64)), .second, .val (.long (9223372036854775807 : Int64)), .second, .unset, .unset, .unset, .unset] [(.ref a)])) rfl rfl (hb hby own_d_prog_44_method_4_code_1)
  refine OGo.step st24 ?_
  show OGo p e below (T24.setTop (mkF m 4 #[.val (.ref a), .val (.long (0 : Int64)), .second, .val (.long (9223372036854775807 : Int64)), .second, .unset, .unset, .unset, .unset] [(.long e1_)])) _
  refine OGo.step (fun _ kk => X24.ldc2Long hx hown (mvT hZ (hw _ (List.mem_of_getElem? (i := 15) rfl))) (g := (mkF m 4 #[.val (.ref a), .val (.long (0 : Int64)), .second, .val (.long (9223372036854775807 : Int64)), .second, .unset, .unset, .unset, .unset] [(.long e1_)])) rfl (hb hby own_d_prog_44_method_4_code_4) _ kk) ?_
  show OGo p e below (T24.setTop (mkF m 7 #[.val (.ref a), .val (.long (0 : Int64)), .second, .val (.long (9223372036854775807 : Int64)), .second, .unset, .unset, .unset, .unset] [(.long (9223372036854775807 : Int64)), (.long e1_)])) _
  refine OGo.step (fun _ kk => XS.lcmp X24.here hx rfl (hb hby own_d_prog_44_method_4_code_7) rfl kk) ?_
  show OGo p e below (T24.setTop (mkF m 8 #[.val (.ref a), .val (.long (0 : Int64)), .second, .val (.long (9223372036854775807 : Int64)), .second, .unset, .unset, .unset, .unset] [(.int (lcmpW e1_ (9223372036854775807 : Int64)))])) _
  have K23 : ∀ (T : State), Stand p l e ({ frames := 1, cells := 0, slots := 0, locals := 19 } : Room) s m #[.ref a, .long (0 : Int64), .long (9223372036854775807 : Int64)] below meth c T [] 0 0 → T.heap = h0 → OGo p e below (T.setTop (mkF m 23 #[.val (.ref a), .val (.long (0 : Int64)), .second, .val (.long (9223372036854775807 : Int64)), .second, .unset, .unset, .unset, .unset] [(.double FP.dconst0)])) (OEnd s (fun v h L => ∃ r : UInt64, v = some (.double r) ∧ Fr n0 L ∧ h = h0 ∧ (n1_ = (9223372036854775807 : Int64) → ¬ 0 < cmpValue (FP.dcmp r FP.dconst0) .l) ∧ (¬ n1_ = (9223372036854775807 : Int64) → 0 < cmpValue (FP.dcmp r FP.dconst0) .l)) ({ frames := 1, cells := 0, slots := 0, locals := 19 } : Room).cells ({ frames := 1, cells := 0, slots := 0, locals := 19 } : Room).slots) := by
    intro T XT eT
    show OGo p e below (T.setTop (mkF m 23 #[.val (.ref a), .val (.long (0 : Int64)), .second, .val (.long (9223372036854775807 : Int64)), .second, .unset, .unset, .unset, .unset] [(.double FP.dconst0)])) _
    refine OGo.step (fun _ kk => XS.dstore XT.here hx rfl (hb hby own_d_prog_44_method_4_code_23) rfl (l' := #[.val (.ref a), .val (.long (0 : Int64)), .second, .val (.long (9223372036854775807 : Int64)), .second, .val (.double FP.dconst0), .second, .unset, .unset]) rfl kk) ?_
    show OGo p e below (T.setTop (mkF m 25 #[.val (.ref a), .val (.long (0 : Int64)), .second, .val (.long (9223372036854775807 : Int64)), .second, .val (.double FP.dconst0), .second, .unset, .unset] [])) _
    refine OGo.step (fun _ kk => XS.aloadN XT.here hx rfl (hb hby own_d_prog_44_method_4_code_25) rfl rfl kk) ?_
    show OGo p e below (T.setTop (mkF m 26 #[.val (.ref a), .val (.long (0 : Int64)), .second, .val (.long (9223372036854775807 : Int64)), .second, .val (.double FP.dconst0), .second, .unset, .unset] [(.ref a)])) _
    obtain ⟨T25, X25, e25, st25⟩ := getF XT hx hZ hown (host := "") (Or.inl (hw _ (List.mem_of_getElem? (i := 18) rfl))) Via.refl eT Fn (g := (mkF m 26 #[.val (.ref a), .val (.long (0 : Int64)), .second, .val (.long (9223372036854775807 : Int64)), .second, .val (.double FP.dconst0), .second, .unset, .unset] [(.ref a)])) rfl rfl (hb hby own_d_prog_44_method_4_code_26)
    refine OGo.step st25 ?_
    show OGo p e below (T25.setTop (mkF m 29 #[.val (.ref a), .val (.long (0 : Int64)), .second, .val (.long (9223372036854775807 : Int64)), .second, .val (.double FP.dconst0), .second, .unset, .unset] [(.long n1_)])) _
    refine OGo.step (fun _ kk => X25.ldc2Long hx hown (mvT hZ (hw _ (List.mem_of_getElem? (i := 15) rfl))) (g := (mkF m 29 #[.val (.ref a), .val (.long (0 : Int64)), .second, .val (.long (9223372036854775807 : Int64)), .second, .val (.double FP.dconst0), .second, .unset, .unset] [(.long n1_)])) rfl (hb hby own_d_prog_44_method_4_code_29) _ kk) ?_
    show OGo p e below (T25.setTop (mkF m 32 #[.val (.ref a), .val (.long (0 : Int64)), .second, .val (.long (9223372036854775807 : Int64)), .second, .val (.double FP.dconst0), .second, .unset, .unset] [(.long (9223372036854775807 : Int64)), (.long n1_)])) _
    refine OGo.step (fun _ kk => XS.lcmp X25.here hx rfl (hb hby own_d_prog_44_method_4_code_32) rfl kk) ?_
    show OGo p e below (T25.setTop (mkF m 33 #[.val (.ref a), .val (.long (0 : Int64)), .second, .val (.long (9223372036854775807 : Int64)), .second, .val (.double FP.dconst0), .second, .unset, .unset] [(.int (lcmpW n1_ (9223372036854775807 : Int64)))])) _
    by_cases hk : (lcmpW n1_ (9223372036854775807 : Int64)) = (0 : Int32)
    · refine OGo.step (fun _ kk => XS.ifNo X25.here hx rfl (hb hby own_d_prog_44_method_4_code_33) rfl ((if0 _ _).trans (teq hk).2) kk) ?_
      show OGo p e below (T25.setTop (mkF m 36 #[.val (.ref a), .val (.long (0 : Int64)), .second, .val (.long (9223372036854775807 : Int64)), .second, .val (.double FP.dconst0), .second, .unset, .unset] [])) _
      refine OGo.step (fun _ kk => XS.dconst0 X25.here hx rfl (hb hby own_d_prog_44_method_4_code_36) rfl kk) ?_
      show OGo p e below (T25.setTop (mkF m 37 #[.val (.ref a), .val (.long (0 : Int64)), .second, .val (.long (9223372036854775807 : Int64)), .second, .val (.double FP.dconst0), .second, .unset, .unset] [(.double FP.dconst0)])) _
      refine OGo.step (fun _ kk => XS.goto X25.here hx rfl (pc0 := 37) (pc' := 48) rfl (hb hby own_d_prog_44_method_4_code_37) (by decide) (by decide) kk) ?_
      show OGo p e below (T25.setTop (mkF m 48 #[.val (.ref a), .val (.long (0 : Int64)), .second, .val (.long (9223372036854775807 : Int64)), .second, .val (.double FP.dconst0), .second, .unset, .unset] [(.double FP.dconst0)])) _
      refine OGo.step (fun _ kk => XS.dstore X25.here hx rfl (hb hby own_d_prog_44_method_4_code_48) rfl (l' := #[.val (.ref a), .val (.long (0 : Int64)), .second, .val (.long (9223372036854775807 : Int64)), .second, .val (.double FP.dconst0), .second, .val (.double FP.dconst0), .second]) rfl kk) ?_
      show OGo p e below (T25.setTop (mkF m 50 #[.val (.ref a), .val (.long (0 : Int64)), .second, .val (.long (9223372036854775807 : Int64)), .second, .val (.double FP.dconst0), .second, .val (.double FP.dconst0), .second] [])) _
      refine OGo.step (fun _ kk => XS.dconst1 X25.here hx rfl (hb hby own_d_prog_44_method_4_code_50) rfl kk) ?_
      show OGo p e below (T25.setTop (mkF m 51 #[.val (.ref a), .val (.long (0 : Int64)), .second, .val (.long (9223372036854775807 : Int64)), .second, .val (.double FP.dconst0), .second, .val (.double FP.dconst0), .second] [(.double FP.dconst1)])) _
      refine OGo.step (fun _ kk => XS.dload X25.here hx rfl (hb hby own_d_prog_44_method_4_code_51) rfl kk) ?_
      show OGo p e below (T25.setTop (mkF m 53 #[.val (.ref a), .val (.long (0 : Int64)), .second, .val (.long (9223372036854775807 : Int64)), .second, .val (.double FP.dconst0), .second, .val (.double FP.dconst0), .second] [(.double FP.dconst0), (.double FP.dconst1)])) _
      refine OGo.step (fun _ kk => XS.dload X25.here hx rfl (hb hby own_d_prog_44_method_4_code_53) rfl kk) ?_
      show OGo p e below (T25.setTop (mkF m 55 #[.val (.ref a), .val (.long (0 : Int64)), .second, .val (.long (9223372036854775807 : Int64)), .second, .val (.double FP.dconst0), .second, .val (.double FP.dconst0), .second] [(.double FP.dconst0), (.double FP.dconst0), (.double FP.dconst1)])) _
      refine own_callSK X25 hx hZ (y := (⟨"java/lang/Math", "max", "(DD)D"⟩ : MethodName)) hown (hw _ (List.mem_of_getElem? (i := 32) rfl)) (hw _ (List.mem_of_getElem? (i := 33) rfl)) (hw _ (List.mem_of_getElem? (i := 34) rfl)) (hw _ (List.mem_of_getElem? (i := 35) rfl)) (by decide) (W := 2) (own_maxB (W := 2) hZ (hw _ (List.mem_of_getElem? (i := 35) rfl)) (by decide) (by decide) own_zero own_zero) e25 (pc := 55) (Ls := #[.val (.ref a), .val (.long (0 : Int64)), .second, .val (.long (9223372036854775807 : Int64)), .second, .val (.double FP.dconst0), .second, .val (.double FP.dconst0), .second]) (argsL := [(.double FP.dconst0), (.double FP.dconst0)]) (rest := [(.double FP.dconst1)]) (by rw [hml]; rfl) (lenOf own_pd1 rfl) rfl (hb hby own_d_prog_44_method_4_code_55) (by decide) (by decide) ?_
      intro v26 T26 L26 X26 hQ26
      obtain ⟨rfl, l26, e26⟩ := hQ26
      show OGo p e below (T26.setTop (mkF m 58 #[.val (.ref a), .val (.long (0 : Int64)), .second, .val (.long (9223372036854775807 : Int64)), .second, .val (.double FP.dconst0), .second, .val (.double FP.dconst0), .second] [(.double (pick64 true FP.dconst0 FP.dconst0)), (.double FP.dconst1)])) _
      subst l26
      refine own_callSK X26 hx hZ (y := (⟨"java/lang/Math", "min", "(DD)D"⟩ : MethodName)) hown (hw _ (List.mem_of_getElem? (i := 36) rfl)) (hw _ (List.mem_of_getElem? (i := 37) rfl)) (hw _ (List.mem_of_getElem? (i := 34) rfl)) (hw _ (List.mem_of_getElem? (i := 38) rfl)) (by decide) (W := 0) (own_minB (W := 0) hZ (hw _ (List.mem_of_getElem? (i := 38) rfl)) (by decide) (by decide) own_one (pick64_noNaN own_zero own_zero)) e26 (pc := 58) (Ls := #[.val (.ref a), .val (.long (0 : Int64)), .second, .val (.long (9223372036854775807 : Int64)), .second, .val (.double FP.dconst0), .second, .val (.double FP.dconst0), .second]) (argsL := [(.double FP.dconst1), (.double (pick64 true FP.dconst0 FP.dconst0))]) (rest := []) (by rw [hml]; rfl) (lenOf own_pd1 rfl) rfl (hb hby own_d_prog_44_method_4_code_58) (by decide) (by decide) ?_
      intro v27 T27 L27 X27 hQ27
      obtain ⟨rfl, l27, e27⟩ := hQ27
      show OGo p e below (T27.setTop (mkF m 61 #[.val (.ref a), .val (.long (0 : Int64)), .second, .val (.long (9223372036854775807 : Int64)), .second, .val (.double FP.dconst0), .second, .val (.double FP.dconst0), .second] [(.double (pick64 false FP.dconst1 (pick64 true FP.dconst0 FP.dconst0)))])) _
      subst l27
      exact own_ret X27 hx hlk hret rfl (Or.inr (Or.inr (Or.inl ⟨rfl, rfl, _, rfl⟩))) (hb hby own_d_prog_44_method_4_code_61) ⟨_, rfl, Fr.nil n0, e27, fun _ => own_zz, fun z => absurd ((lw_eq _ _).mp hk) z⟩ (by decide) (by decide)
    · refine OGo.step (fun _ kk => XS.ifYes X25.here hx rfl (pc0 := 33) (pc' := 40) rfl (hb hby own_d_prog_44_method_4_code_33) rfl ((if0 _ _).trans (feq hk).2) (by decide) (by decide) kk) ?_
      show OGo p e below (T25.setTop (mkF m 40 #[.val (.ref a), .val (.long (0 : Int64)), .second, .val (.long (9223372036854775807 : Int64)), .second, .val (.double FP.dconst0), .second, .unset, .unset] [])) _
      refine OGo.step (fun _ kk => XS.lloadN X25.here hx rfl (hb hby own_d_prog_44_method_4_code_40) rfl kk) ?_
      show OGo p e below (T25.setTop (mkF m 41 #[.val (.ref a), .val (.long (0 : Int64)), .second, .val (.long (9223372036854775807 : Int64)), .second, .val (.double FP.dconst0), .second, .unset, .unset] [(.long (9223372036854775807 : Int64))])) _
      refine OGo.step (fun _ kk => XS.l2dS X25.here hx rfl (hb hby own_d_prog_44_method_4_code_41) rfl rfl kk) ?_
      show OGo p e below (T25.setTop (mkF m 42 #[.val (.ref a), .val (.long (0 : Int64)), .second, .val (.long (9223372036854775807 : Int64)), .second, .val (.double FP.dconst0), .second, .unset, .unset] [(.double (FP.l2d (9223372036854775807 : Int64)))])) _
      refine OGo.step (fun _ kk => XS.aloadN X25.here hx rfl (hb hby own_d_prog_44_method_4_code_42) rfl rfl kk) ?_
      show OGo p e below (T25.setTop (mkF m 43 #[.val (.ref a), .val (.long (0 : Int64)), .second, .val (.long (9223372036854775807 : Int64)), .second, .val (.double FP.dconst0), .second, .unset, .unset] [(.ref a), (.double (FP.l2d (9223372036854775807 : Int64)))])) _
      obtain ⟨T28, X28, e28, st28⟩ := getF X25 hx hZ hown (host := "") (Or.inl (hw _ (List.mem_of_getElem? (i := 18) rfl))) Via.refl e25 Fn (g := (mkF m 43 #[.val (.ref a), .val (.long (0 : Int64)), .second, .val (.long (9223372036854775807 : Int64)), .second, .val (.double FP.dconst0), .second, .unset, .unset] [(.ref a), (.double (FP.l2d (9223372036854775807 : Int64)))])) rfl rfl (hb hby own_d_prog_44_method_4_code_43)
      refine OGo.step st28 ?_
      show OGo p e below (T28.setTop (mkF m 46 #[.val (.ref a), .val (.long (0 : Int64)), .second, .val (.long (9223372036854775807 : Int64)), .second, .val (.double FP.dconst0), .second, .unset, .unset] [(.long n1_), (.double (FP.l2d (9223372036854775807 : Int64)))])) _
      refine OGo.step (fun _ kk => XS.l2dS X28.here hx rfl (hb hby own_d_prog_44_method_4_code_46) rfl rfl kk) ?_
      show OGo p e below (T28.setTop (mkF m 47 #[.val (.ref a), .val (.long (0 : Int64)), .second, .val (.long (9223372036854775807 : Int64)), .second, .val (.double FP.dconst0), .second, .unset, .unset] [(.double (FP.l2d n1_)), (.double (FP.l2d (9223372036854775807 : Int64)))])) _
      have hp := own_pos (own_ge hn)
      refine OGo.step (fun _ kk => XS.ddivS X28.here hx rfl (hb hby own_d_prog_44_method_4_code_47) rfl (own_nn hp.1) rfl kk) ?_
      show OGo p e below (T28.setTop (mkF m 48 #[.val (.ref a), .val (.long (0 : Int64)), .second, .val (.long (9223372036854775807 : Int64)), .second, .val (.double FP.dconst0), .second, .unset, .unset] [(.double (FP.ddiv (FP.l2d (9223372036854775807 : Int64)) (FP.l2d n1_)))])) _
      refine OGo.step (fun _ kk => XS.dstore X28.here hx rfl (hb hby own_d_prog_44_method_4_code_48) rfl (l' := #[.val (.ref a), .val (.long (0 : Int64)), .second, .val (.long (9223372036854775807 : Int64)), .second, .val (.double FP.dconst0), .second, .val (.double (FP.ddiv (FP.l2d (9223372036854775807 : Int64)) (FP.l2d n1_))), .second]) rfl kk) ?_
      show OGo p e below (T28.setTop (mkF m 50 #[.val (.ref a), .val (.long (0 : Int64)), .second, .val (.long (9223372036854775807 : Int64)), .second, .val (.double FP.dconst0), .second, .val (.double (FP.ddiv (FP.l2d (9223372036854775807 : Int64)) (FP.l2d n1_))), .second] [])) _
      refine OGo.step (fun _ kk => XS.dconst1 X28.here hx rfl (hb hby own_d_prog_44_method_4_code_50) rfl kk) ?_
      show OGo p e below (T28.setTop (mkF m 51 #[.val (.ref a), .val (.long (0 : Int64)), .second, .val (.long (9223372036854775807 : Int64)), .second, .val (.double FP.dconst0), .second, .val (.double (FP.ddiv (FP.l2d (9223372036854775807 : Int64)) (FP.l2d n1_))), .second] [(.double FP.dconst1)])) _
      refine OGo.step (fun _ kk => XS.dload X28.here hx rfl (hb hby own_d_prog_44_method_4_code_51) rfl kk) ?_
      show OGo p e below (T28.setTop (mkF m 53 #[.val (.ref a), .val (.long (0 : Int64)), .second, .val (.long (9223372036854775807 : Int64)), .second, .val (.double FP.dconst0), .second, .val (.double (FP.ddiv (FP.l2d (9223372036854775807 : Int64)) (FP.l2d n1_))), .second] [(.double FP.dconst0), (.double FP.dconst1)])) _
      refine OGo.step (fun _ kk => XS.dload X28.here hx rfl (hb hby own_d_prog_44_method_4_code_53) rfl kk) ?_
      show OGo p e below (T28.setTop (mkF m 55 #[.val (.ref a), .val (.long (0 : Int64)), .second, .val (.long (9223372036854775807 : Int64)), .second, .val (.double FP.dconst0), .second, .val (.double (FP.ddiv (FP.l2d (9223372036854775807 : Int64)) (FP.l2d n1_))), .second] [(.double (FP.ddiv (FP.l2d (9223372036854775807 : Int64)) (FP.l2d n1_))), (.double FP.dconst0), (.double FP.dconst1)])) _
      refine own_callSK X28 hx hZ (y := (⟨"java/lang/Math", "max", "(DD)D"⟩ : MethodName)) hown (hw _ (List.mem_of_getElem? (i := 32) rfl)) (hw _ (List.mem_of_getElem? (i := 33) rfl)) (hw _ (List.mem_of_getElem? (i := 34) rfl)) (hw _ (List.mem_of_getElem? (i := 35) rfl)) (by decide) (W := 2) (own_maxB (W := 2) hZ (hw _ (List.mem_of_getElem? (i := 35) rfl)) (by decide) (by decide) own_zero (own_nn hp.1)) e28 (pc := 55) (Ls := #[.val (.ref a), .val (.long (0 : Int64)), .second, .val (.long (9223372036854775807 : Int64)), .second, .val (.double FP.dconst0), .second, .val (.double (FP.ddiv (FP.l2d (9223372036854775807 : Int64)) (FP.l2d n1_))), .second]) (argsL := [(.double FP.dconst0), (.double (FP.ddiv (FP.l2d (9223372036854775807 : Int64)) (FP.l2d n1_)))]) (rest := [(.double FP.dconst1)]) (by rw [hml]; rfl) (lenOf own_pd1 rfl) rfl (hb hby own_d_prog_44_method_4_code_55) (by decide) (by decide) ?_
      intro v29 T29 L29 X29 hQ29
      obtain ⟨rfl, l29, e29⟩ := hQ29
      show OGo p e below (T29.setTop (mkF m 58 #[.val (.ref a), .val (.long (0 : Int64)), .second, .val (.long (9223372036854775807 : Int64)), .second, .val (.double FP.dconst0), .second, .val (.double (FP.ddiv (FP.l2d (9223372036854775807 : Int64)) (FP.l2d n1_))), .second] [(.double (pick64 true FP.dconst0 (FP.ddiv (FP.l2d (9223372036854775807 : Int64)) (FP.l2d n1_)))), (.double FP.dconst1)])) _
      subst l29
      refine own_callSK X29 hx hZ (y := (⟨"java/lang/Math", "min", "(DD)D"⟩ : MethodName)) hown (hw _ (List.mem_of_getElem? (i := 36) rfl)) (hw _ (List.mem_of_getElem? (i := 37) rfl)) (hw _ (List.mem_of_getElem? (i := 34) rfl)) (hw _ (List.mem_of_getElem? (i := 38) rfl)) (by decide) (W := 0) (own_minB (W := 0) hZ (hw _ (List.mem_of_getElem? (i := 38) rfl)) (by decide) (by decide) own_one (pick64_noNaN own_zero (own_nn hp.1))) e29 (pc := 58) (Ls := #[.val (.ref a), .val (.long (0 : Int64)), .second, .val (.long (9223372036854775807 : Int64)), .second, .val (.double FP.dconst0), .second, .val (.double (FP.ddiv (FP.l2d (9223372036854775807 : Int64)) (FP.l2d n1_))), .second]) (argsL := [(.double FP.dconst1), (.double (pick64 true FP.dconst0 (FP.ddiv (FP.l2d (9223372036854775807 : Int64)) (FP.l2d n1_))))]) (rest := []) (by rw [hml]; rfl) (lenOf own_pd1 rfl) rfl (hb hby own_d_prog_44_method_4_code_58) (by decide) (by decide) ?_
      intro v30 T30 L30 X30 hQ30
      obtain ⟨rfl, l30, e30⟩ := hQ30
      show OGo p e below (T30.setTop (mkF m 61 #[.val (.ref a), .val (.long (0 : Int64)), .second, .val (.long (9223372036854775807 : Int64)), .second, .val (.double FP.dconst0), .second, .val (.double (FP.ddiv (FP.l2d (9223372036854775807 : Int64)) (FP.l2d n1_))), .second] [(.double (pick64 false FP.dconst1 (pick64 true FP.dconst0 (FP.ddiv (FP.l2d (9223372036854775807 : Int64)) (FP.l2d n1_)))))])) _
      subst l30
      exact own_ret X30 hx hlk hret rfl (Or.inr (Or.inr (Or.inl ⟨rfl, rfl, _, rfl⟩))) (hb hby own_d_prog_44_method_4_code_61) ⟨_, rfl, Fr.nil n0, e30, fun z => absurd ((lw_eq _ _).mpr z) hk, fun _ => by rw [(own_pz hp.1 hp.2).1]; exact (own_pz hp.1 hp.2).2⟩ (by decide) (by decide)
  by_cases hh : (lcmpW e1_ (9223372036854775807 : Int64)) = (0 : Int32)
  · refine OGo.step (fun _ kk => XS.ifNo X24.here hx rfl (hb hby own_d_prog_44_method_4_code_8) rfl ((if0 _ _).trans (teq hh).2) kk) ?_
    show OGo p e below (T24.setTop (mkF m 11 #[.val (.ref a), .val (.long (0 : Int64)), .second, .val (.long (9223372036854775807 : Int64)), .second, .unset, .unset, .unset, .unset] [])) _
    refine OGo.step (fun _ kk => XS.dconst0 X24.here hx rfl (hb hby own_d_prog_44_method_4_code_11) rfl kk) ?_
    show OGo p e below (T24.setTop (mkF m 12 #[.val (.ref a), .val (.long (0 : Int64)), .second, .val (.long (9223372036854775807 : Int64)), .second, .unset, .unset, .unset, .unset] [(.double FP.dconst0)])) _
    refine OGo.step (fun _ kk => XS.goto X24.here hx rfl (pc0 := 12) (pc' := 23) rfl (hb hby own_d_prog_44_method_4_code_12) (by decide) (by decide) kk) ?_
    show OGo p e below (T24.setTop (mkF m 23 #[.val (.ref a), .val (.long (0 : Int64)), .second, .val (.long (9223372036854775807 : Int64)), .second, .unset, .unset, .unset, .unset] [(.double FP.dconst0)])) _
    exact K23 _ X24 e24
  · refine OGo.step (fun _ kk => XS.ifYes X24.here hx rfl (pc0 := 8) (pc' := 15) rfl (hb hby own_d_prog_44_method_4_code_8) rfl ((if0 _ _).trans (feq hh).2) (by decide) (by decide) kk) ?_
    show OGo p e below (T24.setTop (mkF m 15 #[.val (.ref a), .val (.long (0 : Int64)), .second, .val (.long (9223372036854775807 : Int64)), .second, .unset, .unset, .unset, .unset] [])) _
    refine OGo.step (fun _ kk => XS.lloadN X24.here hx rfl (hb hby own_d_prog_44_method_4_code_15) rfl kk) ?_
    show OGo p e below (T24.setTop (mkF m 16 #[.val (.ref a), .val (.long (0 : Int64)), .second, .val (.long (9223372036854775807 : Int64)), .second, .unset, .unset, .unset, .unset] [(.long (0 : Int64))])) _
    refine OGo.step (fun _ kk => XS.l2dS X24.here hx rfl (hb hby own_d_prog_44_method_4_code_16) rfl rfl kk) ?_
    show OGo p e below (T24.setTop (mkF m 17 #[.val (.ref a), .val (.long (0 : Int64)), .second, .val (.long (9223372036854775807 : Int64)), .second, .unset, .unset, .unset, .unset] [(.double (FP.l2d (0 : Int64)))])) _
    refine OGo.step (fun _ kk => XS.aloadN X24.here hx rfl (hb hby own_d_prog_44_method_4_code_17) rfl rfl kk) ?_
    show OGo p e below (T24.setTop (mkF m 18 #[.val (.ref a), .val (.long (0 : Int64)), .second, .val (.long (9223372036854775807 : Int64)), .second, .unset, .unset, .unset, .unset] [(.ref a), (.double (FP.l2d (0 : Int64)))])) _
    obtain ⟨T31, X31, e31, st31⟩ := getF X24 hx hZ hown (host := "") (Or.inl (hw _ (List.mem_of_getElem? (i := 16) rfl))) Via.refl e24 Fe (g := (mkF m 18 #[.val (.ref a), .val (.long (0 : Int64)), .second, .val (.long (9223372036854775807 : Int64)), .second, .unset, .unset, .unset, .unset] [(.ref a), (.double (FP.l2d (0 : Int64)))])) rfl rfl (hb hby own_d_prog_44_method_4_code_18)
    refine OGo.step st31 ?_
    show OGo p e below (T31.setTop (mkF m 21 #[.val (.ref a), .val (.long (0 : Int64)), .second, .val (.long (9223372036854775807 : Int64)), .second, .unset, .unset, .unset, .unset] [(.long e1_), (.double (FP.l2d (0 : Int64)))])) _
    refine OGo.step (fun _ kk => XS.l2dS X31.here hx rfl (hb hby own_d_prog_44_method_4_code_21) rfl rfl kk) ?_
    show OGo p e below (T31.setTop (mkF m 22 #[.val (.ref a), .val (.long (0 : Int64)), .second, .val (.long (9223372036854775807 : Int64)), .second, .unset, .unset, .unset, .unset] [(.double (FP.l2d e1_)), (.double (FP.l2d (0 : Int64)))])) _
    refine OGo.step (fun _ kk => XS.ddivS X31.here hx rfl (hb hby own_d_prog_44_method_4_code_22) rfl (by rw [own_zdiv (own_ge he)]; exact own_zero) (own_zdiv (own_ge he)) kk) ?_
    show OGo p e below (T31.setTop (mkF m 23 #[.val (.ref a), .val (.long (0 : Int64)), .second, .val (.long (9223372036854775807 : Int64)), .second, .unset, .unset, .unset, .unset] [(.double FP.dconst0)])) _
    exact K23 _ X31 e31

set_option maxRecDepth 65536 in
set_option maxHeartbeats 40000000 in
theorem own_rm0 (l : Launch) (Z : State) (a0 : Array Value) (hw : ∀ d ∈ tables_1, d.before a0 Z = true) (ws : List Jvm.Cond) (q1 q2 : Int64) (p1 : Int32) (h0 : Heap) (n0 : Nat) (Z0 : n0 ≤ h0.size)  :
    OMet l Z x code maxLocals ret ws room_1 #[(.long q1), (.long q2), (.int p1)] h0 (fun v h L => v = some (.int (1 : Int32)) ∧ Fr n0 L) := by
  refine OMet.body (plainFor_of_name own_pn2) ?_
  intro p e s m below meth c s₁ hx hby hml hown hnm hret hlk hZ X0 e0
  have hml : c.maxLocals = 13 := hml
  refine OGo.step (fun _ kk => castTop (show entryFrame m #[(.long q1), (.long q2), (.int p1)] maxLocals = (mkF m 0 #[.val (.long q1), .second, .val (.long q2), .second, .val (.int p1), .unset, .unset, .unset, .unset, .unset, .unset, .unset, .unset] []) from by first | (simp [entryFrame, mkF, argsToLocals, Value.category, maxLocals]; done) | rfl) kk) ?_
  show OGo p e below (s₁.setTop (mkF m 0 #[.val (.long q1), .second, .val (.long q2), .second, .val (.int p1), .unset, .unset, .unset, .unset, .unset, .unset, .unset, .unset] [])) _
  refine OGo.step (fun _ kk => XS.lloadN X0.here hx rfl (hb hby at_0) rfl kk) ?_
  show OGo p e below (s₁.setTop (mkF m 1 #[.val (.long q1), .second, .val (.long q2), .second, .val (.int p1), .unset, .unset, .unset, .unset, .unset, .unset, .unset, .unset] [(.long q1)])) _
  refine OGo.step (fun _ kk => X0.ldc2Long hx hown (mvT hZ (hw _ (List.mem_of_getElem? (i := 0) rfl))) (g := (mkF m 1 #[.val (.long q1), .second, .val (.long q2), .second, .val (.int p1), .unset, .unset, .unset, .unset, .unset, .unset, .unset, .unset] [(.long q1)])) rfl (hb hby at_1) _ kk) ?_
  show OGo p e below (s₁.setTop (mkF m 4 #[.val (.long q1), .second, .val (.long q2), .second, .val (.int p1), .unset, .unset, .unset, .unset, .unset, .unset, .unset, .unset] [(.long (9223372036854775807 : Int64)), (.long q1)])) _
  refine OGo.step (fun _ kk => XS.land X0.here hx rfl (hb hby at_4) rfl kk) ?_
  show OGo p e below (s₁.setTop (mkF m 5 #[.val (.long q1), .second, .val (.long q2), .second, .val (.int p1), .unset, .unset, .unset, .unset, .unset, .unset, .unset, .unset] [(.long (q1 &&& (9223372036854775807 : Int64)))])) _
  refine OGo.step (fun _ kk => XS.lstore X0.here hx rfl (hb hby at_5) rfl (l' := #[.val (.long q1), .second, .val (.long q2), .second, .val (.int p1), .val (.long (q1 &&& (9223372036854775807 : Int64))), .second, .unset, .unset, .unset, .unset, .unset, .unset]) rfl kk) ?_
  show OGo p e below (s₁.setTop (mkF m 7 #[.val (.long q1), .second, .val (.long q2), .second, .val (.int p1), .val (.long (q1 &&& (9223372036854775807 : Int64))), .second, .unset, .unset, .unset, .unset, .unset, .unset] [])) _
  refine OGo.step (fun _ kk => XS.lload X0.here hx rfl (hb hby at_7) rfl kk) ?_
  show OGo p e below (s₁.setTop (mkF m 9 #[.val (.long q1), .second, .val (.long q2), .second, .val (.int p1), .val (.long (q1 &&& (9223372036854775807 : Int64))), .second, .unset, .unset, .unset, .unset, .unset, .unset] [(.long (q1 &&& (9223372036854775807 : Int64)))])) _
  refine OGo.step (fun _ kk => XS.lconst X0.here hx rfl (hb hby at_9) kk) ?_
  show OGo p e below (s₁.setTop (mkF m 10 #[.val (.long q1), .second, .val (.long q2), .second, .val (.int p1), .val (.long (q1 &&& (9223372036854775807 : Int64))), .second, .unset, .unset, .unset, .unset, .unset, .unset] [(.long (0 : Int64)), (.long (q1 &&& (9223372036854775807 : Int64)))])) _
  refine OGo.step (fun _ kk => XS.lcmp X0.here hx rfl (hb hby at_10) rfl kk) ?_
  show OGo p e below (s₁.setTop (mkF m 11 #[.val (.long q1), .second, .val (.long q2), .second, .val (.int p1), .val (.long (q1 &&& (9223372036854775807 : Int64))), .second, .unset, .unset, .unset, .unset, .unset, .unset] [(.int (lcmpW (q1 &&& (9223372036854775807 : Int64)) (0 : Int64)))])) _
  have K17 : ∀ e1_ : Int64, ¬ e1_ < 1 → OGo p e below (s₁.setTop (mkF m 17 #[.val (.long q1), .second, .val (.long q2), .second, .val (.int p1), .val (.long e1_), .second, .unset, .unset, .unset, .unset, .unset, .unset] [])) (OEnd s (fun v h L => v = some (.int (1 : Int32)) ∧ Fr n0 L) room_1.cells room_1.slots) := by
    intro e1_ he
    show OGo p e below (s₁.setTop (mkF m 17 #[.val (.long q1), .second, .val (.long q2), .second, .val (.int p1), .val (.long e1_), .second, .unset, .unset, .unset, .unset, .unset, .unset] [])) _
    refine OGo.step (fun _ kk => XS.iload X0.here hx rfl (hb hby at_17) rfl kk) ?_
    show OGo p e below (s₁.setTop (mkF m 19 #[.val (.long q1), .second, .val (.long q2), .second, .val (.int p1), .val (.long e1_), .second, .unset, .unset, .unset, .unset, .unset, .unset] [(.int p1)])) _
    refine OGo.step (fun _ kk => XS.iconst X0.here hx rfl (hb hby at_19) kk) ?_
    show OGo p e below (s₁.setTop (mkF m 20 #[.val (.long q1), .second, .val (.long q2), .second, .val (.int p1), .val (.long e1_), .second, .unset, .unset, .unset, .unset, .unset, .unset] [(.int (2 : Int32)), (.int p1)])) _
    refine OGo.step (fun _ kk => XS.iand X0.here hx rfl (hb hby at_20) rfl kk) ?_
    show OGo p e below (s₁.setTop (mkF m 21 #[.val (.long q1), .second, .val (.long q2), .second, .val (.int p1), .val (.long e1_), .second, .unset, .unset, .unset, .unset, .unset, .unset] [(.int (p1 &&& (2 : Int32)))])) _
    have K49 : ∀ n1_ : Int64, ¬ n1_ < 1 → OGo p e below (s₁.setTop (mkF m 49 #[.val (.long q1), .second, .val (.long q2), .second, .val (.int p1), .val (.long e1_), .second, .val (.long n1_), .second, .unset, .unset, .unset, .unset] [])) (OEnd s (fun v h L => v = some (.int (1 : Int32)) ∧ Fr n0 L) room_1.cells room_1.slots) := by
      intro n1_ hn
      show OGo p e below (s₁.setTop (mkF m 49 #[.val (.long q1), .second, .val (.long q2), .second, .val (.int p1), .val (.long e1_), .second, .val (.long n1_), .second, .unset, .unset, .unset, .unset] [])) _
      have K72 : ∀ e2_ : Int64, ¬ e2_ < 1 → ¬ (e2_ = (9223372036854775807 : Int64) ∧ n1_ = (9223372036854775807 : Int64)) → OGo p e below (s₁.setTop (mkF m 72 #[.val (.long q1), .second, .val (.long q2), .second, .val (.int p1), .val (.long e2_), .second, .val (.long n1_), .second, .unset, .unset, .unset, .unset] [])) (OEnd s (fun v h L => v = some (.int (1 : Int32)) ∧ Fr n0 L) room_1.cells room_1.slots) := by
        intro e2_ he2 hb_
        show OGo p e below (s₁.setTop (mkF m 72 #[.val (.long q1), .second, .val (.long q2), .second, .val (.int p1), .val (.long e2_), .second, .val (.long n1_), .second, .unset, .unset, .unset, .unset] [])) _
        refine OGo.step (fun _ kk => XS.lload X0.here hx rfl (hb hby at_72) rfl kk) ?_
        show OGo p e below (s₁.setTop (mkF m 74 #[.val (.long q1), .second, .val (.long q2), .second, .val (.int p1), .val (.long e2_), .second, .val (.long n1_), .second, .unset, .unset, .unset, .unset] [(.long n1_)])) _
        refine OGo.step (fun _ kk => X0.ldc2Long hx hown (mvT hZ (hw _ (List.mem_of_getElem? (i := 0) rfl))) (g := (mkF m 74 #[.val (.long q1), .second, .val (.long q2), .second, .val (.int p1), .val (.long e2_), .second, .val (.long n1_), .second, .unset, .unset, .unset, .unset] [(.long n1_)])) rfl (hb hby at_74) _ kk) ?_
        show OGo p e below (s₁.setTop (mkF m 77 #[.val (.long q1), .second, .val (.long q2), .second, .val (.int p1), .val (.long e2_), .second, .val (.long n1_), .second, .unset, .unset, .unset, .unset] [(.long (9223372036854775807 : Int64)), (.long n1_)])) _
        refine OGo.step (fun _ kk => XS.lcmp X0.here hx rfl (hb hby at_77) rfl kk) ?_
        show OGo p e below (s₁.setTop (mkF m 78 #[.val (.long q1), .second, .val (.long q2), .second, .val (.int p1), .val (.long e2_), .second, .val (.long n1_), .second, .unset, .unset, .unset, .unset] [(.int (lcmpW n1_ (9223372036854775807 : Int64)))])) _
        by_cases hm : (lcmpW n1_ (9223372036854775807 : Int64)) = (0 : Int32)
        · refine OGo.step (fun _ kk => XS.ifYes X0.here hx rfl (pc0 := 78) (pc' := 85) rfl (hb hby at_78) rfl ((if0 _ _).trans (teq hm).1) (by decide) (by decide) kk) ?_
          show OGo p e below (s₁.setTop (mkF m 85 #[.val (.long q1), .second, .val (.long q2), .second, .val (.int p1), .val (.long e2_), .second, .val (.long n1_), .second, .unset, .unset, .unset, .unset] [])) _
          refine OGo.step (fun _ kk => XS.iconst X0.here hx rfl (hb hby at_85) kk) ?_
          show OGo p e below (s₁.setTop (mkF m 86 #[.val (.long q1), .second, .val (.long q2), .second, .val (.int p1), .val (.long e2_), .second, .val (.long n1_), .second, .unset, .unset, .unset, .unset] [(.int (0 : Int32))])) _
          refine OGo.step (fun _ kk => XS.istore X0.here hx rfl (hb hby at_86) rfl (l' := #[.val (.long q1), .second, .val (.long q2), .second, .val (.int p1), .val (.long e2_), .second, .val (.long n1_), .second, .val (.int (0 : Int32)), .unset, .unset, .unset]) rfl kk) ?_
          show OGo p e below (s₁.setTop (mkF m 88 #[.val (.long q1), .second, .val (.long q2), .second, .val (.int p1), .val (.long e2_), .second, .val (.long n1_), .second, .val (.int (0 : Int32)), .unset, .unset, .unset] [])) _
          obtain ⟨T32, h32, X32, e32, E32, A32, D32, U32, st32⟩ := newO X0 hx hZ hown (hw _ (List.mem_of_getElem? (i := 1) rfl)) (hw _ (List.mem_of_getElem? (i := 2) rfl)) (hw _ (List.mem_of_getElem? (i := 3) rfl)) e0 (g := (mkF m 88 #[.val (.long q1), .second, .val (.long q2), .second, .val (.int p1), .val (.long e2_), .second, .val (.long n1_), .second, .val (.int (0 : Int32)), .unset, .unset, .unset] [])) rfl (hb hby at_88) (by decide) (by decide)
          obtain ⟨b, g32⟩ : ∃ z, z = h0.size := ⟨_, rfl⟩
          rw [← g32] at A32 D32 U32 st32
          refine OGo.step st32 ?_
          show OGo p e below (T32.setTop (mkF m 91 #[.val (.long q1), .second, .val (.long q2), .second, .val (.int p1), .val (.long e2_), .second, .val (.long n1_), .second, .val (.int (0 : Int32)), .unset, .unset, .unset] [(.ref b)])) _
          have gf_b : n0 ≤ b := Nat.le_trans Z0 (Nat.le_of_eq g32.symm)
          have sz32 : n0 ≤ h32.size := Nat.le_trans Z0 E32.1
          have F32_evaluations : Fld Z h32 b "com/example/slotwise/slotwise/search/Budget" "evaluations" "J" (.long (0 : Int64)) := D32 (Or.inr (hw _ (List.mem_of_getElem? (i := 17) rfl))) (ty := .long) (by decide)
          have F32_nanos : Fld Z h32 b "com/example/slotwise/slotwise/search/Budget" "nanos" "J" (.long (0 : Int64)) := D32 (Or.inr (hw _ (List.mem_of_getElem? (i := 19) rfl))) (ty := .long) (by decide)
          have F32_stopWhenFeasible : Fld Z h32 b "com/example/slotwise/slotwise/search/Budget" "stopWhenFeasible" "Z" (.int (0 : Int32)) := D32 (Or.inr (hw _ (List.mem_of_getElem? (i := 21) rfl))) (ty := .boolean) (by decide)
          refine OGo.step (fun _ kk => XS.dup X32.here hx rfl (hb hby at_91) rfl rfl kk) ?_
          show OGo p e below (T32.setTop (mkF m 92 #[.val (.long q1), .second, .val (.long q2), .second, .val (.int p1), .val (.long e2_), .second, .val (.long n1_), .second, .val (.int (0 : Int32)), .unset, .unset, .unset] [(.ref b), (.ref b)])) _
          refine OGo.step (fun _ kk => XS.lload X32.here hx rfl (hb hby at_92) rfl kk) ?_
          show OGo p e below (T32.setTop (mkF m 94 #[.val (.long q1), .second, .val (.long q2), .second, .val (.int p1), .val (.long e2_), .second, .val (.long n1_), .second, .val (.int (0 : Int32)), .unset, .unset, .unset] [(.long e2_), (.ref b), (.ref b)])) _
          refine OGo.step (fun _ kk => XS.lload X32.here hx rfl (hb hby at_94) rfl kk) ?_
          show OGo p e below (T32.setTop (mkF m 96 #[.val (.long q1), .second, .val (.long q2), .second, .val (.int p1), .val (.long e2_), .second, .val (.long n1_), .second, .val (.int (0 : Int32)), .unset, .unset, .unset] [(.long n1_), (.long e2_), (.ref b), (.ref b)])) _
          refine OGo.step (fun _ kk => XS.iload X32.here hx rfl (hb hby at_96) rfl kk) ?_
          show OGo p e below (T32.setTop (mkF m 98 #[.val (.long q1), .second, .val (.long q2), .second, .val (.int p1), .val (.long e2_), .second, .val (.long n1_), .second, .val (.int (0 : Int32)), .unset, .unset, .unset] [(.int p1), (.long n1_), (.long e2_), (.ref b), (.ref b)])) _
          refine OGo.step (fun _ kk => XS.iconst X32.here hx rfl (hb hby at_98) kk) ?_
          show OGo p e below (T32.setTop (mkF m 99 #[.val (.long q1), .second, .val (.long q2), .second, .val (.int p1), .val (.long e2_), .second, .val (.long n1_), .second, .val (.int (0 : Int32)), .unset, .unset, .unset] [(.int (1 : Int32)), (.int p1), (.long n1_), (.long e2_), (.ref b), (.ref b)])) _
          refine OGo.step (fun _ kk => XS.iand X32.here hx rfl (hb hby at_99) rfl kk) ?_
          show OGo p e below (T32.setTop (mkF m 100 #[.val (.long q1), .second, .val (.long q2), .second, .val (.int p1), .val (.long e2_), .second, .val (.long n1_), .second, .val (.int (0 : Int32)), .unset, .unset, .unset] [(.int (p1 &&& (1 : Int32))), (.long n1_), (.long e2_), (.ref b), (.ref b)])) _
          by_cases hfl : (p1 &&& (1 : Int32)) = (0 : Int32)
          · refine OGo.step (fun _ kk => XS.ifYes X32.here hx rfl (pc0 := 100) (pc' := 107) rfl (hb hby at_100) rfl ((if0 _ _).trans (teq hfl).1) (by decide) (by decide) kk) ?_
            show OGo p e below (T32.setTop (mkF m 107 #[.val (.long q1), .second, .val (.long q2), .second, .val (.int p1), .val (.long e2_), .second, .val (.long n1_), .second, .val (.int (0 : Int32)), .unset, .unset, .unset] [(.long n1_), (.long e2_), (.ref b), (.ref b)])) _
            refine OGo.step (fun _ kk => XS.iconst X32.here hx rfl (hb hby at_107) kk) ?_
            show OGo p e below (T32.setTop (mkF m 108 #[.val (.long q1), .second, .val (.long q2), .second, .val (.int p1), .val (.long e2_), .second, .val (.long n1_), .second, .val (.int (0 : Int32)), .unset, .unset, .unset] [(.int (0 : Int32)), (.long n1_), (.long e2_), (.ref b), (.ref b)])) _
            refine own_special X32 hx hZ (y := (⟨"com/example/slotwise/slotwise/search/Budget", "<init>", "(JJZ)V"⟩ : MethodName)) rfl hown (hw _ (List.mem_of_getElem? (i := 4) rfl)) (hw _ (List.mem_of_getElem? (i := 5) rfl)) (hw _ (List.mem_of_getElem? (i := 6) rfl)) (hw _ (List.mem_of_getElem? (i := 3) rfl)) (by decide) (a := b) (W := 1) (own_binit l Z a0 hw [] b e2_ n1_ (0 : Int32) h32 n0 sz32 A32 F32_evaluations F32_nanos F32_stopWhenFeasible gf_b he2 hn hb_) e32  (pc := 108) (Ls := #[.val (.long q1), .second, .val (.long q2), .second, .val (.int p1), .val (.long e2_), .second, .val (.long n1_), .second, .val (.int (0 : Int32)), .unset, .unset, .unset]) (argsL := [(.long e2_), (.long n1_), (.int (0 : Int32))]) (rest := [(.ref b)]) (by rw [hml]; rfl) (lenOf own_pd2 rfl) rfl (hb hby at_108) (by decide) (by decide) (by decide) (by decide) ?_
            intro v33 T33 L33 X33 hQ33
            obtain ⟨rfl, N33, K33, Eb, Fe, Fn⟩ := hQ33
            show OGo p e below (T33.setTop (mkF m 111 #[.val (.long q1), .second, .val (.long q2), .second, .val (.int p1), .val (.long e2_), .second, .val (.long n1_), .second, .val (.int (0 : Int32)), .unset, .unset, .unset] [(.ref b)])) _
            have Nc33 := Fr.app (Fr.nil n0) N33
            have sz33 : n0 ≤ T33.heap.size := Nat.le_trans sz32 K33.1
            refine OGo.step (fun _ kk => XS.astore X33.here hx rfl (hb hby at_111) rfl rfl (l' := #[.val (.long q1), .second, .val (.long q2), .second, .val (.int p1), .val (.long e2_), .second, .val (.long n1_), .second, .val (.int (0 : Int32)), .val (.ref b), .unset, .unset]) rfl kk) ?_
            show OGo p e below (T33.setTop (mkF m 113 #[.val (.long q1), .second, .val (.long q2), .second, .val (.int p1), .val (.long e2_), .second, .val (.long n1_), .second, .val (.int (0 : Int32)), .val (.ref b), .unset, .unset] [])) _
            refine OGo.step (fun _ kk => XS.aload X33.here hx rfl (hb hby at_113) rfl rfl kk) ?_
            show OGo p e below (T33.setTop (mkF m 115 #[.val (.long q1), .second, .val (.long q2), .second, .val (.int p1), .val (.long e2_), .second, .val (.long n1_), .second, .val (.int (0 : Int32)), .val (.ref b), .unset, .unset] [(.ref b)])) _
            refine own_virtual X33 hx hZ (y := (⟨"com/example/slotwise/slotwise/search/Budget", "hasTimeLimit", "()Z"⟩ : MethodName)) (z := (⟨"com/example/slotwise/slotwise/search/Budget", "hasTimeLimit", "()Z"⟩ : MethodName)) hown (hw _ (List.mem_of_getElem? (i := 22) rfl)) (hw _ (List.mem_of_getElem? (i := 23) rfl)) (notFace_of_selects (args := #[]) (mvT hZ (hw _ (List.mem_of_getElem? (i := 25) rfl)))) (hw _ (List.mem_of_getElem? (i := 25) rfl)) (hw _ (List.mem_of_getElem? (i := 24) rfl)) (by decide) (hw _ (List.mem_of_getElem? (i := 26) rfl)) (hw _ (List.mem_of_getElem? (i := 3) rfl)) (b := b) Eb (W := 0) (own_has l Z a0 hw [] b n1_ T33.heap n0 sz33 Fn) rfl  (pc := 115) (Ls := #[.val (.long q1), .second, .val (.long q2), .second, .val (.int p1), .val (.long e2_), .second, .val (.long n1_), .second, .val (.int (0 : Int32)), .val (.ref b), .unset, .unset]) (argsL := []) (rest := []) (by rw [hml]; rfl) (lenOf own_pd3 rfl) rfl (hb hby at_115) (by decide) (by decide) (by decide) (by decide) ?_
            intro v34 T34 L34 X34 hQ34
            obtain ⟨rfl, N34, e34⟩ := hQ34
            show OGo p e below (T34.setTop (mkF m 118 #[.val (.long q1), .second, .val (.long q2), .second, .val (.int p1), .val (.long e2_), .second, .val (.long n1_), .second, .val (.int (0 : Int32)), .val (.ref b), .unset, .unset] [(.int (if n1_ = (9223372036854775807 : Int64) then (0 : Int32) else 1))])) _
            have Nc34 := Fr.app Nc33 N34
            rw [if_pos ((lw_eq _ _).mp hm)]
            show OGo p e below (T34.setTop (mkF m 118 #[.val (.long q1), .second, .val (.long q2), .second, .val (.int p1), .val (.long e2_), .second, .val (.long n1_), .second, .val (.int (0 : Int32)), .val (.ref b), .unset, .unset] [(.int (0 : Int32))])) _
            refine OGo.step (fun _ kk => XS.istore X34.here hx rfl (hb hby at_118) rfl (l' := #[.val (.long q1), .second, .val (.long q2), .second, .val (.int p1), .val (.long e2_), .second, .val (.long n1_), .second, .val (.int (0 : Int32)), .val (.ref b), .val (.int (0 : Int32)), .unset]) rfl kk) ?_
            show OGo p e below (T34.setTop (mkF m 120 #[.val (.long q1), .second, .val (.long q2), .second, .val (.int p1), .val (.long e2_), .second, .val (.long n1_), .second, .val (.int (0 : Int32)), .val (.ref b), .val (.int (0 : Int32)), .unset] [])) _
            refine OGo.step (fun _ kk => XS.aload X34.here hx rfl (hb hby at_120) rfl rfl kk) ?_
            show OGo p e below (T34.setTop (mkF m 122 #[.val (.long q1), .second, .val (.long q2), .second, .val (.int p1), .val (.long e2_), .second, .val (.long n1_), .second, .val (.int (0 : Int32)), .val (.ref b), .val (.int (0 : Int32)), .unset] [(.ref b)])) _
            refine OGo.step (fun _ kk => XS.lconst X34.here hx rfl (hb hby at_122) kk) ?_
            show OGo p e below (T34.setTop (mkF m 123 #[.val (.long q1), .second, .val (.long q2), .second, .val (.int p1), .val (.long e2_), .second, .val (.long n1_), .second, .val (.int (0 : Int32)), .val (.ref b), .val (.int (0 : Int32)), .unset] [(.long (0 : Int64)), (.ref b)])) _
            refine OGo.step (fun _ kk => X34.ldc2Long hx hown (mvT hZ (hw _ (List.mem_of_getElem? (i := 0) rfl))) (g := (mkF m 123 #[.val (.long q1), .second, .val (.long q2), .second, .val (.int p1), .val (.long e2_), .second, .val (.long n1_), .second, .val (.int (0 : Int32)), .val (.ref b), .val (.int (0 : Int32)), .unset] [(.long (0 : Int64)), (.ref b)])) rfl (hb hby at_123) _ kk) ?_
            show OGo p e below (T34.setTop (mkF m 126 #[.val (.long q1), .second, .val (.long q2), .second, .val (.int p1), .val (.long e2_), .second, .val (.long n1_), .second, .val (.int (0 : Int32)), .val (.ref b), .val (.int (0 : Int32)), .unset] [(.long (9223372036854775807 : Int64)), (.long (0 : Int64)), (.ref b)])) _
            refine own_virtual X34 hx hZ (y := (⟨"com/example/slotwise/slotwise/search/Budget", "used", "(JJ)D"⟩ : MethodName)) (z := (⟨"com/example/slotwise/slotwise/search/Budget", "used", "(JJ)D"⟩ : MethodName)) hown (hw _ (List.mem_of_getElem? (i := 27) rfl)) (hw _ (List.mem_of_getElem? (i := 28) rfl)) (notFace_of_selects (args := #[]) (mvT hZ (hw _ (List.mem_of_getElem? (i := 30) rfl)))) (hw _ (List.mem_of_getElem? (i := 30) rfl)) (hw _ (List.mem_of_getElem? (i := 29) rfl)) (by decide) (hw _ (List.mem_of_getElem? (i := 31) rfl)) (hw _ (List.mem_of_getElem? (i := 3) rfl)) (b := b) Eb (W := 0) (own_used l Z a0 hw [] b e2_ n1_ T33.heap n0 sz33 Fe Fn he2 hn) e34  (pc := 126) (Ls := #[.val (.long q1), .second, .val (.long q2), .second, .val (.int p1), .val (.long e2_), .second, .val (.long n1_), .second, .val (.int (0 : Int32)), .val (.ref b), .val (.int (0 : Int32)), .unset]) (argsL := [(.long (0 : Int64)), (.long (9223372036854775807 : Int64))]) (rest := []) (by rw [hml]; rfl) (lenOf own_pd4 rfl) rfl (hb hby at_126) (by decide) (by decide) (by decide) (by decide) ?_
            intro v35 T35 L35 X35 hQ35
            obtain ⟨r_, rfl, N35, e35, u0, u1⟩ := hQ35
            show OGo p e below (T35.setTop (mkF m 129 #[.val (.long q1), .second, .val (.long q2), .second, .val (.int p1), .val (.long e2_), .second, .val (.long n1_), .second, .val (.int (0 : Int32)), .val (.ref b), .val (.int (0 : Int32)), .unset] [(.double r_)])) _
            have Nc35 := Fr.app Nc34 N35
            refine OGo.step (fun _ kk => XS.dconst0 X35.here hx rfl (hb hby at_129) rfl kk) ?_
            show OGo p e below (T35.setTop (mkF m 130 #[.val (.long q1), .second, .val (.long q2), .second, .val (.int p1), .val (.long e2_), .second, .val (.long n1_), .second, .val (.int (0 : Int32)), .val (.ref b), .val (.int (0 : Int32)), .unset] [(.double FP.dconst0), (.double r_)])) _
            refine OGo.step (fun _ kk => XS.dcmpS X35.here hx rfl (hb hby at_130) rfl rfl kk) ?_
            show OGo p e below (T35.setTop (mkF m 131 #[.val (.long q1), .second, .val (.long q2), .second, .val (.int p1), .val (.long e2_), .second, .val (.long n1_), .second, .val (.int (0 : Int32)), .val (.ref b), .val (.int (0 : Int32)), .unset] [(.int (cmpValue (FP.dcmp r_ FP.dconst0) .l))])) _
            refine OGo.step (fun _ kk => XS.ifYes X35.here hx rfl (pc0 := 131) (pc' := 138) rfl (hb hby at_131) rfl ((if0 _ _).trans (flt (u0 ((lw_eq _ _).mp hm))).2.2.2) (by decide) (by decide) kk) ?_
            show OGo p e below (T35.setTop (mkF m 138 #[.val (.long q1), .second, .val (.long q2), .second, .val (.int p1), .val (.long e2_), .second, .val (.long n1_), .second, .val (.int (0 : Int32)), .val (.ref b), .val (.int (0 : Int32)), .unset] [])) _
            refine OGo.step (fun _ kk => XS.iconst X35.here hx rfl (hb hby at_138) kk) ?_
            show OGo p e below (T35.setTop (mkF m 139 #[.val (.long q1), .second, .val (.long q2), .second, .val (.int p1), .val (.long e2_), .second, .val (.long n1_), .second, .val (.int (0 : Int32)), .val (.ref b), .val (.int (0 : Int32)), .unset] [(.int (0 : Int32))])) _
            refine OGo.step (fun _ kk => XS.istore X35.here hx rfl (hb hby at_139) rfl (l' := #[.val (.long q1), .second, .val (.long q2), .second, .val (.int p1), .val (.long e2_), .second, .val (.long n1_), .second, .val (.int (0 : Int32)), .val (.ref b), .val (.int (0 : Int32)), .val (.int (0 : Int32))]) rfl kk) ?_
            show OGo p e below (T35.setTop (mkF m 141 #[.val (.long q1), .second, .val (.long q2), .second, .val (.int p1), .val (.long e2_), .second, .val (.long n1_), .second, .val (.int (0 : Int32)), .val (.ref b), .val (.int (0 : Int32)), .val (.int (0 : Int32))] [])) _
            refine OGo.step (fun _ kk => XS.iload X35.here hx rfl (hb hby at_141) rfl kk) ?_
            show OGo p e below (T35.setTop (mkF m 143 #[.val (.long q1), .second, .val (.long q2), .second, .val (.int p1), .val (.long e2_), .second, .val (.long n1_), .second, .val (.int (0 : Int32)), .val (.ref b), .val (.int (0 : Int32)), .val (.int (0 : Int32))] [(.int (0 : Int32))])) _
            refine OGo.step (fun _ kk => XS.iload X35.here hx rfl (hb hby at_143) rfl kk) ?_
            show OGo p e below (T35.setTop (mkF m 145 #[.val (.long q1), .second, .val (.long q2), .second, .val (.int p1), .val (.long e2_), .second, .val (.long n1_), .second, .val (.int (0 : Int32)), .val (.ref b), .val (.int (0 : Int32)), .val (.int (0 : Int32))] [(.int (0 : Int32)), (.int (0 : Int32))])) _
            refine OGo.step (fun _ kk => XS.icmpNo X35.here hx rfl (hb hby at_145) rfl (teq rfl).2 kk) ?_
            show OGo p e below (T35.setTop (mkF m 148 #[.val (.long q1), .second, .val (.long q2), .second, .val (.int p1), .val (.long e2_), .second, .val (.long n1_), .second, .val (.int (0 : Int32)), .val (.ref b), .val (.int (0 : Int32)), .val (.int (0 : Int32))] [])) _
            refine OGo.step (fun _ kk => XS.iload X35.here hx rfl (hb hby at_148) rfl kk) ?_
            show OGo p e below (T35.setTop (mkF m 150 #[.val (.long q1), .second, .val (.long q2), .second, .val (.int p1), .val (.long e2_), .second, .val (.long n1_), .second, .val (.int (0 : Int32)), .val (.ref b), .val (.int (0 : Int32)), .val (.int (0 : Int32))] [(.int (0 : Int32))])) _
            refine OGo.step (fun _ kk => XS.iload X35.here hx rfl (hb hby at_150) rfl kk) ?_
            show OGo p e below (T35.setTop (mkF m 152 #[.val (.long q1), .second, .val (.long q2), .second, .val (.int p1), .val (.long e2_), .second, .val (.long n1_), .second, .val (.int (0 : Int32)), .val (.ref b), .val (.int (0 : Int32)), .val (.int (0 : Int32))] [(.int (0 : Int32)), (.int (0 : Int32))])) _
            refine OGo.step (fun _ kk => XS.icmpNo X35.here hx rfl (hb hby at_152) rfl (teq rfl).2 kk) ?_
            show OGo p e below (T35.setTop (mkF m 155 #[.val (.long q1), .second, .val (.long q2), .second, .val (.int p1), .val (.long e2_), .second, .val (.long n1_), .second, .val (.int (0 : Int32)), .val (.ref b), .val (.int (0 : Int32)), .val (.int (0 : Int32))] [])) _
            refine OGo.step (fun _ kk => XS.iconst X35.here hx rfl (hb hby at_155) kk) ?_
            show OGo p e below (T35.setTop (mkF m 156 #[.val (.long q1), .second, .val (.long q2), .second, .val (.int p1), .val (.long e2_), .second, .val (.long n1_), .second, .val (.int (0 : Int32)), .val (.ref b), .val (.int (0 : Int32)), .val (.int (0 : Int32))] [(.int (1 : Int32))])) _
            refine OGo.step (fun _ kk => XS.goto X35.here hx rfl (pc0 := 156) (pc' := 160) rfl (hb hby at_156) (by decide) (by decide) kk) ?_
            show OGo p e below (T35.setTop (mkF m 160 #[.val (.long q1), .second, .val (.long q2), .second, .val (.int p1), .val (.long e2_), .second, .val (.long n1_), .second, .val (.int (0 : Int32)), .val (.ref b), .val (.int (0 : Int32)), .val (.int (0 : Int32))] [(.int (1 : Int32))])) _
            exact own_retN X35 hx hlk hret (by simp) (hb hby at_160) ⟨by rw [own_nar1], Nc35⟩ (by decide) (by decide)
          · refine OGo.step (fun _ kk => XS.ifNo X32.here hx rfl (hb hby at_100) rfl ((if0 _ _).trans (feq hfl).1) kk) ?_
            show OGo p e below (T32.setTop (mkF m 103 #[.val (.long q1), .second, .val (.long q2), .second, .val (.int p1), .val (.long e2_), .second, .val (.long n1_), .second, .val (.int (0 : Int32)), .unset, .unset, .unset] [(.long n1_), (.long e2_), (.ref b), (.ref b)])) _
            refine OGo.step (fun _ kk => XS.iconst X32.here hx rfl (hb hby at_103) kk) ?_
            show OGo p e below (T32.setTop (mkF m 104 #[.val (.long q1), .second, .val (.long q2), .second, .val (.int p1), .val (.long e2_), .second, .val (.long n1_), .second, .val (.int (0 : Int32)), .unset, .unset, .unset] [(.int (1 : Int32)), (.long n1_), (.long e2_), (.ref b), (.ref b)])) _
            refine OGo.step (fun _ kk => XS.goto X32.here hx rfl (pc0 := 104) (pc' := 108) rfl (hb hby at_104) (by decide) (by decide) kk) ?_
            show OGo p e below (T32.setTop (mkF m 108 #[.val (.long q1), .second, .val (.long q2), .second, .val (.int p1), .val (.long e2_), .second, .val (.long n1_), .second, .val (.int (0 : Int32)), .unset, .unset, .unset] [(.int (1 : Int32)), (.long n1_), (.long e2_), (.ref b), (.ref b)])) _
            refine own_special X32 hx hZ (y := (⟨"com/example/slotwise/slotwise/search/Budget", "<init>", "(JJZ)V"⟩ : MethodName)) rfl hown (hw _ (List.mem_of_getElem? (i := 4) rfl)) (hw _ (List.mem_of_getElem? (i := 5) rfl)) (hw _ (List.mem_of_getElem? (i := 6) rfl)) (hw _ (List.mem_of_getElem? (i := 3) rfl)) (by decide) (a := b) (W := 1) (own_binit l Z a0 hw [] b e2_ n1_ (1 : Int32) h32 n0 sz32 A32 F32_evaluations F32_nanos F32_stopWhenFeasible gf_b he2 hn hb_) e32  (pc := 108) (Ls := #[.val (.long q1), .second, .val (.long q2), .second, .val (.int p1), .val (.long e2_), .second, .val (.long n1_), .second, .val (.int (0 : Int32)), .unset, .unset, .unset]) (argsL := [(.long e2_), (.long n1_), (.int (1 : Int32))]) (rest := [(.ref b)]) (by rw [hml]; rfl) (lenOf own_pd2 rfl) rfl (hb hby at_108) (by decide) (by decide) (by decide) (by decide) ?_
            intro v36 T36 L36 X36 hQ36
            obtain ⟨rfl, N36, K36, Eb, Fe, Fn⟩ := hQ36
            show OGo p e below (T36.setTop (mkF m 111 #[.val (.long q1), .second, .val (.long q2), .second, .val (.int p1), .val (.long e2_), .second, .val (.long n1_), .second, .val (.int (0 : Int32)), .unset, .unset, .unset] [(.ref b)])) _
            have Nc36 := Fr.app (Fr.nil n0) N36
            have sz36 : n0 ≤ T36.heap.size := Nat.le_trans sz32 K36.1
            refine OGo.step (fun _ kk => XS.astore X36.here hx rfl (hb hby at_111) rfl rfl (l' := #[.val (.long q1), .second, .val (.long q2), .second, .val (.int p1), .val (.long e2_), .second, .val (.long n1_), .second, .val (.int (0 : Int32)), .val (.ref b), .unset, .unset]) rfl kk) ?_
            show OGo p e below (T36.setTop (mkF m 113 #[.val (.long q1), .second, .val (.long q2), .second, .val (.int p1), .val (.long e2_), .second, .val (.long n1_), .second, .val (.int (0 : Int32)), .val (.ref b), .unset, .unset] [])) _
            refine OGo.step (fun _ kk => XS.aload X36.here hx rfl (hb hby at_113) rfl rfl kk) ?_
            show OGo p e below (T36.setTop (mkF m 115 #[.val (.long q1), .second, .val (.long q2), .second, .val (.int p1), .val (.long e2_), .second, .val (.long n1_), .second, .val (.int (0 : Int32)), .val (.ref b), .unset, .unset] [(.ref b)])) _
            refine own_virtual X36 hx hZ (y := (⟨"com/example/slotwise/slotwise/search/Budget", "hasTimeLimit", "()Z"⟩ : MethodName)) (z := (⟨"com/example/slotwise/slotwise/search/Budget", "hasTimeLimit", "()Z"⟩ : MethodName)) hown (hw _ (List.mem_of_getElem? (i := 22) rfl)) (hw _ (List.mem_of_getElem? (i := 23) rfl)) (notFace_of_selects (args := #[]) (mvT hZ (hw _ (List.mem_of_getElem? (i := 25) rfl)))) (hw _ (List.mem_of_getElem? (i := 25) rfl)) (hw _ (List.mem_of_getElem? (i := 24) rfl)) (by decide) (hw _ (List.mem_of_getElem? (i := 26) rfl)) (hw _ (List.mem_of_getElem? (i := 3) rfl)) (b := b) Eb (W := 0) (own_has l Z a0 hw [] b n1_ T36.heap n0 sz36 Fn) rfl  (pc := 115) (Ls := #[.val (.long q1), .second, .val (.long q2), .second, .val (.int p1), .val (.long e2_), .second, .val (.long n1_), .second, .val (.int (0 : Int32)), .val (.ref b), .unset, .unset]) (argsL := []) (rest := []) (by rw [hml]; rfl) (lenOf own_pd3 rfl) rfl (hb hby at_115) (by decide) (by decide) (by decide) (by decide) ?_
            intro v37 T37 L37 X37 hQ37
            obtain ⟨rfl, N37, e37⟩ := hQ37
            show OGo p e below (T37.setTop (mkF m 118 #[.val (.long q1), .second, .val (.long q2), .second, .val (.int p1), .val (.long e2_), .second, .val (.long n1_), .second, .val (.int (0 : Int32)), .val (.ref b), .unset, .unset] [(.int (if n1_ = (9223372036854775807 : Int64) then (0 : Int32) else 1))])) _
            have Nc37 := Fr.app Nc36 N37
            rw [if_pos ((lw_eq _ _).mp hm)]
            show OGo p e below (T37.setTop (mkF m 118 #[.val (.long q1), .second, .val (.long q2), .second, .val (.int p1), .val (.long e2_), .second, .val (.long n1_), .second, .val (.int (0 : Int32)), .val (.ref b), .unset, .unset] [(.int (0 : Int32))])) _
            refine OGo.step (fun _ kk => XS.istore X37.here hx rfl (hb hby at_118) rfl (l' := #[.val (.long q1), .second, .val (.long q2), .second, .val (.int p1), .val (.long e2_), .second, .val (.long n1_), .second, .val (.int (0 : Int32)), .val (.ref b), .val (.int (0 : Int32)), .unset]) rfl kk) ?_
            show OGo p e below (T37.setTop (mkF m 120 #[.val (.long q1), .second, .val (.long q2), .second, .val (.int p1), .val (.long e2_), .second, .val (.long n1_), .second, .val (.int (0 : Int32)), .val (.ref b), .val (.int (0 : Int32)), .unset] [])) _
            refine OGo.step (fun _ kk => XS.aload X37.here hx rfl (hb hby at_120) rfl rfl kk) ?_
            show OGo p e below (T37.setTop (mkF m 122 #[.val (.long q1), .second, .val (.long q2), .second, .val (.int p1), .val (.long e2_), .second, .val (.long n1_), .second, .val (.int (0 : Int32)), .val (.ref b), .val (.int (0 : Int32)), .unset] [(.ref b)])) _
            refine OGo.step (fun _ kk => XS.lconst X37.here hx rfl (hb hby at_122) kk) ?_
            show OGo p e below (T37.setTop (mkF m 123 #[.val (.long q1), .second, .val (.long q2), .second, .val (.int p1), .val (.long e2_), .second, .val (.long n1_), .second, .val (.int (0 : Int32)), .val (.ref b), .val (.int (0 : Int32)), .unset] [(.long (0 : Int64)), (.ref b)])) _
            refine OGo.step (fun _ kk => X37.ldc2Long hx hown (mvT hZ (hw _ (List.mem_of_getElem? (i := 0) rfl))) (g := (mkF m 123 #[.val (.long q1), .second, .val (.long q2), .second, .val (.int p1), .val (.long e2_), .second, .val (.long n1_), .second, .val (.int (0 : Int32)), .val (.ref b), .val (.int (0 : Int32)), .unset] [(.long (0 : Int64)), (.ref b)])) rfl (hb hby at_123) _ kk) ?_
            show OGo p e below (T37.setTop (mkF m 126 #[.val (.long q1), .second, .val (.long q2), .second, .val (.int p1), .val (.long e2_), .second, .val (.long n1_), .second, .val (.int (0 : Int32)), .val (.ref b), .val (.int (0 : Int32)), .unset] [(.long (9223372036854775807 : Int64)), (.long (0 : Int64)), (.ref b)])) _
            refine own_virtual X37 hx hZ (y := (⟨"com/example/slotwise/slotwise/search/Budget", "used", "(JJ)D"⟩ : MethodName)) (z := (⟨"com/example/slotwise/slotwise/search/Budget", "used", "(JJ)D"⟩ : MethodName)) hown (hw _ (List.mem_of_getElem? (i := 27) rfl)) (hw _ (List.mem_of_getElem? (i := 28) rfl)) (notFace_of_selects (args := #[]) (mvT hZ (hw _ (List.mem_of_getElem? (i := 30) rfl)))) (hw _ (List.mem_of_getElem? (i := 30) rfl)) (hw _ (List.mem_of_getElem? (i := 29) rfl)) (by decide) (hw _ (List.mem_of_getElem? (i := 31) rfl)) (hw _ (List.mem_of_getElem? (i := 3) rfl)) (b := b) Eb (W := 0) (own_used l Z a0 hw [] b e2_ n1_ T36.heap n0 sz36 Fe Fn he2 hn) e37  (pc := 126) (Ls := #[.val (.long q1), .second, .val (.long q2), .second, .val (.int p1), .val (.long e2_), .second, .val (.long n1_), .second, .val (.int (0 : Int32)), .val (.ref b), .val (.int (0 : Int32)), .unset]) (argsL := [(.long (0 : Int64)), (.long (9223372036854775807 : Int64))]) (rest := []) (by rw [hml]; rfl) (lenOf own_pd4 rfl) rfl (hb hby at_126) (by decide) (by decide) (by decide) (by decide) ?_
            intro v38 T38 L38 X38 hQ38
            obtain ⟨r_, rfl, N38, e38, u0, u1⟩ := hQ38
            show OGo p e below (T38.setTop (mkF m 129 #[.val (.long q1), .second, .val (.long q2), .second, .val (.int p1), .val (.long e2_), .second, .val (.long n1_), .second, .val (.int (0 : Int32)), .val (.ref b), .val (.int (0 : Int32)), .unset] [(.double r_)])) _
            have Nc38 := Fr.app Nc37 N38
            refine OGo.step (fun _ kk => XS.dconst0 X38.here hx rfl (hb hby at_129) rfl kk) ?_
            show OGo p e below (T38.setTop (mkF m 130 #[.val (.long q1), .second, .val (.long q2), .second, .val (.int p1), .val (.long e2_), .second, .val (.long n1_), .second, .val (.int (0 : Int32)), .val (.ref b), .val (.int (0 : Int32)), .unset] [(.double FP.dconst0), (.double r_)])) _
            refine OGo.step (fun _ kk => XS.dcmpS X38.here hx rfl (hb hby at_130) rfl rfl kk) ?_
            show OGo p e below (T38.setTop (mkF m 131 #[.val (.long q1), .second, .val (.long q2), .second, .val (.int p1), .val (.long e2_), .second, .val (.long n1_), .second, .val (.int (0 : Int32)), .val (.ref b), .val (.int (0 : Int32)), .unset] [(.int (cmpValue (FP.dcmp r_ FP.dconst0) .l))])) _
            refine OGo.step (fun _ kk => XS.ifYes X38.here hx rfl (pc0 := 131) (pc' := 138) rfl (hb hby at_131) rfl ((if0 _ _).trans (flt (u0 ((lw_eq _ _).mp hm))).2.2.2) (by decide) (by decide) kk) ?_
            show OGo p e below (T38.setTop (mkF m 138 #[.val (.long q1), .second, .val (.long q2), .second, .val (.int p1), .val (.long e2_), .second, .val (.long n1_), .second, .val (.int (0 : Int32)), .val (.ref b), .val (.int (0 : Int32)), .unset] [])) _
            refine OGo.step (fun _ kk => XS.iconst X38.here hx rfl (hb hby at_138) kk) ?_
            show OGo p e below (T38.setTop (mkF m 139 #[.val (.long q1), .second, .val (.long q2), .second, .val (.int p1), .val (.long e2_), .second, .val (.long n1_), .second, .val (.int (0 : Int32)), .val (.ref b), .val (.int (0 : Int32)), .unset] [(.int (0 : Int32))])) _
            refine OGo.step (fun _ kk => XS.istore X38.here hx rfl (hb hby at_139) rfl (l' := #[.val (.long q1), .second, .val (.long q2), .second, .val (.int p1), .val (.long e2_), .second, .val (.long n1_), .second, .val (.int (0 : Int32)), .val (.ref b), .val (.int (0 : Int32)), .val (.int (0 : Int32))]) rfl kk) ?_
            show OGo p e below (T38.setTop (mkF m 141 #[.val (.long q1), .second, .val (.long q2), .second, .val (.int p1), .val (.long e2_), .second, .val (.long n1_), .second, .val (.int (0 : Int32)), .val (.ref b), .val (.int (0 : Int32)), .val (.int (0 : Int32))] [])) _
            refine OGo.step (fun _ kk => XS.iload X38.here hx rfl (hb hby at_141) rfl kk) ?_
            show OGo p e below (T38.setTop (mkF m 143 #[.val (.long q1), .second, .val (.long q2), .second, .val (.int p1), .val (.long e2_), .second, .val (.long n1_), .second, .val (.int (0 : Int32)), .val (.ref b), .val (.int (0 : Int32)), .val (.int (0 : Int32))] [(.int (0 : Int32))])) _
            refine OGo.step (fun _ kk => XS.iload X38.here hx rfl (hb hby at_143) rfl kk) ?_
            show OGo p e below (T38.setTop (mkF m 145 #[.val (.long q1), .second, .val (.long q2), .second, .val (.int p1), .val (.long e2_), .second, .val (.long n1_), .second, .val (.int (0 : Int32)), .val (.ref b), .val (.int (0 : Int32)), .val (.int (0 : Int32))] [(.int (0 : Int32)), (.int (0 : Int32))])) _
            refine OGo.step (fun _ kk => XS.icmpNo X38.here hx rfl (hb hby at_145) rfl (teq rfl).2 kk) ?_
            show OGo p e below (T38.setTop (mkF m 148 #[.val (.long q1), .second, .val (.long q2), .second, .val (.int p1), .val (.long e2_), .second, .val (.long n1_), .second, .val (.int (0 : Int32)), .val (.ref b), .val (.int (0 : Int32)), .val (.int (0 : Int32))] [])) _
            refine OGo.step (fun _ kk => XS.iload X38.here hx rfl (hb hby at_148) rfl kk) ?_
            show OGo p e below (T38.setTop (mkF m 150 #[.val (.long q1), .second, .val (.long q2), .second, .val (.int p1), .val (.long e2_), .second, .val (.long n1_), .second, .val (.int (0 : Int32)), .val (.ref b), .val (.int (0 : Int32)), .val (.int (0 : Int32))] [(.int (0 : Int32))])) _
            refine OGo.step (fun _ kk => XS.iload X38.here hx rfl (hb hby at_150) rfl kk) ?_
            show OGo p e below (T38.setTop (mkF m 152 #[.val (.long q1), .second, .val (.long q2), .second, .val (.int p1), .val (.long e2_), .second, .val (.long n1_), .second, .val (.int (0 : Int32)), .val (.ref b), .val (.int (0 : Int32)), .val (.int (0 : Int32))] [(.int (0 : Int32)), (.int (0 : Int32))])) _
            refine OGo.step (fun _ kk => XS.icmpNo X38.here hx rfl (hb hby at_152) rfl (teq rfl).2 kk) ?_
            show OGo p e below (T38.setTop (mkF m 155 #[.val (.long q1), .second, .val (.long q2), .second, .val (.int p1), .val (.long e2_), .second, .val (.long n1_), .second, .val (.int (0 : Int32)), .val (.ref b), .val (.int (0 : Int32)), .val (.int (0 : Int32))] [])) _
            refine OGo.step (fun _ kk => XS.iconst X38.here hx rfl (hb hby at_155) kk) ?_
            show OGo p e below (T38.setTop (mkF m 156 #[.val (.long q1), .second, .val (.long q2), .second, .val (.int p1), .val (.long e2_), .second, .val (.long n1_), .second, .val (.int (0 : Int32)), .val (.ref b), .val (.int (0 : Int32)), .val (.int (0 : Int32))] [(.int (1 : Int32))])) _
            refine OGo.step (fun _ kk => XS.goto X38.here hx rfl (pc0 := 156) (pc' := 160) rfl (hb hby at_156) (by decide) (by decide) kk) ?_
            show OGo p e below (T38.setTop (mkF m 160 #[.val (.long q1), .second, .val (.long q2), .second, .val (.int p1), .val (.long e2_), .second, .val (.long n1_), .second, .val (.int (0 : Int32)), .val (.ref b), .val (.int (0 : Int32)), .val (.int (0 : Int32))] [(.int (1 : Int32))])) _
            exact own_retN X38 hx hlk hret (by simp) (hb hby at_160) ⟨by rw [own_nar1], Nc38⟩ (by decide) (by decide)
        · refine OGo.step (fun _ kk => XS.ifNo X0.here hx rfl (hb hby at_78) rfl ((if0 _ _).trans (feq hm).1) kk) ?_
          show OGo p e below (s₁.setTop (mkF m 81 #[.val (.long q1), .second, .val (.long q2), .second, .val (.int p1), .val (.long e2_), .second, .val (.long n1_), .second, .unset, .unset, .unset, .unset] [])) _
          refine OGo.step (fun _ kk => XS.iconst X0.here hx rfl (hb hby at_81) kk) ?_
          show OGo p e below (s₁.setTop (mkF m 82 #[.val (.long q1), .second, .val (.long q2), .second, .val (.int p1), .val (.long e2_), .second, .val (.long n1_), .second, .unset, .unset, .unset, .unset] [(.int (1 : Int32))])) _
          refine OGo.step (fun _ kk => XS.goto X0.here hx rfl (pc0 := 82) (pc' := 86) rfl (hb hby at_82) (by decide) (by decide) kk) ?_
          show OGo p e below (s₁.setTop (mkF m 86 #[.val (.long q1), .second, .val (.long q2), .second, .val (.int p1), .val (.long e2_), .second, .val (.long n1_), .second, .unset, .unset, .unset, .unset] [(.int (1 : Int32))])) _
          refine OGo.step (fun _ kk => XS.istore X0.here hx rfl (hb hby at_86) rfl (l' := #[.val (.long q1), .second, .val (.long q2), .second, .val (.int p1), .val (.long e2_), .second, .val (.long n1_), .second, .val (.int (1 : Int32)), .unset, .unset, .unset]) rfl kk) ?_
          show OGo p e below (s₁.setTop (mkF m 88 #[.val (.long q1), .second, .val (.long q2), .second, .val (.int p1), .val (.long e2_), .second, .val (.long n1_), .second, .val (.int (1 : Int32)), .unset, .unset, .unset] [])) _
          obtain ⟨T39, h39, X39, e39, E39, A39, D39, U39, st39⟩ := newO X0 hx hZ hown (hw _ (List.mem_of_getElem? (i := 1) rfl)) (hw _ (List.mem_of_getElem? (i := 2) rfl)) (hw _ (List.mem_of_getElem? (i := 3) rfl)) e0 (g := (mkF m 88 #[.val (.long q1), .second, .val (.long q2), .second, .val (.int p1), .val (.long e2_), .second, .val (.long n1_), .second, .val (.int (1 : Int32)), .unset, .unset, .unset] [])) rfl (hb hby at_88) (by decide) (by decide)
          obtain ⟨b, g39⟩ : ∃ z, z = h0.size := ⟨_, rfl⟩
          rw [← g39] at A39 D39 U39 st39
          refine OGo.step st39 ?_
          show OGo p e below (T39.setTop (mkF m 91 #[.val (.long q1), .second, .val (.long q2), .second, .val (.int p1), .val (.long e2_), .second, .val (.long n1_), .second, .val (.int (1 : Int32)), .unset, .unset, .unset] [(.ref b)])) _
          have gf_b : n0 ≤ b := Nat.le_trans Z0 (Nat.le_of_eq g39.symm)
          have sz39 : n0 ≤ h39.size := Nat.le_trans Z0 E39.1
          have F39_evaluations : Fld Z h39 b "com/example/slotwise/slotwise/search/Budget" "evaluations" "J" (.long (0 : Int64)) := D39 (Or.inr (hw _ (List.mem_of_getElem? (i := 17) rfl))) (ty := .long) (by decide)
          have F39_nanos : Fld Z h39 b "com/example/slotwise/slotwise/search/Budget" "nanos" "J" (.long (0 : Int64)) := D39 (Or.inr (hw _ (List.mem_of_getElem? (i := 19) rfl))) (ty := .long) (by decide)
          have F39_stopWhenFeasible : Fld Z h39 b "com/example/slotwise/slotwise/search/Budget" "stopWhenFeasible" "Z" (.int (0 : Int32)) := D39 (Or.inr (hw _ (List.mem_of_getElem? (i := 21) rfl))) (ty := .boolean) (by decide)
          refine OGo.step (fun _ kk => XS.dup X39.here hx rfl (hb hby at_91) rfl rfl kk) ?_
          show OGo p e below (T39.setTop (mkF m 92 #[.val (.long q1), .second, .val (.long q2), .second, .val (.int p1), .val (.long e2_), .second, .val (.long n1_), .second, .val (.int (1 : Int32)), .unset, .unset, .unset] [(.ref b), (.ref b)])) _
          refine OGo.step (fun _ kk => XS.lload X39.here hx rfl (hb hby at_92) rfl kk) ?_
          show OGo p e below (T39.setTop (mkF m 94 #[.val (.long q1), .second, .val (.long q2), .second, .val (.int p1), .val (.long e2_), .second, .val (.long n1_), .second, .val (.int (1 : Int32)), .unset, .unset, .unset] [(.long e2_), (.ref b), (.ref b)])) _
          refine OGo.step (fun _ kk => XS.lload X39.here hx rfl (hb hby at_94) rfl kk) ?_
          show OGo p e below (T39.setTop (mkF m 96 #[.val (.long q1), .second, .val (.long q2), .second, .val (.int p1), .val (.long e2_), .second, .val (.long n1_), .second, .val (.int (1 : Int32)), .unset, .unset, .unset] [(.long n1_), (.long e2_), (.ref b), (.ref b)])) _
          refine OGo.step (fun _ kk => XS.iload X39.here hx rfl (hb hby at_96) rfl kk) ?_
          show OGo p e below (T39.setTop (mkF m 98 #[.val (.long q1), .second, .val (.long q2), .second, .val (.int p1), .val (.long e2_), .second, .val (.long n1_), .second, .val (.int (1 : Int32)), .unset, .unset, .unset] [(.int p1), (.long n1_), (.long e2_), (.ref b), (.ref b)])) _
          refine OGo.step (fun _ kk => XS.iconst X39.here hx rfl (hb hby at_98) kk) ?_
          show OGo p e below (T39.setTop (mkF m 99 #[.val (.long q1), .second, .val (.long q2), .second, .val (.int p1), .val (.long e2_), .second, .val (.long n1_), .second, .val (.int (1 : Int32)), .unset, .unset, .unset] [(.int (1 : Int32)), (.int p1), (.long n1_), (.long e2_), (.ref b), (.ref b)])) _
          refine OGo.step (fun _ kk => XS.iand X39.here hx rfl (hb hby at_99) rfl kk) ?_
          show OGo p e below (T39.setTop (mkF m 100 #[.val (.long q1), .second, .val (.long q2), .second, .val (.int p1), .val (.long e2_), .second, .val (.long n1_), .second, .val (.int (1 : Int32)), .unset, .unset, .unset] [(.int (p1 &&& (1 : Int32))), (.long n1_), (.long e2_), (.ref b), (.ref b)])) _
          by_cases hfl : (p1 &&& (1 : Int32)) = (0 : Int32)
          · refine OGo.step (fun _ kk => XS.ifYes X39.here hx rfl (pc0 := 100) (pc' := 107) rfl (hb hby at_100) rfl ((if0 _ _).trans (teq hfl).1) (by decide) (by decide) kk) ?_
            show OGo p e below (T39.setTop (mkF m 107 #[.val (.long q1), .second, .val (.long q2), .second, .val (.int p1), .val (.long e2_), .second, .val (.long n1_), .second, .val (.int (1 : Int32)), .unset, .unset, .unset] [(.long n1_), (.long e2_), (.ref b), (.ref b)])) _
            refine OGo.step (fun _ kk => XS.iconst X39.here hx rfl (hb hby at_107) kk) ?_
            show OGo p e below (T39.setTop (mkF m 108 #[.val (.long q1), .second, .val (.long q2), .second, .val (.int p1), .val (.long e2_), .second, .val (.long n1_), .second, .val (.int (1 : Int32)), .unset, .unset, .unset] [(.int (0 : Int32)), (.long n1_), (.long e2_), (.ref b), (.ref b)])) _
            refine own_special X39 hx hZ (y := (⟨"com/example/slotwise/slotwise/search/Budget", "<init>", "(JJZ)V"⟩ : MethodName)) rfl hown (hw _ (List.mem_of_getElem? (i := 4) rfl)) (hw _ (List.mem_of_getElem? (i := 5) rfl)) (hw _ (List.mem_of_getElem? (i := 6) rfl)) (hw _ (List.mem_of_getElem? (i := 3) rfl)) (by decide) (a := b) (W := 1) (own_binit l Z a0 hw [] b e2_ n1_ (0 : Int32) h39 n0 sz39 A39 F39_evaluations F39_nanos F39_stopWhenFeasible gf_b he2 hn hb_) e39  (pc := 108) (Ls := #[.val (.long q1), .second, .val (.long q2), .second, .val (.int p1), .val (.long e2_), .second, .val (.long n1_), .second, .val (.int (1 : Int32)), .unset, .unset, .unset]) (argsL := [(.long e2_), (.long n1_), (.int (0 : Int32))]) (rest := [(.ref b)]) (by rw [hml]; rfl) (lenOf own_pd2 rfl) rfl (hb hby at_108) (by decide) (by decide) (by decide) (by decide) ?_
            intro v40 T40 L40 X40 hQ40
            obtain ⟨rfl, N40, K40, Eb, Fe, Fn⟩ := hQ40
            show OGo p e below (T40.setTop (mkF m 111 #[.val (.long q1), .second, .val (.long q2), .second, .val (.int p1), .val (.long e2_), .second, .val (.long n1_), .second, .val (.int (1 : Int32)), .unset, .unset, .unset] [(.ref b)])) _
            have Nc40 := Fr.app (Fr.nil n0) N40
            have sz40 : n0 ≤ T40.heap.size := Nat.le_trans sz39 K40.1
            refine OGo.step (fun _ kk => XS.astore X40.here hx rfl (hb hby at_111) rfl rfl (l' := #[.val (.long q1), .second, .val (.long q2), .second, .val (.int p1), .val (.long e2_), .second, .val (.long n1_), .second, .val (.int (1 : Int32)), .val (.ref b), .unset, .unset]) rfl kk) ?_
            show OGo p e below (T40.setTop (mkF m 113 #[.val (.long q1), .second, .val (.long q2), .second, .val (.int p1), .val (.long e2_), .second, .val (.long n1_), .second, .val (.int (1 : Int32)), .val (.ref b), .unset, .unset] [])) _
            refine OGo.step (fun _ kk => XS.aload X40.here hx rfl (hb hby at_113) rfl rfl kk) ?_
            show OGo p e below (T40.setTop (mkF m 115 #[.val (.long q1), .second, .val (.long q2), .second, .val (.int p1), .val (.long e2_), .second, .val (.long n1_), .second, .val (.int (1 : Int32)), .val (.ref b), .unset, .unset] [(.ref b)])) _
            refine own_virtual X40 hx hZ (y := (⟨"com/example/slotwise/slotwise/search/Budget", "hasTimeLimit", "()Z"⟩ : MethodName)) (z := (⟨"com/example/slotwise/slotwise/search/Budget", "hasTimeLimit", "()Z"⟩ : MethodName)) hown (hw _ (List.mem_of_getElem? (i := 22) rfl)) (hw _ (List.mem_of_getElem? (i := 23) rfl)) (notFace_of_selects (args := #[]) (mvT hZ (hw _ (List.mem_of_getElem? (i := 25) rfl)))) (hw _ (List.mem_of_getElem? (i := 25) rfl)) (hw _ (List.mem_of_getElem? (i := 24) rfl)) (by decide) (hw _ (List.mem_of_getElem? (i := 26) rfl)) (hw _ (List.mem_of_getElem? (i := 3) rfl)) (b := b) Eb (W := 0) (own_has l Z a0 hw [] b n1_ T40.heap n0 sz40 Fn) rfl  (pc := 115) (Ls := #[.val (.long q1), .second, .val (.long q2), .second, .val (.int p1), .val (.long e2_), .second, .val (.long n1_), .second, .val (.int (1 : Int32)), .val (.ref b), .unset, .unset]) (argsL := []) (rest := []) (by rw [hml]; rfl) (lenOf own_pd3 rfl) rfl (hb hby at_115) (by decide) (by decide) (by decide) (by decide) ?_
            intro v41 T41 L41 X41 hQ41
            obtain ⟨rfl, N41, e41⟩ := hQ41
            show OGo p e below (T41.setTop (mkF m 118 #[.val (.long q1), .second, .val (.long q2), .second, .val (.int p1), .val (.long e2_), .second, .val (.long n1_), .second, .val (.int (1 : Int32)), .val (.ref b), .unset, .unset] [(.int (if n1_ = (9223372036854775807 : Int64) then (0 : Int32) else 1))])) _
            have Nc41 := Fr.app Nc40 N41
            rw [if_neg (fun z => hm ((lw_eq _ _).mpr z))]
            show OGo p e below (T41.setTop (mkF m 118 #[.val (.long q1), .second, .val (.long q2), .second, .val (.int p1), .val (.long e2_), .second, .val (.long n1_), .second, .val (.int (1 : Int32)), .val (.ref b), .unset, .unset] [(.int (1 : Int32))])) _
            refine OGo.step (fun _ kk => XS.istore X41.here hx rfl (hb hby at_118) rfl (l' := #[.val (.long q1), .second, .val (.long q2), .second, .val (.int p1), .val (.long e2_), .second, .val (.long n1_), .second, .val (.int (1 : Int32)), .val (.ref b), .val (.int (1 : Int32)), .unset]) rfl kk) ?_
            show OGo p e below (T41.setTop (mkF m 120 #[.val (.long q1), .second, .val (.long q2), .second, .val (.int p1), .val (.long e2_), .second, .val (.long n1_), .second, .val (.int (1 : Int32)), .val (.ref b), .val (.int (1 : Int32)), .unset] [])) _
            refine OGo.step (fun _ kk => XS.aload X41.here hx rfl (hb hby at_120) rfl rfl kk) ?_
            show OGo p e below (T41.setTop (mkF m 122 #[.val (.long q1), .second, .val (.long q2), .second, .val (.int p1), .val (.long e2_), .second, .val (.long n1_), .second, .val (.int (1 : Int32)), .val (.ref b), .val (.int (1 : Int32)), .unset] [(.ref b)])) _
            refine OGo.step (fun _ kk => XS.lconst X41.here hx rfl (hb hby at_122) kk) ?_
            show OGo p e below (T41.setTop (mkF m 123 #[.val (.long q1), .second, .val (.long q2), .second, .val (.int p1), .val (.long e2_), .second, .val (.long n1_), .second, .val (.int (1 : Int32)), .val (.ref b), .val (.int (1 : Int32)), .unset] [(.long (0 : Int64)), (.ref b)])) _
            refine OGo.step (fun _ kk => X41.ldc2Long hx hown (mvT hZ (hw _ (List.mem_of_getElem? (i := 0) rfl))) (g := (mkF m 123 #[.val (.long q1), .second, .val (.long q2), .second, .val (.int p1), .val (.long e2_), .second, .val (.long n1_), .second, .val (.int (1 : Int32)), .val (.ref b), .val (.int (1 : Int32)), .unset] [(.long (0 : Int64)), (.ref b)])) rfl (hb hby at_123) _ kk) ?_
            show OGo p e below (T41.setTop (mkF m 126 #[.val (.long q1), .second, .val (.long q2), .second, .val (.int p1), .val (.long e2_), .second, .val (.long n1_), .second, .val (.int (1 : Int32)), .val (.ref b), .val (.int (1 : Int32)), .unset] [(.long (9223372036854775807 : Int64)), (.long (0 : Int64)), (.ref b)])) _
            refine own_virtual X41 hx hZ (y := (⟨"com/example/slotwise/slotwise/search/Budget", "used", "(JJ)D"⟩ : MethodName)) (z := (⟨"com/example/slotwise/slotwise/search/Budget", "used", "(JJ)D"⟩ : MethodName)) hown (hw _ (List.mem_of_getElem? (i := 27) rfl)) (hw _ (List.mem_of_getElem? (i := 28) rfl)) (notFace_of_selects (args := #[]) (mvT hZ (hw _ (List.mem_of_getElem? (i := 30) rfl)))) (hw _ (List.mem_of_getElem? (i := 30) rfl)) (hw _ (List.mem_of_getElem? (i := 29) rfl)) (by decide) (hw _ (List.mem_of_getElem? (i := 31) rfl)) (hw _ (List.mem_of_getElem? (i := 3) rfl)) (b := b) Eb (W := 0) (own_used l Z a0 hw [] b e2_ n1_ T40.heap n0 sz40 Fe Fn he2 hn) e41  (pc := 126) (Ls := #[.val (.long q1), .second, .val (.long q2), .second, .val (.int p1), .val (.long e2_), .second, .val (.long n1_), .second, .val (.int (1 : Int32)), .val (.ref b), .val (.int (1 : Int32)), .unset]) (argsL := [(.long (0 : Int64)), (.long (9223372036854775807 : Int64))]) (rest := []) (by rw [hml]; rfl) (lenOf own_pd4 rfl) rfl (hb hby at_126) (by decide) (by decide) (by decide) (by decide) ?_
            intro v42 T42 L42 X42 hQ42
            obtain ⟨r_, rfl, N42, e42, u0, u1⟩ := hQ42
            show OGo p e below (T42.setTop (mkF m 129 #[.val (.long q1), .second, .val (.long q2), .second, .val (.int p1), .val (.long e2_), .second, .val (.long n1_), .second, .val (.int (1 : Int32)), .val (.ref b), .val (.int (1 : Int32)), .unset] [(.double r_)])) _
            have Nc42 := Fr.app Nc41 N42
            refine OGo.step (fun _ kk => XS.dconst0 X42.here hx rfl (hb hby at_129) rfl kk) ?_
            show OGo p e below (T42.setTop (mkF m 130 #[.val (.long q1), .second, .val (.long q2), .second, .val (.int p1), .val (.long e2_), .second, .val (.long n1_), .second, .val (.int (1 : Int32)), .val (.ref b), .val (.int (1 : Int32)), .unset] [(.double FP.dconst0), (.double r_)])) _
            refine OGo.step (fun _ kk => XS.dcmpS X42.here hx rfl (hb hby at_130) rfl rfl kk) ?_
            show OGo p e below (T42.setTop (mkF m 131 #[.val (.long q1), .second, .val (.long q2), .second, .val (.int p1), .val (.long e2_), .second, .val (.long n1_), .second, .val (.int (1 : Int32)), .val (.ref b), .val (.int (1 : Int32)), .unset] [(.int (cmpValue (FP.dcmp r_ FP.dconst0) .l))])) _
            refine OGo.step (fun _ kk => XS.ifNo X42.here hx rfl (hb hby at_131) rfl ((if0 _ _).trans (tlt (u1 (fun z => hm ((lw_eq _ _).mpr z)))).2.2.2) kk) ?_
            show OGo p e below (T42.setTop (mkF m 134 #[.val (.long q1), .second, .val (.long q2), .second, .val (.int p1), .val (.long e2_), .second, .val (.long n1_), .second, .val (.int (1 : Int32)), .val (.ref b), .val (.int (1 : Int32)), .unset] [])) _
            refine OGo.step (fun _ kk => XS.iconst X42.here hx rfl (hb hby at_134) kk) ?_
            show OGo p e below (T42.setTop (mkF m 135 #[.val (.long q1), .second, .val (.long q2), .second, .val (.int p1), .val (.long e2_), .second, .val (.long n1_), .second, .val (.int (1 : Int32)), .val (.ref b), .val (.int (1 : Int32)), .unset] [(.int (1 : Int32))])) _
            refine OGo.step (fun _ kk => XS.goto X42.here hx rfl (pc0 := 135) (pc' := 139) rfl (hb hby at_135) (by decide) (by decide) kk) ?_
            show OGo p e below (T42.setTop (mkF m 139 #[.val (.long q1), .second, .val (.long q2), .second, .val (.int p1), .val (.long e2_), .second, .val (.long n1_), .second, .val (.int (1 : Int32)), .val (.ref b), .val (.int (1 : Int32)), .unset] [(.int (1 : Int32))])) _
            refine OGo.step (fun _ kk => XS.istore X42.here hx rfl (hb hby at_139) rfl (l' := #[.val (.long q1), .second, .val (.long q2), .second, .val (.int p1), .val (.long e2_), .second, .val (.long n1_), .second, .val (.int (1 : Int32)), .val (.ref b), .val (.int (1 : Int32)), .val (.int (1 : Int32))]) rfl kk) ?_
            show OGo p e below (T42.setTop (mkF m 141 #[.val (.long q1), .second, .val (.long q2), .second, .val (.int p1), .val (.long e2_), .second, .val (.long n1_), .second, .val (.int (1 : Int32)), .val (.ref b), .val (.int (1 : Int32)), .val (.int (1 : Int32))] [])) _
            refine OGo.step (fun _ kk => XS.iload X42.here hx rfl (hb hby at_141) rfl kk) ?_
            show OGo p e below (T42.setTop (mkF m 143 #[.val (.long q1), .second, .val (.long q2), .second, .val (.int p1), .val (.long e2_), .second, .val (.long n1_), .second, .val (.int (1 : Int32)), .val (.ref b), .val (.int (1 : Int32)), .val (.int (1 : Int32))] [(.int (1 : Int32))])) _
            refine OGo.step (fun _ kk => XS.iload X42.here hx rfl (hb hby at_143) rfl kk) ?_
            show OGo p e below (T42.setTop (mkF m 145 #[.val (.long q1), .second, .val (.long q2), .second, .val (.int p1), .val (.long e2_), .second, .val (.long n1_), .second, .val (.int (1 : Int32)), .val (.ref b), .val (.int (1 : Int32)), .val (.int (1 : Int32))] [(.int (1 : Int32)), (.int (1 : Int32))])) _
            refine OGo.step (fun _ kk => XS.icmpNo X42.here hx rfl (hb hby at_145) rfl (teq rfl).2 kk) ?_
            show OGo p e below (T42.setTop (mkF m 148 #[.val (.long q1), .second, .val (.long q2), .second, .val (.int p1), .val (.long e2_), .second, .val (.long n1_), .second, .val (.int (1 : Int32)), .val (.ref b), .val (.int (1 : Int32)), .val (.int (1 : Int32))] [])) _
            refine OGo.step (fun _ kk => XS.iload X42.here hx rfl (hb hby at_148) rfl kk) ?_
            show OGo p e below (T42.setTop (mkF m 150 #[.val (.long q1), .second, .val (.long q2), .second, .val (.int p1), .val (.long e2_), .second, .val (.long n1_), .second, .val (.int (1 : Int32)), .val (.ref b), .val (.int (1 : Int32)), .val (.int (1 : Int32))] [(.int (1 : Int32))])) _
            refine OGo.step (fun _ kk => XS.iload X42.here hx rfl (hb hby at_150) rfl kk) ?_
            show OGo p e below (T42.setTop (mkF m 152 #[.val (.long q1), .second, .val (.long q2), .second, .val (.int p1), .val (.long e2_), .second, .val (.long n1_), .second, .val (.int (1 : Int32)), .val (.ref b), .val (.int (1 : Int32)), .val (.int (1 : Int32))] [(.int (1 : Int32)), (.int (1 : Int32))])) _
            refine OGo.step (fun _ kk => XS.icmpNo X42.here hx rfl (hb hby at_152) rfl (teq rfl).2 kk) ?_
            show OGo p e below (T42.setTop (mkF m 155 #[.val (.long q1), .second, .val (.long q2), .second, .val (.int p1), .val (.long e2_), .second, .val (.long n1_), .second, .val (.int (1 : Int32)), .val (.ref b), .val (.int (1 : Int32)), .val (.int (1 : Int32))] [])) _
            refine OGo.step (fun _ kk => XS.iconst X42.here hx rfl (hb hby at_155) kk) ?_
            show OGo p e below (T42.setTop (mkF m 156 #[.val (.long q1), .second, .val (.long q2), .second, .val (.int p1), .val (.long e2_), .second, .val (.long n1_), .second, .val (.int (1 : Int32)), .val (.ref b), .val (.int (1 : Int32)), .val (.int (1 : Int32))] [(.int (1 : Int32))])) _
            refine OGo.step (fun _ kk => XS.goto X42.here hx rfl (pc0 := 156) (pc' := 160) rfl (hb hby at_156) (by decide) (by decide) kk) ?_
            show OGo p e below (T42.setTop (mkF m 160 #[.val (.long q1), .second, .val (.long q2), .second, .val (.int p1), .val (.long e2_), .second, .val (.long n1_), .second, .val (.int (1 : Int32)), .val (.ref b), .val (.int (1 : Int32)), .val (.int (1 : Int32))] [(.int (1 : Int32))])) _
            exact own_retN X42 hx hlk hret (by simp) (hb hby at_160) ⟨by rw [own_nar1], Nc42⟩ (by decide) (by decide)
          · refine OGo.step (fun _ kk => XS.ifNo X39.here hx rfl (hb hby at_100) rfl ((if0 _ _).trans (feq hfl).1) kk) ?_
            show OGo p e below (T39.setTop (mkF m 103 #[.val (.long q1), .second, .val (.long q2), .second, .val (.int p1), .val (.long e2_), .second, .val (.long n1_), .second, .val (.int (1 : Int32)), .unset, .unset, .unset] [(.long n1_), (.long e2_), (.ref b), (.ref b)])) _
            refine OGo.step (fun _ kk => XS.iconst X39.here hx rfl (hb hby at_103) kk) ?_
            show OGo p e below (T39.setTop (mkF m 104 #[.val (.long q1), .second, .val (.long q2), .second, .val (.int p1), .val (.long e2_), .second, .val (.long n1_), .second, .val (.int (1 : Int32)), .unset, .unset, .unset] [(.int (1 : Int32)), (.long n1_), (.long e2_), (.ref b), (.ref b)])) _
            refine OGo.step (fun _ kk => XS.goto X39.here hx rfl (pc0 := 104) (pc' := 108) rfl (hb hby at_104) (by decide) (by decide) kk) ?_
            show OGo p e below (T39.setTop (mkF m 108 #[.val (.long q1), .second, .val (.long q2), .second, .val (.int p1), .val (.long e2_), .second, .val (.long n1_), .second, .val (.int (1 : Int32)), .unset, .unset, .unset] [(.int (1 : Int32)), (.long n1_), (.long e2_), (.ref b), (.ref b)])) _
            refine own_special X39 hx hZ (y := (⟨"com/example/slotwise/slotwise/search/Budget", "<init>", "(JJZ)V"⟩ : MethodName)) rfl hown (hw _ (List.mem_of_getElem? (i := 4) rfl)) (hw _ (List.mem_of_getElem? (i := 5) rfl)) (hw _ (List.mem_of_getElem? (i := 6) rfl)) (hw _ (List.mem_of_getElem? (i := 3) rfl)) (by decide) (a := b) (W := 1) (own_binit l Z a0 hw [] b e2_ n1_ (1 : Int32) h39 n0 sz39 A39 F39_evaluations F39_nanos F39_stopWhenFeasible gf_b he2 hn hb_) e39  (pc := 108) (Ls := #[.val (.long q1), .second, .val (.long q2), .second, .val (.int p1), .val (.long e2_), .second, .val (.long n1_), .second, .val (.int (1 : Int32)), .unset, .unset, .unset]) (argsL := [(.long e2_), (.long n1_), (.int (1 : Int32))]) (rest := [(.ref b)]) (by rw [hml]; rfl) (lenOf own_pd2 rfl) rfl (hb hby at_108) (by decide) (by decide) (by decide) (by decide) ?_
            intro v43 T43 L43 X43 hQ43
            obtain ⟨rfl, N43, K43, Eb, Fe, Fn⟩ := hQ43
            show OGo p e below (T43.setTop (mkF m 111 #[.val (.long q1), .second, .val (.long q2), .second, .val (.int p1), .val (.long e2_), .second, .val (.long n1_), .second, .val (.int (1 : Int32)), .unset, .unset, .unset] [(.ref b)])) _
            have Nc43 := Fr.app (Fr.nil n0) N43
            have sz43 : n0 ≤ T43.heap.size := Nat.le_trans sz39 K43.1
            refine OGo.step (fun _ kk => XS.astore X43.here hx rfl (hb hby at_111) rfl rfl (l' := #[.val (.long q1), .second, .val (.long q2), .second, .val (.int p1), .val (.long e2_), .second, .val (.long n1_), .second, .val (.int (1 : Int32)), .val (.ref b), .unset, .unset]) rfl kk) ?_
            show OGo p e below (T43.setTop (mkF m 113 #[.val (.long q1), .second, .val (.long q2), .second, .val (.int p1), .val (.long e2_), .second, .val (.long n1_), .second, .val (.int (1 : Int32)), .val (.ref b), .unset, .unset] [])) _
            refine OGo.step (fun _ kk => XS.aload X43.here hx rfl (hb hby at_113) rfl rfl kk) ?_
            show OGo p e below (T43.setTop (mkF m 115 #[.val (.long q1), .second, .val (.long q2), .second, .val (.int p1), .val (.long e2_), .second, .val (.long n1_), .second, .val (.int (1 : Int32)), .val (.ref b), .unset, .unset] [(.ref b)])) _
            refine own_virtual X43 hx hZ (y := (⟨"com/example/slotwise/slotwise/search/Budget", "hasTimeLimit", "()Z"⟩ : MethodName)) (z := (⟨"com/example/slotwise/slotwise/search/Budget", "hasTimeLimit", "()Z"⟩ : MethodName)) hown (hw _ (List.mem_of_getElem? (i := 22) rfl)) (hw _ (List.mem_of_getElem? (i := 23) rfl)) (notFace_of_selects (args := #[]) (mvT hZ (hw _ (List.mem_of_getElem? (i := 25) rfl)))) (hw _ (List.mem_of_getElem? (i := 25) rfl)) (hw _ (List.mem_of_getElem? (i := 24) rfl)) (by decide) (hw _ (List.mem_of_getElem? (i := 26) rfl)) (hw _ (List.mem_of_getElem? (i := 3) rfl)) (b := b) Eb (W := 0) (own_has l Z a0 hw [] b n1_ T43.heap n0 sz43 Fn) rfl  (pc := 115) (Ls := #[.val (.long q1), .second, .val (.long q2), .second, .val (.int p1), .val (.long e2_), .second, .val (.long n1_), .second, .val (.int (1 : Int32)), .val (.ref b), .unset, .unset]) (argsL := []) (rest := []) (by rw [hml]; rfl) (lenOf own_pd3 rfl) rfl (hb hby at_115) (by decide) (by decide) (by decide) (by decide) ?_
            intro v44 T44 L44 X44 hQ44
            obtain ⟨rfl, N44, e44⟩ := hQ44
            show OGo p e below (T44.setTop (mkF m 118 #[.val (.long q1), .second, .val (.long q2), .second, .val (.int p1), .val (.long e2_), .second, .val (.long n1_), .second, .val (.int (1 : Int32)), .val (.ref b), .unset, .unset] [(.int (if n1_ = (9223372036854775807 : Int64) then (0 : Int32) else 1))])) _
            have Nc44 := Fr.app Nc43 N44
            rw [if_neg (fun z => hm ((lw_eq _ _).mpr z))]
            show OGo p e below (T44.setTop (mkF m 118 #[.val (.long q1), .second, .val (.long q2), .second, .val (.int p1), .val (.long e2_), .second, .val (.long n1_), .second, .val (.int (1 : Int32)), .val (.ref b), .unset, .unset] [(.int (1 : Int32))])) _
            refine OGo.step (fun _ kk => XS.istore X44.here hx rfl (hb hby at_118) rfl (l' := #[.val (.long q1), .second, .val (.long q2), .second, .val (.int p1), .val (.long e2_), .second, .val (.long n1_), .second, .val (.int (1 : Int32)), .val (.ref b), .val (.int (1 : Int32)), .unset]) rfl kk) ?_
            show OGo p e below (T44.setTop (mkF m 120 #[.val (.long q1), .second, .val (.long q2), .second, .val (.int p1), .val (.long e2_), .second, .val (.long n1_), .second, .val (.int (1 : Int32)), .val (.ref b), .val (.int (1 : Int32)), .unset] [])) _
            refine OGo.step (fun _ kk => XS.aload X44.here hx rfl (hb hby at_120) rfl rfl kk) ?_
            show OGo p e below (T44.setTop (mkF m 122 #[.val (.long q1), .second, .val (.long q2), .second, .val (.int p1), .val (.long e2_), .second, .val (.long n1_), .second, .val (.int (1 : Int32)), .val (.ref b), .val (.int (1 : Int32)), .unset] [(.ref b)])) _
            refine OGo.step (fun _ kk => XS.lconst X44.here hx rfl (hb hby at_122) kk) ?_
            show OGo p e below (T44.setTop (mkF m 123 #[.val (.long q1), .second, .val (.long q2), .second, .val (.int p1), .val (.long e2_), .second, .val (.long n1_), .second, .val (.int (1 : Int32)), .val (.ref b), .val (.int (1 : Int32)), .unset] [(.long (0 : Int64)), (.ref b)])) _
            refine OGo.step (fun _ kk => X44.ldc2Long hx hown (mvT hZ (hw _ (List.mem_of_getElem? (i := 0) rfl))) (g := (mkF m 123 #[.val (.long q1), .second, .val (.long q2), .second, .val (.int p1), .val (.long e2_), .second, .val (.long n1_), .second, .val (.int (1 : Int32)), .val (.ref b), .val (.int (1 : Int32)), .unset] [(.long (0 : Int64)), (.ref b)])) rfl (hb hby at_123) _ kk) ?_
            show OGo p e below (T44.setTop (mkF m 126 #[.val (.long q1), .second, .val (.long q2), .second, .val (.int p1), .val (.long e2_), .second, .val (.long n1_), .second, .val (.int (1 : Int32)), .val (.ref b), .val (.int (1 : Int32)), .unset] [(.long (9223372036854775807 : Int64)), (.long (0 : Int64)), (.ref b)])) _
            refine own_virtual X44 hx hZ (y := (⟨"com/example/slotwise/slotwise/search/Budget", "used", "(JJ)D"⟩ : MethodName)) (z := (⟨"com/example/slotwise/slotwise/search/Budget", "used", "(JJ)D"⟩ : MethodName)) hown (hw _ (List.mem_of_getElem? (i := 27) rfl)) (hw _ (List.mem_of_getElem? (i := 28) rfl)) (notFace_of_selects (args := #[]) (mvT hZ (hw _ (List.mem_of_getElem? (i := 30) rfl)))) (hw _ (List.mem_of_getElem? (i := 30) rfl)) (hw _ (List.mem_of_getElem? (i := 29) rfl)) (by decide) (hw _ (List.mem_of_getElem? (i := 31) rfl)) (hw _ (List.mem_of_getElem? (i := 3) rfl)) (b := b) Eb (W := 0) (own_used l Z a0 hw [] b e2_ n1_ T43.heap n0 sz43 Fe Fn he2 hn) e44  (pc := 126) (Ls := #[.val (.long q1), .second, .val (.long q2), .second, .val (.int p1), .val (.long e2_), .second, .val (.long n1_), .second, .val (.int (1 : Int32)), .val (.ref b), .val (.int (1 : Int32)), .unset]) (argsL := [(.long (0 : Int64)), (.long (9223372036854775807 : Int64))]) (rest := []) (by rw [hml]; rfl) (lenOf own_pd4 rfl) rfl (hb hby at_126) (by decide) (by decide) (by decide) (by decide) ?_
            intro v45 T45 L45 X45 hQ45
            obtain ⟨r_, rfl, N45, e45, u0, u1⟩ := hQ45
            show OGo p e below (T45.setTop (mkF m 129 #[.val (.long q1), .second, .val (.long q2), .second, .val (.int p1), .val (.long e2_), .second, .val (.long n1_), .second, .val (.int (1 : Int32)), .val (.ref b), .val (.int (1 : Int32)), .unset] [(.double r_)])) _
            have Nc45 := Fr.app Nc44 N45
            refine OGo.step (fun _ kk => XS.dconst0 X45.here hx rfl (hb hby at_129) rfl kk) ?_
            show OGo p e below (T45.setTop (mkF m 130 #[.val (.long q1), .second, .val (.long q2), .second, .val (.int p1), .val (.long e2_), .second, .val (.long n1_), .second, .val (.int (1 : Int32)), .val (.ref b), .val (.int (1 : Int32)), .unset] [(.double FP.dconst0), (.double r_)])) _
            refine OGo.step (fun _ kk => XS.dcmpS X45.here hx rfl (hb hby at_130) rfl rfl kk) ?_
            show OGo p e below (T45.setTop (mkF m 131 #[.val (.long q1), .second, .val (.long q2), .second, .val (.int p1), .val (.long e2_), .second, .val (.long n1_), .second, .val (.int (1 : Int32)), .val (.ref b), .val (.int (1 : Int32)), .unset] [(.int (cmpValue (FP.dcmp r_ FP.dconst0) .l))])) _
            refine OGo.step (fun _ kk => XS.ifNo X45.here hx rfl (hb hby at_131) rfl ((if0 _ _).trans (tlt (u1 (fun z => hm ((lw_eq _ _).mpr z)))).2.2.2) kk) ?_
            show OGo p e below (T45.setTop (mkF m 134 #[.val (.long q1), .second, .val (.long q2), .second, .val (.int p1), .val (.long e2_), .second, .val (.long n1_), .second, .val (.int (1 : Int32)), .val (.ref b), .val (.int (1 : Int32)), .unset] [])) _
            refine OGo.step (fun _ kk => XS.iconst X45.here hx rfl (hb hby at_134) kk) ?_
            show OGo p e below (T45.setTop (mkF m 135 #[.val (.long q1), .second, .val (.long q2), .second, .val (.int p1), .val (.long e2_), .second, .val (.long n1_), .second, .val (.int (1 : Int32)), .val (.ref b), .val (.int (1 : Int32)), .unset] [(.int (1 : Int32))])) _
            refine OGo.step (fun _ kk => XS.goto X45.here hx rfl (pc0 := 135) (pc' := 139) rfl (hb hby at_135) (by decide) (by decide) kk) ?_
            show OGo p e below (T45.setTop (mkF m 139 #[.val (.long q1), .second, .val (.long q2), .second, .val (.int p1), .val (.long e2_), .second, .val (.long n1_), .second, .val (.int (1 : Int32)), .val (.ref b), .val (.int (1 : Int32)), .unset] [(.int (1 : Int32))])) _
            refine OGo.step (fun _ kk => XS.istore X45.here hx rfl (hb hby at_139) rfl (l' := #[.val (.long q1), .second, .val (.long q2), .second, .val (.int p1), .val (.long e2_), .second, .val (.long n1_), .second, .val (.int (1 : Int32)), .val (.ref b), .val (.int (1 : Int32)), .val (.int (1 : Int32))]) rfl kk) ?_
            show OGo p e below (T45.setTop (mkF m 141 #[.val (.long q1), .second, .val (.long q2), .second, .val (.int p1), .val (.long e2_), .second, .val (.long n1_), .second, .val (.int (1 : Int32)), .val (.ref b), .val (.int (1 : Int32)), .val (.int (1 : Int32))] [])) _
            refine OGo.step (fun _ kk => XS.iload X45.here hx rfl (hb hby at_141) rfl kk) ?_
            show OGo p e below (T45.setTop (mkF m 143 #[.val (.long q1), .second, .val (.long q2), .second, .val (.int p1), .val (.long e2_), .second, .val (.long n1_), .second, .val (.int (1 : Int32)), .val (.ref b), .val (.int (1 : Int32)), .val (.int (1 : Int32))] [(.int (1 : Int32))])) _
            refine OGo.step (fun _ kk => XS.iload X45.here hx rfl (hb hby at_143) rfl kk) ?_
            show OGo p e below (T45.setTop (mkF m 145 #[.val (.long q1), .second, .val (.long q2), .second, .val (.int p1), .val (.long e2_), .second, .val (.long n1_), .second, .val (.int (1 : Int32)), .val (.ref b), .val (.int (1 : Int32)), .val (.int (1 : Int32))] [(.int (1 : Int32)), (.int (1 : Int32))])) _
            refine OGo.step (fun _ kk => XS.icmpNo X45.here hx rfl (hb hby at_145) rfl (teq rfl).2 kk) ?_
            show OGo p e below (T45.setTop (mkF m 148 #[.val (.long q1), .second, .val (.long q2), .second, .val (.int p1), .val (.long e2_), .second, .val (.long n1_), .second, .val (.int (1 : Int32)), .val (.ref b), .val (.int (1 : Int32)), .val (.int (1 : Int32))] [])) _
            refine OGo.step (fun _ kk => XS.iload X45.here hx rfl (hb hby at_148) rfl kk) ?_
            show OGo p e below (T45.setTop (mkF m 150 #[.val (.long q1), .second, .val (.long q2), .second, .val (.int p1), .val (.long e2_), .second, .val (.long n1_), .second, .val (.int (1 : Int32)), .val (.ref b), .val (.int (1 : Int32)), .val (.int (1 : Int32))] [(.int (1 : Int32))])) _
            refine OGo.step (fun _ kk => XS.iload X45.here hx rfl (hb hby at_150) rfl kk) ?_
            show OGo p e below (T45.setTop (mkF m 152 #[.val (.long q1), .second, .val (.long q2), .second, .val (.int p1), .val (.long e2_), .second, .val (.long n1_), .second, .val (.int (1 : Int32)), .val (.ref b), .val (.int (1 : Int32)), .val (.int (1 : Int32))] [(.int (1 : Int32)), (.int (1 : Int32))])) _
            refine OGo.step (fun _ kk => XS.icmpNo X45.here hx rfl (hb hby at_152) rfl (teq rfl).2 kk) ?_
            show OGo p e below (T45.setTop (mkF m 155 #[.val (.long q1), .second, .val (.long q2), .second, .val (.int p1), .val (.long e2_), .second, .val (.long n1_), .second, .val (.int (1 : Int32)), .val (.ref b), .val (.int (1 : Int32)), .val (.int (1 : Int32))] [])) _
            refine OGo.step (fun _ kk => XS.iconst X45.here hx rfl (hb hby at_155) kk) ?_
            show OGo p e below (T45.setTop (mkF m 156 #[.val (.long q1), .second, .val (.long q2), .second, .val (.int p1), .val (.long e2_), .second, .val (.long n1_), .second, .val (.int (1 : Int32)), .val (.ref b), .val (.int (1 : Int32)), .val (.int (1 : Int32))] [(.int (1 : Int32))])) _
            refine OGo.step (fun _ kk => XS.goto X45.here hx rfl (pc0 := 156) (pc' := 160) rfl (hb hby at_156) (by decide) (by decide) kk) ?_
            show OGo p e below (T45.setTop (mkF m 160 #[.val (.long q1), .second, .val (.long q2), .second, .val (.int p1), .val (.long e2_), .second, .val (.long n1_), .second, .val (.int (1 : Int32)), .val (.ref b), .val (.int (1 : Int32)), .val (.int (1 : Int32))] [(.int (1 : Int32))])) _
            exact own_retN X45 hx hlk hret (by simp) (hb hby at_160) ⟨by rw [own_nar1], Nc45⟩ (by decide) (by decide)
      refine OGo.step (fun _ kk => XS.lload X0.here hx rfl (hb hby at_49) rfl kk) ?_
      show OGo p e below (s₁.setTop (mkF m 51 #[.val (.long q1), .second, .val (.long q2), .second, .val (.int p1), .val (.long e1_), .second, .val (.long n1_), .second, .unset, .unset, .unset, .unset] [(.long n1_)])) _
      refine OGo.step (fun _ kk => X0.ldc2Long hx hown (mvT hZ (hw _ (List.mem_of_getElem? (i := 0) rfl))) (g := (mkF m 51 #[.val (.long q1), .second, .val (.long q2), .second, .val (.int p1), .val (.long e1_), .second, .val (.long n1_), .second, .unset, .unset, .unset, .unset] [(.long n1_)])) rfl (hb hby at_51) _ kk) ?_
      show OGo p e below (s₁.setTop (mkF m 54 #[.val (.long q1), .second, .val (.long q2), .second, .val (.int p1), .val (.long e1_), .second, .val (.long n1_), .second, .unset, .unset, .unset, .unset] [(.long (9223372036854775807 : Int64)), (.long n1_)])) _
      refine OGo.step (fun _ kk => XS.lcmp X0.here hx rfl (hb hby at_54) rfl kk) ?_
      show OGo p e below (s₁.setTop (mkF m 55 #[.val (.long q1), .second, .val (.long q2), .second, .val (.int p1), .val (.long e1_), .second, .val (.long n1_), .second, .unset, .unset, .unset, .unset] [(.int (lcmpW n1_ (9223372036854775807 : Int64)))])) _
      by_cases hu : (lcmpW n1_ (9223372036854775807 : Int64)) = (0 : Int32)
      · refine OGo.step (fun _ kk => XS.ifNo X0.here hx rfl (hb hby at_55) rfl ((if0 _ _).trans (teq hu).2) kk) ?_
        show OGo p e below (s₁.setTop (mkF m 58 #[.val (.long q1), .second, .val (.long q2), .second, .val (.int p1), .val (.long e1_), .second, .val (.long n1_), .second, .unset, .unset, .unset, .unset] [])) _
        refine OGo.step (fun _ kk => XS.lload X0.here hx rfl (hb hby at_58) rfl kk) ?_
        show OGo p e below (s₁.setTop (mkF m 60 #[.val (.long q1), .second, .val (.long q2), .second, .val (.int p1), .val (.long e1_), .second, .val (.long n1_), .second, .unset, .unset, .unset, .unset] [(.long e1_)])) _
        refine OGo.step (fun _ kk => X0.ldc2Long hx hown (mvT hZ (hw _ (List.mem_of_getElem? (i := 0) rfl))) (g := (mkF m 60 #[.val (.long q1), .second, .val (.long q2), .second, .val (.int p1), .val (.long e1_), .second, .val (.long n1_), .second, .unset, .unset, .unset, .unset] [(.long e1_)])) rfl (hb hby at_60) _ kk) ?_
        show OGo p e below (s₁.setTop (mkF m 63 #[.val (.long q1), .second, .val (.long q2), .second, .val (.int p1), .val (.long e1_), .second, .val (.long n1_), .second, .unset, .unset, .unset, .unset] [(.long (9223372036854775807 : Int64)), (.long e1_)])) _
        refine OGo.step (fun _ kk => XS.lcmp X0.here hx rfl (hb hby at_63) rfl kk) ?_
        show OGo p e below (s₁.setTop (mkF m 64 #[.val (.long q1), .second, .val (.long q2), .second, .val (.int p1), .val (.long e1_), .second, .val (.long n1_), .second, .unset, .unset, .unset, .unset] [(.int (lcmpW e1_ (9223372036854775807 : Int64)))])) _
        by_cases hv : (lcmpW e1_ (9223372036854775807 : Int64)) = (0 : Int32)
        · refine OGo.step (fun _ kk => XS.ifNo X0.here hx rfl (hb hby at_64) rfl ((if0 _ _).trans (teq hv).2) kk) ?_
          show OGo p e below (s₁.setTop (mkF m 67 #[.val (.long q1), .second, .val (.long q2), .second, .val (.int p1), .val (.long e1_), .second, .val (.long n1_), .second, .unset, .unset, .unset, .unset] [])) _
          refine OGo.step (fun _ kk => X0.ldc2Long hx hown (mvT hZ (hw _ (List.mem_of_getElem? (i := 39) rfl))) (g := (mkF m 67 #[.val (.long q1), .second, .val (.long q2), .second, .val (.int p1), .val (.long e1_), .second, .val (.long n1_), .second, .unset, .unset, .unset, .unset] [])) rfl (hb hby at_67) _ kk) ?_
          show OGo p e below (s₁.setTop (mkF m 70 #[.val (.long q1), .second, .val (.long q2), .second, .val (.int p1), .val (.long e1_), .second, .val (.long n1_), .second, .unset, .unset, .unset, .unset] [(.long (9223372036854775806 : Int64))])) _
          refine OGo.step (fun _ kk => XS.lstore X0.here hx rfl (hb hby at_70) rfl (l' := #[.val (.long q1), .second, .val (.long q2), .second, .val (.int p1), .val (.long (9223372036854775806 : Int64)), .second, .val (.long n1_), .second, .unset, .unset, .unset, .unset]) rfl kk) ?_
          show OGo p e below (s₁.setTop (mkF m 72 #[.val (.long q1), .second, .val (.long q2), .second, .val (.int p1), .val (.long (9223372036854775806 : Int64)), .second, .val (.long n1_), .second, .unset, .unset, .unset, .unset] [])) _
          exact K72 _ (by decide) (fun z => absurd z.1 (by decide))
        · refine OGo.step (fun _ kk => XS.ifYes X0.here hx rfl (pc0 := 64) (pc' := 72) rfl (hb hby at_64) rfl ((if0 _ _).trans (feq hv).2) (by decide) (by decide) kk) ?_
          show OGo p e below (s₁.setTop (mkF m 72 #[.val (.long q1), .second, .val (.long q2), .second, .val (.int p1), .val (.long e1_), .second, .val (.long n1_), .second, .unset, .unset, .unset, .unset] [])) _
          exact K72 _ he (fun z => hv ((lw_eq _ _).mpr z.1))
      · refine OGo.step (fun _ kk => XS.ifYes X0.here hx rfl (pc0 := 55) (pc' := 72) rfl (hb hby at_55) rfl ((if0 _ _).trans (feq hu).2) (by decide) (by decide) kk) ?_
        show OGo p e below (s₁.setTop (mkF m 72 #[.val (.long q1), .second, .val (.long q2), .second, .val (.int p1), .val (.long e1_), .second, .val (.long n1_), .second, .unset, .unset, .unset, .unset] [])) _
        exact K72 _ he (fun z => hu ((lw_eq _ _).mpr z.2))
    by_cases hq : (p1 &&& (2 : Int32)) = (0 : Int32)
    · refine OGo.step (fun _ kk => XS.ifYes X0.here hx rfl (pc0 := 21) (pc' := 32) rfl (hb hby at_21) rfl ((if0 _ _).trans (teq hq).1) (by decide) (by decide) kk) ?_
      show OGo p e below (s₁.setTop (mkF m 32 #[.val (.long q1), .second, .val (.long q2), .second, .val (.int p1), .val (.long e1_), .second, .unset, .unset, .unset, .unset, .unset, .unset] [])) _
      refine OGo.step (fun _ kk => XS.lloadN X0.here hx rfl (hb hby at_32) rfl kk) ?_
      show OGo p e below (s₁.setTop (mkF m 33 #[.val (.long q1), .second, .val (.long q2), .second, .val (.int p1), .val (.long e1_), .second, .unset, .unset, .unset, .unset, .unset, .unset] [(.long q2)])) _
      refine OGo.step (fun _ kk => X0.ldc2Long hx hown (mvT hZ (hw _ (List.mem_of_getElem? (i := 0) rfl))) (g := (mkF m 33 #[.val (.long q1), .second, .val (.long q2), .second, .val (.int p1), .val (.long e1_), .second, .unset, .unset, .unset, .unset, .unset, .unset] [(.long q2)])) rfl (hb hby at_33) _ kk) ?_
      show OGo p e below (s₁.setTop (mkF m 36 #[.val (.long q1), .second, .val (.long q2), .second, .val (.int p1), .val (.long e1_), .second, .unset, .unset, .unset, .unset, .unset, .unset] [(.long (9223372036854775807 : Int64)), (.long q2)])) _
      refine OGo.step (fun _ kk => XS.land X0.here hx rfl (hb hby at_36) rfl kk) ?_
      show OGo p e below (s₁.setTop (mkF m 37 #[.val (.long q1), .second, .val (.long q2), .second, .val (.int p1), .val (.long e1_), .second, .unset, .unset, .unset, .unset, .unset, .unset] [(.long (q2 &&& (9223372036854775807 : Int64)))])) _
      refine OGo.step (fun _ kk => XS.lstore X0.here hx rfl (hb hby at_37) rfl (l' := #[.val (.long q1), .second, .val (.long q2), .second, .val (.int p1), .val (.long e1_), .second, .val (.long (q2 &&& (9223372036854775807 : Int64))), .second, .unset, .unset, .unset, .unset]) rfl kk) ?_
      show OGo p e below (s₁.setTop (mkF m 39 #[.val (.long q1), .second, .val (.long q2), .second, .val (.int p1), .val (.long e1_), .second, .val (.long (q2 &&& (9223372036854775807 : Int64))), .second, .unset, .unset, .unset, .unset] [])) _
      refine OGo.step (fun _ kk => XS.lload X0.here hx rfl (hb hby at_39) rfl kk) ?_
      show OGo p e below (s₁.setTop (mkF m 41 #[.val (.long q1), .second, .val (.long q2), .second, .val (.int p1), .val (.long e1_), .second, .val (.long (q2 &&& (9223372036854775807 : Int64))), .second, .unset, .unset, .unset, .unset] [(.long (q2 &&& (9223372036854775807 : Int64)))])) _
      refine OGo.step (fun _ kk => XS.lconst X0.here hx rfl (hb hby at_41) kk) ?_
      show OGo p e below (s₁.setTop (mkF m 42 #[.val (.long q1), .second, .val (.long q2), .second, .val (.int p1), .val (.long e1_), .second, .val (.long (q2 &&& (9223372036854775807 : Int64))), .second, .unset, .unset, .unset, .unset] [(.long (0 : Int64)), (.long (q2 &&& (9223372036854775807 : Int64)))])) _
      refine OGo.step (fun _ kk => XS.lcmp X0.here hx rfl (hb hby at_42) rfl kk) ?_
      show OGo p e below (s₁.setTop (mkF m 43 #[.val (.long q1), .second, .val (.long q2), .second, .val (.int p1), .val (.long e1_), .second, .val (.long (q2 &&& (9223372036854775807 : Int64))), .second, .unset, .unset, .unset, .unset] [(.int (lcmpW (q2 &&& (9223372036854775807 : Int64)) (0 : Int64)))])) _
      by_cases hy : (lcmpW (q2 &&& (9223372036854775807 : Int64)) (0 : Int64)) = (0 : Int32)
      · refine OGo.step (fun _ kk => XS.ifNo X0.here hx rfl (hb hby at_43) rfl ((if0 _ _).trans (teq hy).2) kk) ?_
        show OGo p e below (s₁.setTop (mkF m 46 #[.val (.long q1), .second, .val (.long q2), .second, .val (.int p1), .val (.long e1_), .second, .val (.long (q2 &&& (9223372036854775807 : Int64))), .second, .unset, .unset, .unset, .unset] [])) _
        refine OGo.step (fun _ kk => XS.lconst X0.here hx rfl (hb hby at_46) kk) ?_
        show OGo p e below (s₁.setTop (mkF m 47 #[.val (.long q1), .second, .val (.long q2), .second, .val (.int p1), .val (.long e1_), .second, .val (.long (q2 &&& (9223372036854775807 : Int64))), .second, .unset, .unset, .unset, .unset] [(.long (1 : Int64))])) _
        refine OGo.step (fun _ kk => XS.lstore X0.here hx rfl (hb hby at_47) rfl (l' := #[.val (.long q1), .second, .val (.long q2), .second, .val (.int p1), .val (.long e1_), .second, .val (.long (1 : Int64)), .second, .unset, .unset, .unset, .unset]) rfl kk) ?_
        show OGo p e below (s₁.setTop (mkF m 49 #[.val (.long q1), .second, .val (.long q2), .second, .val (.int p1), .val (.long e1_), .second, .val (.long (1 : Int64)), .second, .unset, .unset, .unset, .unset] [])) _
        exact K49 _ (by decide)
      · refine OGo.step (fun _ kk => XS.ifYes X0.here hx rfl (pc0 := 43) (pc' := 49) rfl (hb hby at_43) rfl ((if0 _ _).trans (feq hy).2) (by decide) (by decide) kk) ?_
        show OGo p e below (s₁.setTop (mkF m 49 #[.val (.long q1), .second, .val (.long q2), .second, .val (.int p1), .val (.long e1_), .second, .val (.long (q2 &&& (9223372036854775807 : Int64))), .second, .unset, .unset, .unset, .unset] [])) _
        exact K49 _ (own_msk _ (fun z => hy ((lw_eq _ _).mpr z)))
    · refine OGo.step (fun _ kk => XS.ifNo X0.here hx rfl (hb hby at_21) rfl ((if0 _ _).trans (feq hq).1) kk) ?_
      show OGo p e below (s₁.setTop (mkF m 24 #[.val (.long q1), .second, .val (.long q2), .second, .val (.int p1), .val (.long e1_), .second, .unset, .unset, .unset, .unset, .unset, .unset] [])) _
      refine OGo.step (fun _ kk => X0.ldc2Long hx hown (mvT hZ (hw _ (List.mem_of_getElem? (i := 0) rfl))) (g := (mkF m 24 #[.val (.long q1), .second, .val (.long q2), .second, .val (.int p1), .val (.long e1_), .second, .unset, .unset, .unset, .unset, .unset, .unset] [])) rfl (hb hby at_24) _ kk) ?_
      show OGo p e below (s₁.setTop (mkF m 27 #[.val (.long q1), .second, .val (.long q2), .second, .val (.int p1), .val (.long e1_), .second, .unset, .unset, .unset, .unset, .unset, .unset] [(.long (9223372036854775807 : Int64))])) _
      refine OGo.step (fun _ kk => XS.lstore X0.here hx rfl (hb hby at_27) rfl (l' := #[.val (.long q1), .second, .val (.long q2), .second, .val (.int p1), .val (.long e1_), .second, .val (.long (9223372036854775807 : Int64)), .second, .unset, .unset, .unset, .unset]) rfl kk) ?_
      show OGo p e below (s₁.setTop (mkF m 29 #[.val (.long q1), .second, .val (.long q2), .second, .val (.int p1), .val (.long e1_), .second, .val (.long (9223372036854775807 : Int64)), .second, .unset, .unset, .unset, .unset] [])) _
      refine OGo.step (fun _ kk => XS.goto X0.here hx rfl (pc0 := 29) (pc' := 49) rfl (hb hby at_29) (by decide) (by decide) kk) ?_
      show OGo p e below (s₁.setTop (mkF m 49 #[.val (.long q1), .second, .val (.long q2), .second, .val (.int p1), .val (.long e1_), .second, .val (.long (9223372036854775807 : Int64)), .second, .unset, .unset, .unset, .unset] [])) _
      exact K49 _ (by decide)
  by_cases hz : (lcmpW (q1 &&& (9223372036854775807 : Int64)) (0 : Int64)) = (0 : Int32)
  · refine OGo.step (fun _ kk => XS.ifNo X0.here hx rfl (hb hby at_11) rfl ((if0 _ _).trans (teq hz).2) kk) ?_
    show OGo p e below (s₁.setTop (mkF m 14 #[.val (.long q1), .second, .val (.long q2), .second, .val (.int p1), .val (.long (q1 &&& (9223372036854775807 : Int64))), .second, .unset, .unset, .unset, .unset, .unset, .unset] [])) _
    refine OGo.step (fun _ kk => XS.lconst X0.here hx rfl (hb hby at_14) kk) ?_
    show OGo p e below (s₁.setTop (mkF m 15 #[.val (.long q1), .second, .val (.long q2), .second, .val (.int p1), .val (.long (q1 &&& (9223372036854775807 : Int64))), .second, .unset, .unset, .unset, .unset, .unset, .unset] [(.long (1 : Int64))])) _
    refine OGo.step (fun _ kk => XS.lstore X0.here hx rfl (hb hby at_15) rfl (l' := #[.val (.long q1), .second, .val (.long q2), .second, .val (.int p1), .val (.long (1 : Int64)), .second, .unset, .unset, .unset, .unset, .unset, .unset]) rfl kk) ?_
    show OGo p e below (s₁.setTop (mkF m 17 #[.val (.long q1), .second, .val (.long q2), .second, .val (.int p1), .val (.long (1 : Int64)), .second, .unset, .unset, .unset, .unset, .unset, .unset] [])) _
    exact K17 _ (by decide)
  · refine OGo.step (fun _ kk => XS.ifYes X0.here hx rfl (pc0 := 11) (pc' := 17) rfl (hb hby at_11) rfl ((if0 _ _).trans (feq hz).2) (by decide) (by decide) kk) ?_
    show OGo p e below (s₁.setTop (mkF m 17 #[.val (.long q1), .second, .val (.long q2), .second, .val (.int p1), .val (.long (q1 &&& (9223372036854775807 : Int64))), .second, .unset, .unset, .unset, .unset, .unset, .unset] [])) _
    exact K17 _ (own_msk _ (fun z => hz ((lw_eq _ _).mpr z)))

set_option maxRecDepth 65536 in
set_option maxHeartbeats 40000000 in
theorem comes_1 {Post : Tables → Env → Array Value → State → Outcome → State → Prop} (hpost : ∀ tb e args s v u, (limb_1_1.after args s (.returned v) u = true ∧ limb_1_2.after args s (.returned v) u = true ∧ True) → FrameEnd s (.returned v) u (Jvm.fieldLocs frame_1_writes args s ++ Jvm.arrayLocs frame_1_arrays args s ++ Jvm.staticLocs frame_1_statics s) 16 128 → Post tb e args s (.returned v) u) :
    ArmFor flags0 classFile x code maxLocals ret World_1 tables_1 room_1 Calls_1 rest_1 Pre_1 Post := by
  intro l hfl _ _ p e ha hc hk s m args below hf hA hF happ hP
  obtain ⟨hcalls, hrest, hpre⟩ := hP
  obtain ⟨-, -, -, hnamed, -, -, -, hat⟩ := (Spec.applies_iff hf).mp happ
  obtain ⟨hg, hn⟩ := and_e (Cond.before_iff.mp (show (Jvm.Cond.and given_1 narrow_1).before args s = true from hpre))
  obtain ⟨k46, k46'⟩ := and_e hg
  obtain ⟨k47, k47'⟩ := and_e k46'
  obtain ⟨k48, k48'⟩ := and_e k47'
  obtain ⟨w0_, w1_, w2_, rfl⟩ : ∃ w0_ w1_ w2_ : Value, args = #[w0_, w1_, w2_] := by
    have hs : args.size = 3 := by simpa [Cond.value, given_1] using k46
    obtain ⟨L⟩ := args
    match L, hs with
    | [w0_, w1_, w2_], _ => exact ⟨w0_, w1_, w2_, rfl⟩
  have hw := fun d (hd : d ∈ tables_1) => atoms_spec (ws := Jvm.Cond.code x code maxLocals ret :: tables_1) hat d (List.mem_cons_of_mem _ hd)
  have hfit : Fit s := fun {y c} hc i hi => by
    obtain ⟨ha, rfl⟩ := Array.getElem?_eq_some_iff.mp hc
    have q := List.all_eq_true.mp ((Array.all_eq_true_iff_forall_mem.mp hF) _ (Array.getElem_mem ha)) i (List.mem_range.mpr hi)
    simpa [Array.getElem?_eq_getElem hi] using q
  obtain ⟨i0, ei0⟩ := isL_v k47
  obtain rfl : w0_ = (.long i0) := Option.some.inj ei0
  obtain ⟨i1, ei1⟩ := isL_v k48
  obtain rfl : w1_ = (.long i1) := Option.some.inj ei1
  obtain ⟨i2, ei2⟩ := is_v k48'
  obtain rfl : w2_ = (.int i2) := Option.some.inj ei2
  obtain ⟨n, o, h1, h2, h3, _, L, rfl, ⟨rfl, N⟩, hq⟩ := own_rm0 l s _ hw tables_1 i0 i1 i2  s.heap s.heap.size (Nat.le_refl _)  p e ha hc hk s m _ below hf ((Spec.applies_iff_loose hf).mp happ).1 ⟨rfl, State.Warmed39.refl s, rfl⟩ trivial
  exact ⟨n, _, h1, h2, h3, hpost _ _ _ _ _ _ ⟨Cond.after_iff.mpr rfl, Cond.after_iff.mpr (eq_i res_at (Term.int_eval (1)) rfl), trivial⟩ ⟨hq.1, hq.2.1, (hq.2.2.sift fun y hy => Or.inr (N y hy)).mono (by decide) (by decide)⟩⟩
theorem main_1_1 : Claimed_1_1 := comes_1 fun _ _ _ _ _ _ h hF => ⟨h.1, hF⟩
theorem main_1_2 : Claimed_1_2 := comes_1 fun _ _ _ _ _ _ h hF => ⟨h.2.1, hF⟩
end Jvm.Pilot.@@N@@
namespace Jvm.Pilot.@@N@@
open Jvm Jvm.ClassFile Sem Op Lib Jvm.Free Jvm.Stand Jvm.Pilot.@@N@@.Jvm.D
/-! MADE BY PROGRAM (witnessworld.py) out of the Statement's table words and the real class files: 11 classes; the members and pool entries that the words name. The judged class is class 1, her method 1. -/
namespace start1
open Jvm.ClassFile
def u (s : String) : CpInfo := .utf8 (stringToUtf16 s)
/-- a pool by its gaps: so many unusable entries, then the entry; so many at the end -/
def gap : Nat → List CpInfo → List CpInfo
  | 0, r => r
  | n + 1, r => .unusable :: gap n r
def poolList (es : List (Nat × CpInfo)) (last : Nat) : List CpInfo := es.foldr (fun e r => gap e.1 (e.2 :: r)) (gap last [])
def pool (es : List (Nat × CpInfo)) (last : Nat) : Array CpInfo := ⟨poolList es last⟩
def fileOf (pool : Array CpInfo) (this : Nat) (attrs : Array Attribute := #[]) (ms : Array MethodInfo := #[]) (fl : Nat := 33) (sup : Nat := 0) (ifs : Array Nat := #[]) (fds : Array FieldInfo := #[]) : ClassFile where
  minorVersion := 0
  majorVersion := 65
  constantPool := pool
  accessFlags := fl
  thisClass := this
  superClass := sup
  interfaces := ifs
  fields := fds
  methods := ms
  attributes := attrs
def plain (name : String) (sup : Option ClassId) : Class where
  name := name
  kind := .ordinary
  loader := none
  accessFlags := 33
  super := sup
  interfaces := #[]
  cf := none
  fields := #[]
  methods := #[]
  instanceTypes := #[]
  staticTypes := #[]
  resolved := #[]
  callSites := []
  init := .initialized
  statics := none
  mirror := none

def pool0 : Array CpInfo := pool [(5, u "<init>"), (0, u "()V"), (1, .class_ 10), (1, u "java/lang/Object")] 113

def k0c0 : Code := { maxStack := 0, maxLocals := 1, code := object_method_1_code, exceptionTable := #[], attributes := #[] }
def k0m0 : Method := { name := "<init>", desc := "()V", sig := { parameters := [], returnType := none }, accessFlags := 1, code := some k0c0 }
/-- java/lang/Object -/
def k0 : Class := { plain "java/lang/Object" none with
  accessFlags := 33
  interfaces := #[]
  cf := some (fileOf pool0 8 #[] #[{ accessFlags := 1, nameIndex := 5, descriptorIndex := 6, attributes := #[] }] 33 0 #[] #[])
  fields := #[]
  methods := #[k0m0]
  instanceTypes := #[]
  staticTypes := #[]
  resolved := Array.replicate 124 none
  statics := none }

def pool1 : Array CpInfo := pool [(2, .class_ 4), (1, u "java/lang/Object"), (0, u "<init>"), (0, u "()V"), (2, .long 9223372036854775807), (1, .long 9223372036854775806), (1, .class_ 14), (0, u "com/example/slotwise/slotwise/search/Budget"), (0, .methodref 13 16), (0, .nameAndType 5 17), (0, u "(JJZ)V"), (0, .methodref 13 19), (0, .nameAndType 20 21), (0, u "hasTimeLimit"), (0, u "()Z"), (0, .methodref 13 23), (0, .nameAndType 24 25), (0, u "used"), (0, u "(JJ)D"), (0, .class_ 27), (0, u "com/example/slotwise/slotwise/search/BudgetHasTimeLimitPinLaw"), (2, u "law"), (0, u "(JJI)Z")] 3

def k1m0 : Method := { name := "<init>", desc := "()V", sig := { parameters := [], returnType := none }, accessFlags := 1, code := none }
def k1c1 : Code := { maxStack := 8, maxLocals := 13, code := code, exceptionTable := #[], attributes := #[] }
def k1m1 : Method := { name := "law", desc := "(JJI)Z", sig := { parameters := [.long, .long, .int], returnType := some .boolean }, accessFlags := 9, code := some k1c1 }
/-- com/example/slotwise/slotwise/search/BudgetHasTimeLimitPinLaw -/
def k1 : Class := { plain "com/example/slotwise/slotwise/search/BudgetHasTimeLimitPinLaw" (some 0) with
  accessFlags := 49
  interfaces := #[]
  cf := some (fileOf pool1 26 #[] #[{ accessFlags := 1, nameIndex := 5, descriptorIndex := 6, attributes := #[] }, { accessFlags := 9, nameIndex := 30, descriptorIndex := 31, attributes := #[] }] 49 2 #[] #[])
  fields := #[]
  methods := #[k1m0, k1m1]
  instanceTypes := #[]
  staticTypes := #[]
  resolved := Array.replicate 35 none
  statics := none }

def pool2 : Array CpInfo := pool [(1, .methodref 2 3), (0, .class_ 4), (0, .nameAndType 5 6), (0, u "java/lang/Object"), (0, u "<init>"), (0, u "()V"), (0, .class_ 8), (0, u "java/lang/Record")] 13

def k2c0 : Code := { maxStack := 1, maxLocals := 1, code := jdk_30_method_1_code, exceptionTable := #[], attributes := #[] }
def k2m0 : Method := { name := "<init>", desc := "()V", sig := { parameters := [], returnType := none }, accessFlags := 4, code := some k2c0 }
/-- java/lang/Record -/
def k2 : Class := { plain "java/lang/Record" (some 0) with
  accessFlags := 1057
  interfaces := #[]
  cf := some (fileOf pool2 7 #[] #[{ accessFlags := 4, nameIndex := 5, descriptorIndex := 6, attributes := #[] }] 1057 2 #[] #[])
  fields := #[]
  methods := #[k2m0]
  instanceTypes := #[]
  staticTypes := #[]
  resolved := Array.replicate 22 none
  statics := none }

def pool3 : Array CpInfo := pool [(3, .methodref 4 5), (0, .class_ 6), (0, .nameAndType 7 8), (0, u "java/lang/Record"), (0, u "<init>"), (0, u "()V"), (9, .class_ 19), (0, u "com/example/slotwise/slotwise/search/Budget"), (0, .long 9223372036854775807), (3, .fieldref 18 25), (0, .nameAndType 26 27), (0, u "evaluations"), (0, u "J"), (0, .fieldref 18 29), (0, .nameAndType 30 27), (0, u "nanos"), (0, .fieldref 18 32), (0, .nameAndType 33 34), (0, u "stopWhenFeasible"), (0, u "Z"), (2, u "(JJZ)V"), (0, .methodref 39 40), (0, .class_ 41), (0, .nameAndType 42 43), (0, u "java/lang/Math"), (0, u "max"), (0, u "(DD)D"), (0, .methodref 39 45), (0, .nameAndType 46 43), (0, u "min"), (12, u "UNLIMITED"), (5, u "hasTimeLimit"), (0, u "()Z"), (2, u "used"), (0, u "(JJ)D")] 34

def k3c0 : Code := { maxStack := 6, maxLocals := 6, code := prog_44_method_1_code, exceptionTable := #[], attributes := #[] }
def k3m0 : Method := { name := "<init>", desc := "(JJZ)V", sig := { parameters := [.long, .long, .boolean], returnType := none }, accessFlags := 1, code := some k3c0 }
def k3c1 : Code := { maxStack := 4, maxLocals := 1, code := prog_44_method_2_code, exceptionTable := #[], attributes := #[] }
def k3m1 : Method := { name := "hasTimeLimit", desc := "()Z", sig := { parameters := [], returnType := some .boolean }, accessFlags := 1, code := some k3c1 }
def k3c2 : Code := { maxStack := 6, maxLocals := 9, code := prog_44_method_4_code, exceptionTable := #[], attributes := #[] }
def k3m2 : Method := { name := "used", desc := "(JJ)D", sig := { parameters := [.long, .long], returnType := some .double }, accessFlags := 0, code := some k3c2 }
/-- com/example/slotwise/slotwise/search/Budget -/
def k3 : Class := { plain "com/example/slotwise/slotwise/search/Budget" (some 2) with
  accessFlags := 49
  interfaces := #[]
  cf := some (fileOf pool3 18 #[] #[{ accessFlags := 1, nameIndex := 7, descriptorIndex := 37, attributes := #[] }, { accessFlags := 1, nameIndex := 65, descriptorIndex := 66, attributes := #[] }, { accessFlags := 0, nameIndex := 69, descriptorIndex := 70, attributes := #[] }] 49 4 #[] #[{ accessFlags := 18, nameIndex := 26, descriptorIndex := 27, attributes := #[] }, { accessFlags := 18, nameIndex := 30, descriptorIndex := 27, attributes := #[] }, { accessFlags := 18, nameIndex := 33, descriptorIndex := 34, attributes := #[] }, { accessFlags := 25, nameIndex := 59, descriptorIndex := 27, attributes := #[] }])
  fields := #[{ name := "evaluations", type := .long, accessFlags := 18, slot := 0, constantValue := 0 }, { name := "nanos", type := .long, accessFlags := 18, slot := 1, constantValue := 0 }, { name := "stopWhenFeasible", type := .boolean, accessFlags := 18, slot := 2, constantValue := 0 }, { name := "UNLIMITED", type := .long, accessFlags := 25, slot := 0, constantValue := 0 }]
  methods := #[k3m0, k3m1, k3m2]
  instanceTypes := #[.long, .long, .boolean]
  staticTypes := #[.long]
  resolved := Array.replicate 105 none
  statics := none }

def pool4 : Array CpInfo := pool [(1, .class_ 2), (0, u "java/lang/Math"), (1, .class_ 6), (1, u "java/lang/Object"), (0, u "<init>"), (0, u "()V"), (43, u "(DD)D"), (45, .class_ 100), (1, u "java/lang/Math$RandomNumberGeneratorHolder"), (71, u "negativeZeroFloatBits"), (0, u "J"), (2, u "negativeZeroDoubleBits"), (21, u "max"), (2, u "min"), (43, u "$assertionsDisabled"), (0, u "Z"), (91, u "twoToTheDoubleScaleDown"), (0, u "D"), (4, u "twoToTheDoubleScaleUp"), (9, u "E"), (3, u "PI"), (2, u "TAU"), (2, u "DEGREES_TO_RADIANS"), (0, u "RADIANS_TO_DEGREES")] 94

def k4m0 : Method := { name := "<init>", desc := "()V", sig := { parameters := [], returnType := none }, accessFlags := 2, code := none }
def k4c1 : Code := { maxStack := 4, maxLocals := 4, code := jdk_29_method_68_code, exceptionTable := #[], attributes := #[] }
def k4m1 : Method := { name := "max", desc := "(DD)D", sig := { parameters := [.double, .double], returnType := some .double }, accessFlags := 9, code := some k4c1 }
def k4c2 : Code := { maxStack := 4, maxLocals := 4, code := jdk_29_method_72_code, exceptionTable := #[], attributes := #[] }
def k4m2 : Method := { name := "min", desc := "(DD)D", sig := { parameters := [.double, .double], returnType := some .double }, accessFlags := 9, code := some k4c2 }
/-- java/lang/Math -/
def k4 : Class := { plain "java/lang/Math" (some 0) with
  accessFlags := 49
  interfaces := #[]
  cf := some (fileOf pool4 1 #[.nestMembers #[98]] #[{ accessFlags := 2, nameIndex := 7, descriptorIndex := 8, attributes := #[] }, { accessFlags := 9, nameIndex := 198, descriptorIndex := 52, attributes := #[] }, { accessFlags := 9, nameIndex := 201, descriptorIndex := 52, attributes := #[] }] 49 4 #[] #[{ accessFlags := 25, nameIndex := 354, descriptorIndex := 339, attributes := #[] }, { accessFlags := 25, nameIndex := 358, descriptorIndex := 339, attributes := #[] }, { accessFlags := 25, nameIndex := 361, descriptorIndex := 339, attributes := #[] }, { accessFlags := 26, nameIndex := 364, descriptorIndex := 339, attributes := #[] }, { accessFlags := 26, nameIndex := 365, descriptorIndex := 339, attributes := #[] }, { accessFlags := 26, nameIndex := 172, descriptorIndex := 173, attributes := #[] }, { accessFlags := 26, nameIndex := 176, descriptorIndex := 173, attributes := #[] }, { accessFlags := 8, nameIndex := 344, descriptorIndex := 339, attributes := #[] }, { accessFlags := 8, nameIndex := 338, descriptorIndex := 339, attributes := #[] }, { accessFlags := 4120, nameIndex := 245, descriptorIndex := 246, attributes := #[] }])
  fields := #[{ name := "E", type := .double, accessFlags := 25, slot := 0, constantValue := 0 }, { name := "PI", type := .double, accessFlags := 25, slot := 1, constantValue := 0 }, { name := "TAU", type := .double, accessFlags := 25, slot := 2, constantValue := 0 }, { name := "DEGREES_TO_RADIANS", type := .double, accessFlags := 26, slot := 3, constantValue := 0 }, { name := "RADIANS_TO_DEGREES", type := .double, accessFlags := 26, slot := 4, constantValue := 0 }, { name := "negativeZeroFloatBits", type := .long, accessFlags := 26, slot := 5, constantValue := 0 }, { name := "negativeZeroDoubleBits", type := .long, accessFlags := 26, slot := 6, constantValue := 0 }, { name := "twoToTheDoubleScaleUp", type := .double, accessFlags := 8, slot := 7, constantValue := 0 }, { name := "twoToTheDoubleScaleDown", type := .double, accessFlags := 8, slot := 8, constantValue := 0 }, { name := "$assertionsDisabled", type := .boolean, accessFlags := 4120, slot := 9, constantValue := 0 }]
  methods := #[k4m0, k4m1, k4m2]
  instanceTypes := #[]
  staticTypes := #[.double, .double, .double, .double, .double, .long, .long, .double, .double, .boolean]
  resolved := Array.replicate 460 none
  statics := none }

def pool5 : Array CpInfo := pool [(1, u "java/lang/Cloneable"), (0, .class_ 1), (0, u "java/lang/Object"), (0, .class_ 3)] 3

/-- java/lang/Cloneable -/
def k5 : Class := { plain "java/lang/Cloneable" (some 0) with
  accessFlags := 1537
  interfaces := #[]
  cf := some (fileOf pool5 2 #[] #[] 1537 4 #[] #[])
  fields := #[]
  methods := #[]
  instanceTypes := #[]
  staticTypes := #[]
  resolved := Array.replicate 8 none
  statics := none }

def pool6 : Array CpInfo := pool [(1, u "java/io/Serializable"), (0, .class_ 1), (0, u "java/lang/Object"), (0, .class_ 3)] 3

/-- java/io/Serializable -/
def k6 : Class := { plain "java/io/Serializable" (some 0) with
  accessFlags := 1537
  interfaces := #[]
  cf := some (fileOf pool6 2 #[] #[] 1537 4 #[] #[])
  fields := #[]
  methods := #[]
  instanceTypes := #[]
  staticTypes := #[]
  resolved := Array.replicate 8 none
  statics := none }

/-- the primitive byte -/
def k7 : Class := { plain "byte" none with kind := .primitive 'B', accessFlags := 0x411 }
/-- [B -/
def k8 : Class := { plain "[B" (some 0) with kind := .array 7 .byte, interfaces := #[5, 6], accessFlags := 1041 }

/-- the primitive int -/
def k9 : Class := { plain "int" none with kind := .primitive 'I', accessFlags := 0x411 }
/-- [I -/
def k10 : Class := { plain "[I" (some 0) with kind := .array 9 .int, interfaces := #[5, 6], accessFlags := 1041 }

def heap : Heap := #[]
def classes : Array Class := #[k0, k1, k2, k3, k4, k5, k6, k7, k8, k9, k10]
def interned : List (Array UInt16 × Addr) := []
def slotsUsed : Nat := 0
def theMethod : MethodId := ⟨1, 1⟩
def args0 : Array Value := #[.long 5, .long 7, .int 1]
def aboutOver (below : List Frame) : State where
  vm := { classes := classes, interned := interned.toArray }
  heap := heap
  slotsUsed := slotsUsed
  threads := #[{ frames := .invoking theMethod args0 :: below }]
def below0 : List Frame := [.native { method := ⟨0, 0⟩, args := #[] }]
def about1 : State := aboutOver below0
def p0 : Program := .bare "" "" ""
def e0 : Env := launch0.env 0 0 0
theorem w_frames : about1.frames = Frame.invoking theMethod args0 :: below0 := rfl
set_option maxRecDepth 65536 in
theorem w_args : argsFit about1.vm theMethod args0 = true := by decide +kernel
set_option maxRecDepth 65536 in
theorem w_heap : heapFits about1 = true := by decide +kernel
set_option maxRecDepth 65536 in
theorem w_runnable : about1.curStatus? = some .runnable := by decide +kernel
set_option maxRecDepth 65536 in
theorem w_alone : about1.alone = true := by decide +kernel
set_option maxRecDepth 65536 in
theorem w_named : about1.methodNamed? x = some theMethod := by decide +kernel
set_option maxRecDepth 65536 in
theorem w_hears : about1.hears theMethod below0 = true := by decide +kernel
set_option maxRecDepth 65536 in
theorem w_ripe : about1.ripe theMethod args0 below0 = true := by decide +kernel
theorem w_running : about1.status = .running := rfl
set_option maxRecDepth 65536 in
theorem w_room : about1.hasRoom e0.platform room_1 = true :=
  launch0.hasRoom_least _ room_1 (by decide +kernel) (by decide +kernel) (by decide +kernel) (by decide +kernel) (by decide +kernel) (by decide +kernel)
theorem allAtoms_all (ts : List Jvm.Cond) (a : Array Jvm.Value) (st : Jvm.State) : (allAtoms ts).before a st = ts.all (fun c => c.before a st) := by
  induction ts with
  | nil => rfl
  | cons c t ih =>
    show (Jvm.Cond.and c (allAtoms t)).before a st = _
    rw [Jvm.Cond.before_and, ih, List.all_cons]
def words1 : List Jvm.Cond := Jvm.Cond.code x code maxLocals ret :: tables_1
/-- a 'code' word, met by the world's own term for the bytes: nothing is compared byte by byte -/
theorem code_word {y : MethodName} {bytes : ByteArray} {mx : Nat} {rt : Option FieldType} {a : Array Value} {s : State} {m : MethodId} {meth : Method} {c : Code} (h1 : s.methodNamed? y = some m) (h2 : s.vm.method? m = some meth) (h3 : meth.code = some c) (h4 : c.code = bytes)
    (h5 : (c.maxLocals == mx && c.exceptionTable.isEmpty && decide (c.maxStack ≤ mostOperands) && decide (meth.sig.returnType = rt) && !meth.locks && decide (parseMethodDescriptor y.desc = some meth.sig)) = true) : (Jvm.Cond.code y bytes mx rt).before a s = true := by
  simp only [Bool.and_eq_true, beq_iff_eq, Bool.not_eq_true', decide_eq_true_eq] at h5
  obtain ⟨⟨⟨⟨⟨g1, g2⟩, g3⟩, g4⟩, g5⟩, g6⟩ := h5
  simp [Cond.before, Cond.holds, Cond.value, h1, h2, h3, h4, g1, g2, g3, g4, g5, g6]
def isCode : Jvm.Cond → Bool
  | .code _ _ _ _ => true
  | _ => false
theorem all_split {L : List Jvm.Cond} {P : Jvm.Cond → Bool} (h1 : L.all (fun c => isCode c || P c) = true) (h2 : ∀ c ∈ L.filter isCode, P c = true) : L.all P = true := by
  refine List.all_eq_true.mpr fun c hc => ?_
  have h := List.all_eq_true.mp h1 c hc
  rcases Bool.eq_false_or_eq_true (isCode c) with hi | hi
  · exact h2 c (List.mem_filter.mpr ⟨hc, hi⟩)
  · simpa [hi] using h
set_option maxRecDepth 65536 in
theorem w_c0 : (Jvm.Cond.code x code maxLocals ret).before args0 about1 = true := code_word (m := ⟨1, 1⟩) (meth := k1m1) (c := k1c1) (by decide +kernel) rfl rfl rfl (by decide +kernel)
set_option maxRecDepth 65536 in
theorem w_c1 : (Jvm.Cond.code ({ cls := "com/example/slotwise/slotwise/search/Budget", name := "<init>", desc := "(JJZ)V" } : Jvm.MethodName) prog_44_method_1_code (6 : Nat) (Option.none : Option Jvm.ClassFile.FieldType)).before args0 about1 = true := code_word (m := ⟨3, 0⟩) (meth := k3m0) (c := k3c0) (by decide +kernel) rfl rfl rfl (by decide +kernel)
set_option maxRecDepth 65536 in
theorem w_c2 : (Jvm.Cond.code ({ cls := "java/lang/Record", name := "<init>", desc := "()V" } : Jvm.MethodName) jdk_30_method_1_code (1 : Nat) (Option.none : Option Jvm.ClassFile.FieldType)).before args0 about1 = true := code_word (m := ⟨2, 0⟩) (meth := k2m0) (c := k2c0) (by decide +kernel) rfl rfl rfl (by decide +kernel)
set_option maxRecDepth 65536 in
theorem w_c3 : (Jvm.Cond.code ({ cls := "java/lang/Object", name := "<init>", desc := "()V" } : Jvm.MethodName) object_method_1_code (1 : Nat) (Option.none : Option Jvm.ClassFile.FieldType)).before args0 about1 = true := code_word (m := ⟨0, 0⟩) (meth := k0m0) (c := k0c0) (by decide +kernel) rfl rfl rfl (by decide +kernel)
set_option maxRecDepth 65536 in
theorem w_c4 : (Jvm.Cond.code ({ cls := "com/example/slotwise/slotwise/search/Budget", name := "hasTimeLimit", desc := "()Z" } : Jvm.MethodName) prog_44_method_2_code (1 : Nat) (Option.some Jvm.ClassFile.FieldType.boolean)).before args0 about1 = true := code_word (m := ⟨3, 1⟩) (meth := k3m1) (c := k3c1) (by decide +kernel) rfl rfl rfl (by decide +kernel)
set_option maxRecDepth 65536 in
theorem w_c5 : (Jvm.Cond.code ({ cls := "com/example/slotwise/slotwise/search/Budget", name := "used", desc := "(JJ)D" } : Jvm.MethodName) prog_44_method_4_code (9 : Nat) (Option.some Jvm.ClassFile.FieldType.double)).before args0 about1 = true := code_word (m := ⟨3, 2⟩) (meth := k3m2) (c := k3c2) (by decide +kernel) rfl rfl rfl (by decide +kernel)
set_option maxRecDepth 65536 in
theorem w_c6 : (Jvm.Cond.code ({ cls := "java/lang/Math", name := "max", desc := "(DD)D" } : Jvm.MethodName) jdk_29_method_68_code (4 : Nat) (Option.some Jvm.ClassFile.FieldType.double)).before args0 about1 = true := code_word (m := ⟨4, 1⟩) (meth := k4m1) (c := k4c1) (by decide +kernel) rfl rfl rfl (by decide +kernel)
set_option maxRecDepth 65536 in
theorem w_c7 : (Jvm.Cond.code ({ cls := "java/lang/Math", name := "min", desc := "(DD)D" } : Jvm.MethodName) jdk_29_method_72_code (4 : Nat) (Option.some Jvm.ClassFile.FieldType.double)).before args0 about1 = true := code_word (m := ⟨4, 2⟩) (meth := k4m2) (c := k4c2) (by decide +kernel) rfl rfl rfl (by decide +kernel)
def codes1 : List Jvm.Cond := [Jvm.Cond.code x code maxLocals ret, Jvm.Cond.code ({ cls := "com/example/slotwise/slotwise/search/Budget", name := "<init>", desc := "(JJZ)V" } : Jvm.MethodName) prog_44_method_1_code (6 : Nat) (Option.none : Option Jvm.ClassFile.FieldType), Jvm.Cond.code ({ cls := "java/lang/Record", name := "<init>", desc := "()V" } : Jvm.MethodName) jdk_30_method_1_code (1 : Nat) (Option.none : Option Jvm.ClassFile.FieldType), Jvm.Cond.code ({ cls := "java/lang/Object", name := "<init>", desc := "()V" } : Jvm.MethodName) object_method_1_code (1 : Nat) (Option.none : Option Jvm.ClassFile.FieldType), Jvm.Cond.code ({ cls := "com/example/slotwise/slotwise/search/Budget", name := "hasTimeLimit", desc := "()Z" } : Jvm.MethodName) prog_44_method_2_code (1 : Nat) (Option.some Jvm.ClassFile.FieldType.boolean), Jvm.Cond.code ({ cls := "com/example/slotwise/slotwise/search/Budget", name := "used", desc := "(JJ)D" } : Jvm.MethodName) prog_44_method_4_code (9 : Nat) (Option.some Jvm.ClassFile.FieldType.double), Jvm.Cond.code ({ cls := "java/lang/Math", name := "max", desc := "(DD)D" } : Jvm.MethodName) jdk_29_method_68_code (4 : Nat) (Option.some Jvm.ClassFile.FieldType.double), Jvm.Cond.code ({ cls := "java/lang/Math", name := "min", desc := "(DD)D" } : Jvm.MethodName) jdk_29_method_72_code (4 : Nat) (Option.some Jvm.ClassFile.FieldType.double)]
set_option maxRecDepth 65536 in
theorem codes_eq : words1.filter isCode = codes1 := rfl
theorem w_codes : ∀ c ∈ words1.filter isCode, c.before args0 about1 = true := by
  rw [codes_eq]
  intro c hc
  simp only [codes1, List.mem_cons, List.not_mem_nil, or_false] at hc
  rcases hc with rfl | rfl | rfl | rfl | rfl | rfl | rfl | rfl
  · exact w_c0
  · exact w_c1
  · exact w_c2
  · exact w_c3
  · exact w_c4
  · exact w_c5
  · exact w_c6
  · exact w_c7
set_option maxRecDepth 65536 in
theorem w_t1 : (words1.take 24).all (fun c => isCode c || c.before args0 about1) = true := by decide +kernel
set_option maxRecDepth 65536 in
theorem w_t2 : (words1.drop 24).all (fun c => isCode c || c.before args0 about1) = true := by decide +kernel
theorem w_tables : (allAtoms (Jvm.Cond.code x code maxLocals ret :: tables_1)).before args0 about1 = true := by
  rw [allAtoms_all]
  show words1.all (fun c => c.before args0 about1) = true
  refine all_split ?_ w_codes
  rw [← List.take_append_drop 24 words1, List.all_append, w_t1, w_t2]
  rfl
set_option maxRecDepth 65536 in
theorem w_case : (Jvm.Cond.and given_1 narrow_1).before args0 about1 = true := by decide +kernel
theorem w_applies : (headSpec (Jvm.Cond.code x code maxLocals ret :: tables_1) room_1).applies x e0.platform about1 = true :=
  (Spec.applies_iff w_frames).mpr ⟨w_running, w_runnable, w_alone, w_named, w_hears, w_ripe, w_room, w_tables⟩
theorem atStart : AtStart classFile x code maxLocals ret World_1 tables_1 room_1 Calls_1 rest_1 Pre_1 launch0 p0 e0 about1 theMethod args0 below0 :=
  ⟨lists_1, trivial, launch0.admits_env _ _ _, launch0.least_env, fairChoices_fair.cas, fairChoices_fair.clock, w_frames, w_args, w_heap, w_applies, trivial, trivial, w_case⟩
end start1
theorem witness_1 : WitnessClaimed_1 := ⟨start1.p0, start1.e0, start1.about1, start1.theMethod, start1.args0, start1.below0, start1.atStart⟩
end Jvm.Pilot.@@N@@
