import JvmDerived
import JvmDerived.Pilot.@@N@@Statement
import JvmDerived.Pilot.@@N@@Code
set_option linter.unusedVariables false
set_option linter.unusedSimpArgs false
@@BLOCK:NumsL.lean.txt@@
namespace Jvm.Pilot.@@N@@
open Jvm Jvm.ClassFile Sem Op Lib Jvm.Free Jvm.Stand Jvm.LawKit Jvm.RoadKit Bundle Jvm.Pilot.@@N@@.Jvm.D
section Own
variable {p : Program} {l : Launch} {e : Env} {R : Room} {s : State} {m : MethodId} {args : Array Value} {below : List Frame} {meth : Method} {c : Code} {T : State} {locs : List Loc} {cells slots : Nat} {Z : State} {a0 : Array Value} {h : Heap}
/-- from U the run comes to the method's end, and P holds there -/
def OGo (p : Program) (e : Env) (below : List Frame) (U : State) (P : State → Outcome → Prop) : Prop :=
  ∃ t o, Steps p.tables e below U t ∧ t.status = .running ∧ Ended t below o ∧ P t o
theorem OGo.step {U U' : State} {P : State → Outcome → Prop} (k : ∀ t, Steps p.tables e below U' t → Steps p.tables e below U t) (g : OGo p e below U' P) : OGo p e below U P := by
  obtain ⟨t, o, h1, h2⟩ := g
  exact ⟨t, o, k t h1, h2⟩
def OEnd (s : State) (Q : Option Value → Heap → List Loc → Prop) (kc ks : Nat) (t : State) (o : Outcome) : Prop :=
  ∃ v L, o = .returned v ∧ Q v t.heap L ∧ FrameEnd s o t L kc ks
/-- the contract of one body, at one array of arguments and one heap -/
abbrev OMet (l : Launch) (Z : State) (y : MethodName) (bytes : ByteArray) (maxL : Nat) (ret : Option FieldType) (ws : List Jvm.Cond) (rm : Room) (as' : Array Value) (h0 : Heap) (Q : Option Value → Heap → List Loc → Prop) : Prop :=
  MetFree l y (head1 (Jvm.Cond.code y bytes maxL ret :: ws) rm) (fun a U => a = as' ∧ Z.Warmed39 U.vm ∧ U.heap = h0) (fun _ _ _ _ _ => True) (fun _ U o U' => ∃ v L, o = .returned v ∧ Q v U'.heap L ∧ FrameEnd U o U' L rm.cells rm.slots)
theorem OMet.body {y : MethodName} {bytes : ByteArray} {maxL : Nat} {ret : Option FieldType} {ws : List Jvm.Cond} {rm : Room} {as' : Array Value} {h0 : Heap} {Q : Option Value → Heap → List Loc → Prop} (hpn : plainFor y = true)
    (b : ∀ (p : Program) (e : Env) (s : State) (m : MethodId) (below : List Frame) (meth : Method) (c : Code) (s₁ : State), p.tables.exec = Jvm.exec → c.code = bytes → c.maxLocals = maxL → s.vm.findClass y.cls = some m.cls → meth.name = y.name → meth.sig.returnType = ret → meth.locks = false → Z.Warmed39 s.vm →
      Stand p l e rm s m as' below meth c s₁ [] 0 0 → s₁.heap = h0 → OGo p e below (s₁.setTop (entryFrame m as' maxL)) (OEnd s Q rm.cells rm.slots)) : OMet l Z y bytes maxL ret ws rm as' h0 Q := by
  refine MetFree.of_bodySF hpn hisR ?_
  intro p e s m args below meth c s₁ Bd hml0 hP hK
  obtain ⟨rfl, hZ, hh⟩ := hP
  exact b p e s m below meth c s₁ Bd.exec Bd.bytes hml0 (findClass_of_methodNamed Bd.named) (name_of_methodNamed Bd.named Bd.method).1 Bd.returns Bd.notSynchronized hZ (Stand.of_body Bd) (by rw [← hh, Bd.state]; rfl)
theorem own_ret (X : Stand p l e R s m args below meth c T locs cells slots) (hx : p.tables.exec = Jvm.exec) (hlk : meth.locks = false) {pc : Nat} {Ls : Array Slot} {w : Value} {t : FieldType} {i : Instr} {rest : List Value} (hret : meth.sig.returnType = some t) (hn : narrow t w = w)
    (hi : (i = .ireturn ∧ (t = .int ∨ t = .boolean ∨ t = .byte ∨ t = .char ∨ t = .short) ∧ ∃ z, w = .int z) ∨ (i = .lreturn ∧ t = .long ∧ ∃ z, w = .long z) ∨ (i = .dreturn ∧ t = .double ∧ ∃ z, w = .double z) ∨ (i = .freturn ∧ t = .float ∧ ∃ z, w = .float z) ∨ (i = .areturn ∧ t.isReference = true ∧ w.isRef = true))
    (hd : decode c.code pc = .ok (i, 1)) {Q : Option Value → Heap → List Loc → Prop} {kc ks : Nat} (hQ : Q (some w) T.heap locs) (h1 : cells ≤ kc) (h2 : slots ≤ ks) : OGo p e below (T.setTop (mkF m pc Ls (w :: rest))) (OEnd s Q kc ks) := by
  obtain ⟨fs, hr, hrun, hended, hW, hsame⟩ := X.leave (v := some w) (fun h => by rw [hret] at h; cases h) hlk
  exact ⟨_, _, retOut X hx hret hn hi hd hr, hrun, hended, _, _, rfl, hQ, ⟨_, rfl⟩, hW, hsame.mono h1 h2⟩
theorem own_retN (X : Stand p l e R s m args below meth c T locs cells slots) (hx : p.tables.exec = Jvm.exec) (hlk : meth.locks = false) {pc : Nat} {Ls : Array Slot} {z : Int32} {t : FieldType} {rest : List Value} (hret : meth.sig.returnType = some t) (ht : t = .boolean ∨ t = .byte ∨ t = .char ∨ t = .short)
    (hd : decode c.code pc = .ok (.ireturn, 1)) {Q : Option Value → Heap → List Loc → Prop} {kc ks : Nat} (hQ : Q (some (.int (nar t z))) T.heap locs) (h1 : cells ≤ kc) (h2 : slots ≤ ks) : OGo p e below (T.setTop (mkF m pc Ls (.int z :: rest))) (OEnd s Q kc ks) := by
  obtain ⟨fs, hr, hrun, hended, hW, hsame⟩ := X.leave (v := some (.int (nar t z))) (fun h => by rw [hret] at h; cases h) hlk
  exact ⟨_, _, retN X hx hret ht hd hr, hrun, hended, _, _, rfl, hQ, ⟨_, rfl⟩, hW, hsame.mono h1 h2⟩
theorem own_ret0 (X : Stand p l e R s m args below meth c T locs cells slots) (hx : p.tables.exec = Jvm.exec) (hlk : meth.locks = false) {pc : Nat} {Ls : Array Slot} (hret : meth.sig.returnType = none)
    (hd : decode c.code pc = .ok (.return_, 1)) {Q : Option Value → Heap → List Loc → Prop} {kc ks : Nat} (hQ : Q none T.heap locs) (h1 : cells ≤ kc) (h2 : slots ≤ ks) : OGo p e below (T.setTop (mkF m pc Ls [])) (OEnd s Q kc ks) := by
  obtain ⟨fs, hr, hrun, hended, hW, hsame⟩ := X.leave (v := none) (fun _ => rfl) hlk
  exact ⟨_, _, X.returnOut hx hret hd hr, hrun, hended, _, _, rfl, hQ, ⟨_, rfl⟩, hW, hsame.mono h1 h2⟩
/-- who pays a call: at these arguments and this heap -/
abbrev OBack (l : Launch) (R : Room) (p : Program) (e : Env) (below : List Frame) (s : State) (args : Array Value) (y : MethodName) (len W : Nat) (as' : Array Value) (h : Heap) (kc ks : Nat) (Q : Option Value → Heap → List Loc → Prop) : Prop :=
  Back l R p e below s args y len W (fun P a => a = as' ∧ P.U.heap = h ∧ P.cells + kc ≤ R.cells ∧ P.slots + ks ≤ R.slots) (fun P _ v B => ∃ L, Q v B.U.heap L ∧ B.locs = P.locs ++ L ∧ B.cells = P.cells + kc ∧ B.slots = P.slots + ks)
/-- a static call by the callee's contract -/
theorem own_callSK (X : Stand p l e R s m args below meth c T locs cells slots) (hx : p.tables.exec = Jvm.exec) (hZ : Z.Warmed39 s.vm) {own : String} {index : Nat} {y : MethodName} {bytes : ByteArray} {maxL : Nat} {ret : Option FieldType}
    (hown : s.vm.findClass own = some m.cls) (w1 : (Jvm.Cond.methodLink own index y).before a0 Z = true) (w2 : (Jvm.Cond.static y).before a0 Z = true) (w3 : (Jvm.Cond.initialized y.cls).before a0 Z = true)
    (w4 : (Jvm.Cond.code y bytes maxL ret).before a0 Z = true) (hy : y.cls ≠ "java/lang/invoke/MethodHandle" ∧ y.cls ≠ "java/lang/invoke/VarHandle")
    {W : Nat} {kc ks : Nat} {argsL rest : List Value} {Q : Option Value → Heap → List Loc → Prop} (hK : OBack l R p e below s args y 3 W argsL.toArray h kc ks Q) (eT : T.heap = h)
    {pc : Nat} {Ls : Array Slot} (hsize : Ls.size = c.maxLocals) (hlen : ∀ sig, parseMethodDescriptor y.desc = some sig → argsL.length = sig.parameters.length) (hW : (rest.map fun v => v.category).sum = W)
    (hd : decode c.code pc = .ok (.invokestatic index, 3)) (hc : cells + kc ≤ R.cells) (hs : slots + ks ≤ R.slots) {P : State → Outcome → Prop}
    (k : ∀ (v : Option Value) (T' : State) (L : List Loc), Stand p l e R s m args below meth c T' (locs ++ L) (cells + kc) (slots + ks) → Q v T'.heap L → OGo p e below (T'.setTop (mkF m (pc + 3) Ls (v.toList ++ rest))) P) :
    OGo p e below (T.setTop (mkF m pc Ls (argsL.reverse ++ rest))) P := by
  obtain ⟨v, vm, ⟨T', L', k', n'⟩, -, X', ⟨L, hQ, l1, y1, z1⟩, st⟩ := Jvm.LawKit.callS X hx (y := y) hown (mvT hZ w1) (mvT hZ w2) (mvT hZ w3) (mvT hZ w4) hy hK (g := mkF m pc Ls (argsL.reverse ++ rest)) rfl hsize (argsL := argsL) (rest := rest) hlen rfl
    (by show 2 * 0 + _ ≤ _; rw [hW]; omega) hd (fun _ _ => ⟨rfl, eT, hc, hs⟩)
  dsimp only [Pt.U, Pt.locs, Pt.cells, Pt.slots] at X' l1 y1 z1 st hQ
  subst l1 y1 z1
  exact OGo.step st (k v T' L X' hQ)
theorem own_callS (X : Stand p l e R s m args below meth c T locs cells slots) (hx : p.tables.exec = Jvm.exec) (hZ : Z.Warmed39 s.vm) {own : String} {index : Nat} {y : MethodName} {bytes : ByteArray} {maxL : Nat} {ret : Option FieldType}
    (hown : s.vm.findClass own = some m.cls) (w1 : (Jvm.Cond.methodLink own index y).before a0 Z = true) (w2 : (Jvm.Cond.static y).before a0 Z = true) (w3 : (Jvm.Cond.initialized y.cls).before a0 Z = true)
    (w4 : (Jvm.Cond.code y bytes maxL ret).before a0 Z = true) (hy : y.cls ≠ "java/lang/invoke/MethodHandle" ∧ y.cls ≠ "java/lang/invoke/VarHandle")
    {W : Nat} {rm : Room} {argsL rest : List Value} {Q : Option Value → Heap → List Loc → Prop} (hM : OMet l Z y bytes maxL ret [] rm argsL.toArray h Q) (eT : T.heap = h)
    {pc : Nat} {Ls : Array Slot} (hsize : Ls.size = c.maxLocals) (hlen : ∀ sig, parseMethodDescriptor y.desc = some sig → argsL.length = sig.parameters.length) (hW : (rest.map fun v => v.category).sum = W)
    (hd : decode c.code pc = .ok (.invokestatic index, 3)) (hf : rm.frames + 1 ≤ R.frames) (hl : W + (maxL + 11) + rm.locals ≤ R.locals) (hc : cells + rm.cells ≤ R.cells) (hs : slots + rm.slots ≤ R.slots) {P : State → Outcome → Prop}
    (k : ∀ (v : Option Value) (T' : State) (L : List Loc), Stand p l e R s m args below meth c T' (locs ++ L) (cells + rm.cells) (slots + rm.slots) → Q v T'.heap L → OGo p e below (T'.setTop (mkF m (pc + 3) Ls (v.toList ++ rest))) P) :
    OGo p e below (T.setTop (mkF m pc Ls (argsL.reverse ++ rest))) P := 
  own_callSK X hx hZ hown w1 w2 w3 w4 hy (backOf (W := W) hM hZ w4 w3 hf hl) eT hsize hlen hW hd hc hs k
/-- a constructor by its contract -/
theorem own_specialK (X : Stand p l e R s m args below meth c T locs cells slots) (hx : p.tables.exec = Jvm.exec) (hZ : Z.Warmed39 s.vm) {own : String} {index : Nat} {y : MethodName} {bytes : ByteArray} {maxL : Nat} (hy1 : y.name = "<init>")
    (hown : s.vm.findClass own = some m.cls) (w1 : (Jvm.Cond.methodLink own index y).before a0 Z = true) (w2 : (Jvm.Cond.instanceMethod y).before a0 Z = true)
    (w4 : (Jvm.Cond.code y bytes maxL none).before a0 Z = true) (hy : y.cls ≠ "java/lang/invoke/MethodHandle" ∧ y.cls ≠ "java/lang/invoke/VarHandle") {a : Addr}
    {W : Nat} {kc ks : Nat} {argsL rest : List Value} {Q : Option Value → Heap → List Loc → Prop} (hK : OBack l R p e below s args y 3 W (.ref a :: argsL).toArray h kc ks Q) (eT : T.heap = h)
    {pc : Nat} {Ls : Array Slot} (hsize : Ls.size = c.maxLocals) (hlen : ∀ sig, parseMethodDescriptor y.desc = some sig → argsL.length = sig.parameters.length) (hW : (rest.map fun v => v.category).sum = W)
    (hd : decode c.code pc = .ok (.invokespecial index, 3)) (hc : cells + kc ≤ R.cells) (hs : slots + ks ≤ R.slots) {P : State → Outcome → Prop}
    (k : ∀ (v : Option Value) (T' : State) (L : List Loc), Stand p l e R s m args below meth c T' (locs ++ L) (cells + kc) (slots + ks) → Q v T'.heap L → OGo p e below (T'.setTop (mkF m (pc + 3) Ls (v.toList ++ rest))) P) :
    OGo p e below (T.setTop (mkF m pc Ls (argsL.reverse ++ .ref a :: rest))) P := by
  obtain ⟨v, vm, ⟨T', L', k', n'⟩, -, X', ⟨L, hQ, l1, y1, z1⟩, st⟩ := X.specialBack hx (y := y) hy1 hown (mvT hZ w1) (mvT hZ w2) (mvT hZ w4) hy hK (g := mkF m pc Ls (argsL.reverse ++ .ref a :: rest)) rfl hsize (Steps.refl _) (a := a) (argsL := argsL) (rest := rest) hlen rfl
    (by show 2 * 0 + _ ≤ _; rw [hW]; omega) hd (fun _ _ => ⟨rfl, eT, hc, hs⟩)
  dsimp only [Pt.U, Pt.locs, Pt.cells, Pt.slots] at X' l1 y1 z1 st hQ
  subst l1 y1 z1
  exact OGo.step (fun _ kk => st.trans kk) (k v T' L X' hQ)
theorem own_special (X : Stand p l e R s m args below meth c T locs cells slots) (hx : p.tables.exec = Jvm.exec) (hZ : Z.Warmed39 s.vm) {own : String} {index : Nat} {y : MethodName} {bytes : ByteArray} {maxL : Nat} (hy1 : y.name = "<init>")
    (hown : s.vm.findClass own = some m.cls) (w1 : (Jvm.Cond.methodLink own index y).before a0 Z = true) (w2 : (Jvm.Cond.instanceMethod y).before a0 Z = true)
    (w4 : (Jvm.Cond.code y bytes maxL none).before a0 Z = true) (w3 : (Jvm.Cond.initialized y.cls).before a0 Z = true) (hy : y.cls ≠ "java/lang/invoke/MethodHandle" ∧ y.cls ≠ "java/lang/invoke/VarHandle") {a : Addr}
    {W : Nat} {rm : Room} {argsL rest : List Value} {Q : Option Value → Heap → List Loc → Prop} (hM : OMet l Z y bytes maxL none [] rm (.ref a :: argsL).toArray h Q) (eT : T.heap = h)
    {pc : Nat} {Ls : Array Slot} (hsize : Ls.size = c.maxLocals) (hlen : ∀ sig, parseMethodDescriptor y.desc = some sig → argsL.length = sig.parameters.length) (hW : (rest.map fun v => v.category).sum = W)
    (hd : decode c.code pc = .ok (.invokespecial index, 3)) (hf : rm.frames + 1 ≤ R.frames) (hl : W + (maxL + 11) + rm.locals ≤ R.locals) (hc : cells + rm.cells ≤ R.cells) (hs : slots + rm.slots ≤ R.slots) {P : State → Outcome → Prop}
    (k : ∀ (v : Option Value) (T' : State) (L : List Loc), Stand p l e R s m args below meth c T' (locs ++ L) (cells + rm.cells) (slots + rm.slots) → Q v T'.heap L → OGo p e below (T'.setTop (mkF m (pc + 3) Ls (v.toList ++ rest))) P) :
    OGo p e below (T.setTop (mkF m pc Ls (argsL.reverse ++ .ref a :: rest))) P := 
  own_specialK X hx hZ hy1 hown w1 w2 w4 hy (backOf (W := W) hM hZ w4 w3 hf hl) eT hsize hlen hW hd hc hs k
/-- an instance method by its contract -/
theorem own_virtualK (X : Stand p l e R s m args below meth c T locs cells slots) (hx : p.tables.exec = Jvm.exec) (hZ : Z.Warmed39 s.vm) {own C : String} {index : Nat} {y z : MethodName}
    (hown : s.vm.findClass own = some m.cls) (w1 : (Jvm.Cond.methodLink own index y).before a0 Z = true) (w2 : (Jvm.Cond.declares y).before a0 Z = true) (hnf : NotFace s y) (w5 : (Jvm.Cond.selects C y z).before a0 Z = true) (w6 : (Jvm.Cond.instanceMethod z).before a0 Z = true)
    (hy : y.cls ≠ "java/lang/invoke/MethodHandle" ∧ y.cls ≠ "java/lang/invoke/VarHandle") {b : Addr} (hb : Exa Z h b C)
    {W : Nat} {kc ks : Nat} {argsL rest : List Value} {Q : Option Value → Heap → List Loc → Prop} (hK : OBack l R p e below s args z 3 W (.ref b :: argsL).toArray h kc ks Q) (eT : T.heap = h)
    {pc : Nat} {Ls : Array Slot} (hsize : Ls.size = c.maxLocals) (hlen : ∀ sig, parseMethodDescriptor y.desc = some sig → argsL.length = sig.parameters.length) (hW : (rest.map fun v => v.category).sum = W)
    (hd : decode c.code pc = .ok (.invokevirtual index, 3)) (hc : cells + kc ≤ R.cells) (hs : slots + ks ≤ R.slots) {P : State → Outcome → Prop}
    (k : ∀ (v : Option Value) (T' : State) (L : List Loc), Stand p l e R s m args below meth c T' (locs ++ L) (cells + kc) (slots + ks) → Q v T'.heap L → OGo p e below (T'.setTop (mkF m (pc + 3) Ls (v.toList ++ rest))) P) :
    OGo p e below (T.setTop (mkF m pc Ls (argsL.reverse ++ .ref b :: rest))) P := by
  obtain ⟨cq, kq, qa, qb, qc⟩ := isOf hZ eT hb
  obtain ⟨v, vm, ⟨T', L', k', n'⟩, -, X', ⟨L, hQ, l1, y1, z1⟩, st⟩ := X.virtualBack hx (y := y) (z := z) hown (mvT hZ w1) (mvT hZ w2) hnf (mvT hZ w5) (mvT hZ w6) hy hK qa qc (g := mkF m pc Ls (argsL.reverse ++ .ref b :: rest)) rfl hsize (Steps.refl _) (argsL := argsL) (rest := rest) hlen rfl
    (by show 2 * 0 + _ ≤ _; rw [hW]; omega) hd (fun _ _ => ⟨rfl, eT, hc, hs⟩)
  dsimp only [Pt.U, Pt.locs, Pt.cells, Pt.slots] at X' l1 y1 z1 st hQ
  subst l1 y1 z1
  exact OGo.step (fun _ kk => st.trans kk) (k v T' L X' hQ)
theorem own_virtual (X : Stand p l e R s m args below meth c T locs cells slots) (hx : p.tables.exec = Jvm.exec) (hZ : Z.Warmed39 s.vm) {own C : String} {index : Nat} {y z : MethodName} {bytes : ByteArray} {maxL : Nat} {ret : Option FieldType}
    (hown : s.vm.findClass own = some m.cls) (w1 : (Jvm.Cond.methodLink own index y).before a0 Z = true) (w2 : (Jvm.Cond.declares y).before a0 Z = true) (hnf : NotFace s y) (w5 : (Jvm.Cond.selects C y z).before a0 Z = true) (w6 : (Jvm.Cond.instanceMethod z).before a0 Z = true)
    (hy : y.cls ≠ "java/lang/invoke/MethodHandle" ∧ y.cls ≠ "java/lang/invoke/VarHandle") (w4 : (Jvm.Cond.code z bytes maxL ret).before a0 Z = true) (w3 : (Jvm.Cond.initialized z.cls).before a0 Z = true) {b : Addr} (hb : Exa Z h b C)
    {W : Nat} {rm : Room} {argsL rest : List Value} {Q : Option Value → Heap → List Loc → Prop} (hM : OMet l Z z bytes maxL ret [] rm (.ref b :: argsL).toArray h Q) (eT : T.heap = h)
    {pc : Nat} {Ls : Array Slot} (hsize : Ls.size = c.maxLocals) (hlen : ∀ sig, parseMethodDescriptor y.desc = some sig → argsL.length = sig.parameters.length) (hW : (rest.map fun v => v.category).sum = W)
    (hd : decode c.code pc = .ok (.invokevirtual index, 3)) (hf : rm.frames + 1 ≤ R.frames) (hl : W + (maxL + 11) + rm.locals ≤ R.locals) (hc : cells + rm.cells ≤ R.cells) (hs : slots + rm.slots ≤ R.slots) {P : State → Outcome → Prop}
    (k : ∀ (v : Option Value) (T' : State) (L : List Loc), Stand p l e R s m args below meth c T' (locs ++ L) (cells + rm.cells) (slots + rm.slots) → Q v T'.heap L → OGo p e below (T'.setTop (mkF m (pc + 3) Ls (v.toList ++ rest))) P) :
    OGo p e below (T.setTop (mkF m pc Ls (argsL.reverse ++ .ref b :: rest))) P := 
  own_virtualK X hx hZ hown w1 w2 hnf w5 w6 hy hb (backOf (W := W) hM hZ w4 w3 hf hl) eT hsize hlen hW hd hc hs k
/-- an instance method that an ancestor declares, by its contract -/
theorem own_virtualUpK (X : Stand p l e R s m args below meth c T locs cells slots) (hx : p.tables.exec = Jvm.exec) (hZ : Z.Warmed39 s.vm) {own C owner : String} {index : Nat} {y z : MethodName}
    (hown : s.vm.findClass own = some m.cls) (w1 : (Jvm.Cond.methodLink own index y).before a0 Z = true) (w7 : (Jvm.Cond.sameMethod y.cls owner y.name y.desc).before a0 Z = true) (w2 : (Jvm.Cond.declares ⟨owner, y.name, y.desc⟩).before a0 Z = true) (w5 : (Jvm.Cond.selects C y z).before a0 Z = true) (w6 : (Jvm.Cond.instanceMethod z).before a0 Z = true)
    (hy : owner ≠ "java/lang/invoke/MethodHandle" ∧ owner ≠ "java/lang/invoke/VarHandle") {b : Addr} (hb : Exa Z h b C)
    {W : Nat} {kc ks : Nat} {argsL rest : List Value} {Q : Option Value → Heap → List Loc → Prop} (hK : OBack l R p e below s args z 3 W (.ref b :: argsL).toArray h kc ks Q) (eT : T.heap = h)
    {pc : Nat} {Ls : Array Slot} (hsize : Ls.size = c.maxLocals) (hlen : ∀ sig, parseMethodDescriptor y.desc = some sig → argsL.length = sig.parameters.length) (hW : (rest.map fun v => v.category).sum = W)
    (hd : decode c.code pc = .ok (.invokevirtual index, 3)) (hc : cells + kc ≤ R.cells) (hs : slots + ks ≤ R.slots) {P : State → Outcome → Prop}
    (k : ∀ (v : Option Value) (T' : State) (L : List Loc), Stand p l e R s m args below meth c T' (locs ++ L) (cells + kc) (slots + ks) → Q v T'.heap L → OGo p e below (T'.setTop (mkF m (pc + 3) Ls (v.toList ++ rest))) P) :
    OGo p e below (T.setTop (mkF m pc Ls (argsL.reverse ++ .ref b :: rest))) P := by
  obtain ⟨cq, kq, qa, qb, qc⟩ := isOf hZ eT hb
  obtain ⟨v, vm, ⟨T', L', k', n'⟩, -, X', ⟨L, hQ, l1, y1, z1⟩, st⟩ := X.virtualBackUp hx (x := y) (y := z) hown (mvT hZ w1) (mvT hZ w7) (mvT hZ w2) hy (mvT hZ w5) (mvT hZ w6) hK qa qc (g := mkF m pc Ls (argsL.reverse ++ .ref b :: rest)) rfl hsize (Steps.refl _) (argsL := argsL) (rest := rest) hlen rfl
    (by show 2 * 0 + _ ≤ _; rw [hW]; omega) hd (fun _ _ => ⟨rfl, eT, hc, hs⟩)
  dsimp only [Pt.U, Pt.locs, Pt.cells, Pt.slots] at X' l1 y1 z1 st hQ
  subst l1 y1 z1
  exact OGo.step (fun _ kk => st.trans kk) (k v T' L X' hQ)
theorem own_virtualUp (X : Stand p l e R s m args below meth c T locs cells slots) (hx : p.tables.exec = Jvm.exec) (hZ : Z.Warmed39 s.vm) {own C owner : String} {index : Nat} {y z : MethodName} {bytes : ByteArray} {maxL : Nat} {ret : Option FieldType}
    (hown : s.vm.findClass own = some m.cls) (w1 : (Jvm.Cond.methodLink own index y).before a0 Z = true) (w7 : (Jvm.Cond.sameMethod y.cls owner y.name y.desc).before a0 Z = true) (w2 : (Jvm.Cond.declares ⟨owner, y.name, y.desc⟩).before a0 Z = true) (w5 : (Jvm.Cond.selects C y z).before a0 Z = true) (w6 : (Jvm.Cond.instanceMethod z).before a0 Z = true)
    (hy : owner ≠ "java/lang/invoke/MethodHandle" ∧ owner ≠ "java/lang/invoke/VarHandle") (w4 : (Jvm.Cond.code z bytes maxL ret).before a0 Z = true) (w3 : (Jvm.Cond.initialized z.cls).before a0 Z = true) {b : Addr} (hb : Exa Z h b C)
    {W : Nat} {rm : Room} {argsL rest : List Value} {Q : Option Value → Heap → List Loc → Prop} (hM : OMet l Z z bytes maxL ret [] rm (.ref b :: argsL).toArray h Q) (eT : T.heap = h)
    {pc : Nat} {Ls : Array Slot} (hsize : Ls.size = c.maxLocals) (hlen : ∀ sig, parseMethodDescriptor y.desc = some sig → argsL.length = sig.parameters.length) (hW : (rest.map fun v => v.category).sum = W)
    (hd : decode c.code pc = .ok (.invokevirtual index, 3)) (hf : rm.frames + 1 ≤ R.frames) (hl : W + (maxL + 11) + rm.locals ≤ R.locals) (hc : cells + rm.cells ≤ R.cells) (hs : slots + rm.slots ≤ R.slots) {P : State → Outcome → Prop}
    (k : ∀ (v : Option Value) (T' : State) (L : List Loc), Stand p l e R s m args below meth c T' (locs ++ L) (cells + rm.cells) (slots + rm.slots) → Q v T'.heap L → OGo p e below (T'.setTop (mkF m (pc + 3) Ls (v.toList ++ rest))) P) :
    OGo p e below (T.setTop (mkF m pc Ls (argsL.reverse ++ .ref b :: rest))) P := 
  own_virtualUpK X hx hZ hown w1 w7 w2 w5 w6 hy hb (backOf (W := W) hM hZ w4 w3 hf hl) eT hsize hlen hW hd hc hs k
theorem own_cat {v : Value} (q : v.isRef = true) : v.category = 1 := by cases v <;> first | rfl | (simp [Value.isRef] at q)
theorem own_narR {v : Value} {t : FieldType} (q : v.isRef = true) (ht : t.isReference = true := by rfl) : narrow t v = v := by cases v <;> first | (simp [Value.isRef] at q; done) | (cases t <;> first | rfl | (cases ht))
theorem own_fitR {v : Value} {t : FieldType} (q : v.isRef = true) (ht : t.isReference = true := by rfl) : fits t v = true := by cases v <;> first | (simp [Value.isRef] at q; done) | (cases t <;> first | rfl | (cases ht))
theorem own_store1 {l l' : Array Slot} {i : Nat} {v : Value} {o : Slot} (hold : l[i]? = some o) (ho : o = .unset ∨ ∃ w, o = .val w ∧ w.category = 1) (hv : v.category = 1) (hl' : l.setIfInBounds i (.val v) = l' := by rfl) : storeLocals l i v = some l' := by
  rw [XS.store1 hold ho hv, hl']
end Own
theorem own_eqv {args : Array Value} {s : State} {a b : Term} {y : Value} (h : (Jvm.Cond.eq a b).value args s none s [] = some true) (hb : b.eval args s none [] s = some y) : a.eval args s none [] s = some y := by
  cases ha : a.eval args s none [] s with
  | none => simp [Cond.value, ha] at h
  | some x => cases x <;> cases y <;> simp_all [Cond.value]
theorem own_len {args : Array Value} {s : State} {t : Term} {a : Addr} {cl : Cell} {ty : FieldType} {n : Int32} (ev : t.eval args s none [] s = some (.ref a)) (A : Arr s s.heap a cl ty) (h : (Term.length t).eval args s none [] s = some (.int n)) : cl.slots.size < 2 ^ 31 ∧ cl.slots.size.toInt32 = n := by
  have ha : s.arrayAt? a = some cl := Arr.fin (State.WarmedH.refl s).alike A
  by_cases q : cl.slots.size < 2 ^ 31
  · rw [len_f ev ha q] at h
    exact ⟨q, Value.int.inj (Option.some.inj h)⟩
  · simp [Term.eval, ev, ha] at h
    omega
theorem own_elem {args : Array Value} {s : State} {t : Term} {a : Addr} {cl : Cell} {ty : FieldType} {j : Int32} {v : Value} (ev : t.eval args s none [] s = some (.ref a)) (A : Arr s s.heap a cl ty) (h : (Term.elem t (Term.int j)).eval args s none [] s = some v) (hn : ¬ j < 0 := by decide) : cl.slots[j.toNatClampNeg]? = some v := by
  have ha : s.arrayAt? a = some cl := Arr.fin (State.WarmedH.refl s).alike A
  rw [← elem_f ev (Term.int_eval j) ha hn]; exact h
theorem own_pd0 : parseMethodDescriptor "()[Lcom/example/slotwise/slotwise/curriculum/Measure;" = some ⟨[], some (.array (.object "com/example/slotwise/slotwise/curriculum/Measure"))⟩ := by decide +kernel
theorem own_pd1 : parseMethodDescriptor "()I" = some ⟨[], some .int⟩ := by decide +kernel
theorem own_pd2 : parseMethodDescriptor "(I)Lcom/example/slotwise/slotwise/curriculum/Measure;" = some ⟨[.int], some (.object "com/example/slotwise/slotwise/curriculum/Measure")⟩ := by decide +kernel
theorem own_pd3 : parseMethodDescriptor "()V" = some ⟨[], none⟩ := by decide +kernel
theorem own_pd4 : parseMethodDescriptor "(Lcom/example/slotwise/slotwise/curriculum/Measure;J)V" = some ⟨[(.object "com/example/slotwise/slotwise/curriculum/Measure"), .long], none⟩ := by decide +kernel
theorem own_pd5 : parseMethodDescriptor "(Lcom/example/slotwise/slotwise/curriculum/Measure;)J" = some ⟨[(.object "com/example/slotwise/slotwise/curriculum/Measure")], some .long⟩ := by decide +kernel
theorem own_pd6 : parseMethodDescriptor "(Lcom/example/slotwise/slotwise/curriculum/Measure;Lcom/example/slotwise/slotwise/curriculum/Measure;JLcom/example/slotwise/slotwise/curriculum/Measure;J)J" = some ⟨[(.object "com/example/slotwise/slotwise/curriculum/Measure"), (.object "com/example/slotwise/slotwise/curriculum/Measure"), .long, (.object "com/example/slotwise/slotwise/curriculum/Measure"), .long], some .long⟩ := by decide +kernel
theorem own_pn0 : plainName "com/example/slotwise/slotwise/curriculum/ScoreAddPinLaw" = true := by first | (simp [plainName, overriddenIn]; done) | decide +kernel
theorem own_pn1 : plainName "com/example/slotwise/slotwise/curriculum/Measure" = true := by first | (simp [plainName, overriddenIn]; done) | decide +kernel
theorem own_pn2 : plainName "com/example/slotwise/slotwise/curriculum/Score" = true := by first | (simp [plainName, overriddenIn]; done) | decide +kernel
theorem own_pn3 : plainName "java/lang/Enum" = true := by first | (simp [plainName, overriddenIn]; done) | decide +kernel
theorem own_d_method_2_code_0 : decode method_2_code 0 = .ok (.iload_n 0, 1) := by decide +kernel
theorem own_d_method_2_code_1 : decode method_2_code 1 = .ok (.bipush 7, 2) := by decide +kernel
theorem own_d_method_2_code_3 : decode method_2_code 3 = .ok (.iand, 1) := by decide +kernel
theorem own_d_method_2_code_4 : decode method_2_code 4 = .ok (.istore_n 1, 1) := by decide +kernel
theorem own_d_method_2_code_5 : decode method_2_code 5 = .ok (.iload_n 1, 1) := by decide +kernel
theorem own_d_method_2_code_6 : decode method_2_code 6 = .ok (.ifCond .ne 7, 3) := by decide +kernel
theorem own_d_method_2_code_9 : decode method_2_code 9 = .ok (.getstatic 7, 3) := by decide +kernel
theorem own_d_method_2_code_12 : decode method_2_code 12 = .ok (.areturn, 1) := by decide +kernel
theorem own_d_method_2_code_13 : decode method_2_code 13 = .ok (.iload_n 1, 1) := by decide +kernel
theorem own_d_method_2_code_14 : decode method_2_code 14 = .ok (.iconst 1, 1) := by decide +kernel
theorem own_d_method_2_code_15 : decode method_2_code 15 = .ok (.if_icmp .ne 7, 3) := by decide +kernel
theorem own_d_method_2_code_18 : decode method_2_code 18 = .ok (.getstatic 13, 3) := by decide +kernel
theorem own_d_method_2_code_21 : decode method_2_code 21 = .ok (.areturn, 1) := by decide +kernel
theorem own_d_method_2_code_22 : decode method_2_code 22 = .ok (.iload_n 1, 1) := by decide +kernel
theorem own_d_method_2_code_23 : decode method_2_code 23 = .ok (.iconst 2, 1) := by decide +kernel
theorem own_d_method_2_code_24 : decode method_2_code 24 = .ok (.if_icmp .ne 7, 3) := by decide +kernel
theorem own_d_method_2_code_27 : decode method_2_code 27 = .ok (.getstatic 16, 3) := by decide +kernel
theorem own_d_method_2_code_30 : decode method_2_code 30 = .ok (.areturn, 1) := by decide +kernel
theorem own_d_method_2_code_31 : decode method_2_code 31 = .ok (.iload_n 1, 1) := by decide +kernel
theorem own_d_method_2_code_32 : decode method_2_code 32 = .ok (.iconst 3, 1) := by decide +kernel
theorem own_d_method_2_code_33 : decode method_2_code 33 = .ok (.if_icmp .ne 7, 3) := by decide +kernel
theorem own_d_method_2_code_36 : decode method_2_code 36 = .ok (.getstatic 19, 3) := by decide +kernel
theorem own_d_method_2_code_39 : decode method_2_code 39 = .ok (.areturn, 1) := by decide +kernel
theorem own_d_method_2_code_40 : decode method_2_code 40 = .ok (.iload_n 1, 1) := by decide +kernel
theorem own_d_method_2_code_41 : decode method_2_code 41 = .ok (.iconst 4, 1) := by decide +kernel
theorem own_d_method_2_code_42 : decode method_2_code 42 = .ok (.if_icmp .ne 7, 3) := by decide +kernel
theorem own_d_method_2_code_45 : decode method_2_code 45 = .ok (.getstatic 22, 3) := by decide +kernel
theorem own_d_method_2_code_48 : decode method_2_code 48 = .ok (.areturn, 1) := by decide +kernel
theorem own_d_method_2_code_49 : decode method_2_code 49 = .ok (.iload_n 1, 1) := by decide +kernel
theorem own_d_method_2_code_50 : decode method_2_code 50 = .ok (.iconst 5, 1) := by decide +kernel
theorem own_d_method_2_code_51 : decode method_2_code 51 = .ok (.if_icmp .ne 7, 3) := by decide +kernel
theorem own_d_method_2_code_54 : decode method_2_code 54 = .ok (.getstatic 25, 3) := by decide +kernel
theorem own_d_method_2_code_57 : decode method_2_code 57 = .ok (.areturn, 1) := by decide +kernel
theorem own_d_method_2_code_58 : decode method_2_code 58 = .ok (.iload_n 1, 1) := by decide +kernel
theorem own_d_method_2_code_59 : decode method_2_code 59 = .ok (.bipush 6, 2) := by decide +kernel
theorem own_d_method_2_code_61 : decode method_2_code 61 = .ok (.if_icmp .ne 7, 3) := by decide +kernel
theorem own_d_method_2_code_64 : decode method_2_code 64 = .ok (.getstatic 28, 3) := by decide +kernel
theorem own_d_method_2_code_67 : decode method_2_code 67 = .ok (.areturn, 1) := by decide +kernel
theorem own_d_method_2_code_68 : decode method_2_code 68 = .ok (.getstatic 31, 3) := by decide +kernel
theorem own_d_method_2_code_71 : decode method_2_code 71 = .ok (.areturn, 1) := by decide +kernel
theorem own_d_prog_17_method_1_code_0 : decode prog_17_method_1_code 0 = .ok (.getstatic 28, 3) := by decide +kernel
theorem own_d_prog_17_method_1_code_3 : decode prog_17_method_1_code 3 = .ok (.invokevirtual 32, 3) := by decide +kernel
theorem own_d_prog_17_method_1_code_6 : decode prog_17_method_1_code 6 = .ok (.checkcast 33, 3) := by decide +kernel
theorem own_d_prog_17_method_1_code_9 : decode prog_17_method_1_code 9 = .ok (.areturn, 1) := by decide +kernel
theorem own_d_prog_19_method_1_code_0 : decode prog_19_method_1_code 0 = .ok (.aload_n 0, 1) := by decide +kernel
theorem own_d_prog_19_method_1_code_1 : decode prog_19_method_1_code 1 = .ok (.invokespecial 1, 3) := by decide +kernel
theorem own_d_prog_19_method_1_code_4 : decode prog_19_method_1_code 4 = .ok (.aload_n 0, 1) := by decide +kernel
theorem own_d_prog_19_method_1_code_5 : decode prog_19_method_1_code 5 = .ok (.invokestatic 7, 3) := by decide +kernel
theorem own_d_prog_19_method_1_code_8 : decode prog_19_method_1_code 8 = .ok (.arraylength, 1) := by decide +kernel
theorem own_d_prog_19_method_1_code_9 : decode prog_19_method_1_code 9 = .ok (.newarray .long, 2) := by decide +kernel
theorem own_d_prog_19_method_1_code_11 : decode prog_19_method_1_code 11 = .ok (.putfield 13, 3) := by decide +kernel
theorem own_d_prog_19_method_1_code_14 : decode prog_19_method_1_code 14 = .ok (.return_, 1) := by decide +kernel
theorem own_d_jdk_37_method_2_code_0 : decode jdk_37_method_2_code 0 = .ok (.aload_n 0, 1) := by decide +kernel
theorem own_d_jdk_37_method_2_code_1 : decode jdk_37_method_2_code 1 = .ok (.getfield 7, 3) := by decide +kernel
theorem own_d_jdk_37_method_2_code_4 : decode jdk_37_method_2_code 4 = .ok (.ireturn, 1) := by decide +kernel
theorem own_d_prog_19_method_2_code_0 : decode prog_19_method_2_code 0 = .ok (.aload_n 0, 1) := by decide +kernel
theorem own_d_prog_19_method_2_code_1 : decode prog_19_method_2_code 1 = .ok (.getfield 13, 3) := by decide +kernel
theorem own_d_prog_19_method_2_code_4 : decode prog_19_method_2_code 4 = .ok (.aload_n 1, 1) := by decide +kernel
theorem own_d_prog_19_method_2_code_5 : decode prog_19_method_2_code 5 = .ok (.invokevirtual 18, 3) := by decide +kernel
theorem own_d_prog_19_method_2_code_8 : decode prog_19_method_2_code 8 = .ok (.dup2, 1) := by decide +kernel
theorem own_d_prog_19_method_2_code_9 : decode prog_19_method_2_code 9 = .ok (.laload, 1) := by decide +kernel
theorem own_d_prog_19_method_2_code_10 : decode prog_19_method_2_code 10 = .ok (.lload_n 2, 1) := by decide +kernel
theorem own_d_prog_19_method_2_code_11 : decode prog_19_method_2_code 11 = .ok (.ladd, 1) := by decide +kernel
theorem own_d_prog_19_method_2_code_12 : decode prog_19_method_2_code 12 = .ok (.lastore, 1) := by decide +kernel
theorem own_d_prog_19_method_2_code_13 : decode prog_19_method_2_code 13 = .ok (.return_, 1) := by decide +kernel
theorem own_d_prog_19_method_3_code_0 : decode prog_19_method_3_code 0 = .ok (.aload_n 0, 1) := by decide +kernel
theorem own_d_prog_19_method_3_code_1 : decode prog_19_method_3_code 1 = .ok (.getfield 13, 3) := by decide +kernel
theorem own_d_prog_19_method_3_code_4 : decode prog_19_method_3_code 4 = .ok (.aload_n 1, 1) := by decide +kernel
theorem own_d_prog_19_method_3_code_5 : decode prog_19_method_3_code 5 = .ok (.invokevirtual 18, 3) := by decide +kernel
theorem own_d_prog_19_method_3_code_8 : decode prog_19_method_3_code 8 = .ok (.laload, 1) := by decide +kernel
theorem own_d_prog_19_method_3_code_9 : decode prog_19_method_3_code 9 = .ok (.lreturn, 1) := by decide +kernel
theorem own_d_method_3_code_0 : decode method_3_code 0 = .ok (.lconst 0, 1) := by decide +kernel
theorem own_d_method_3_code_1 : decode method_3_code 1 = .ok (.lstore 7, 2) := by decide +kernel
theorem own_d_method_3_code_3 : decode method_3_code 3 = .ok (.aload_n 0, 1) := by decide +kernel
theorem own_d_method_3_code_4 : decode method_3_code 4 = .ok (.aload_n 1, 1) := by decide +kernel
theorem own_d_method_3_code_5 : decode method_3_code 5 = .ok (.if_acmp .ne 9, 3) := by decide +kernel
theorem own_d_method_3_code_8 : decode method_3_code 8 = .ok (.lload 7, 2) := by decide +kernel
theorem own_d_method_3_code_10 : decode method_3_code 10 = .ok (.lload_n 2, 1) := by decide +kernel
theorem own_d_method_3_code_11 : decode method_3_code 11 = .ok (.ladd, 1) := by decide +kernel
theorem own_d_method_3_code_12 : decode method_3_code 12 = .ok (.lstore 7, 2) := by decide +kernel
theorem own_d_method_3_code_14 : decode method_3_code 14 = .ok (.aload_n 0, 1) := by decide +kernel
theorem own_d_method_3_code_15 : decode method_3_code 15 = .ok (.aload 4, 2) := by decide +kernel
theorem own_d_method_3_code_17 : decode method_3_code 17 = .ok (.if_acmp .ne 10, 3) := by decide +kernel
theorem own_d_method_3_code_20 : decode method_3_code 20 = .ok (.lload 7, 2) := by decide +kernel
theorem own_d_method_3_code_22 : decode method_3_code 22 = .ok (.lload 5, 2) := by decide +kernel
theorem own_d_method_3_code_24 : decode method_3_code 24 = .ok (.ladd, 1) := by decide +kernel
theorem own_d_method_3_code_25 : decode method_3_code 25 = .ok (.lstore 7, 2) := by decide +kernel
theorem own_d_method_3_code_27 : decode method_3_code 27 = .ok (.lload 7, 2) := by decide +kernel
theorem own_d_method_3_code_29 : decode method_3_code 29 = .ok (.lreturn, 1) := by decide +kernel

def own_pk (i : Int32) (c0 c1 c2 c3 c4 c5 c6 c7 : Addr) : Addr := if i = 0 then c0 else if i = 1 then c1 else if i = 2 then c2 else if i = 3 then c3 else if i = 4 then c4 else if i = 5 then c5 else if i = 6 then c6 else c7
theorem own_eight (x : Int32) : (x &&& 7) = 0 ∨ (x &&& 7) = 1 ∨ (x &&& 7) = 2 ∨ (x &&& 7) = 3 ∨ (x &&& 7) = 4 ∨ (x &&& 7) = 5 ∨ (x &&& 7) = 6 ∨ (x &&& 7) = 7 := by
  have e1 : (x &&& 7).toInt = x.toInt % 2 ^ 3 := Jvm.Kit.i32_mask x 7 (k := 3) (by decide) (by decide)
  simp only [← Int32.toInt_inj]
  have z0 : (0 : Int32).toInt = 0 := rfl
  have z1 : (1 : Int32).toInt = 1 := rfl
  have z2 : (2 : Int32).toInt = 2 := rfl
  have z3 : (3 : Int32).toInt = 3 := rfl
  have z4 : (4 : Int32).toInt = 4 := rfl
  have z5 : (5 : Int32).toInt = 5 := rfl
  have z6 : (6 : Int32).toInt = 6 := rfl
  have z7 : (7 : Int32).toInt = 7 := rfl
  omega
def own_Arr8 (Z : State) (h : Heap) (t : Addr) (f : Int32 → Int64) : Prop := ∃ cl, Arr Z h t cl .long ∧ cl.slots.size = 8 ∧ ∀ j : Int32, ¬ (j < 0 ∨ cl.slots.size ≤ j.toNatClampNeg) → cl.slots[j.toNatClampNeg]? = some (.long (f j))
theorem own_in8 {cl : Cell} {i : Int32} (hs : cl.slots.size = 8) (hi : i = 0 ∨ i = 1 ∨ i = 2 ∨ i = 3 ∨ i = 4 ∨ i = 5 ∨ i = 6 ∨ i = 7) : ¬ (i < 0 ∨ cl.slots.size ≤ i.toNatClampNeg) := by
  rw [hs]; rcases hi with rfl | rfl | rfl | rfl | rfl | rfl | rfl | rfl <;> decide
theorem own_set8 {Z : State} {h h' : Heap} {t : Addr} {cl : Cell} {f : Int32 → Int64} {i : Int32} {q : Int64} (A : Arr Z h t cl .long) (hs : cl.slots.size = 8) (H : ∀ j : Int32, ¬ (j < 0 ∨ cl.slots.size ≤ j.toNatClampNeg) → cl.slots[j.toNatClampNeg]? = some (.long (f j)))
    (hi : ¬ (i < 0 ∨ cl.slots.size ≤ i.toNatClampNeg)) (W : Wr h h' t i.toNatClampNeg (.long q)) : own_Arr8 Z h' t (fun j => if j = i then q else f j) := by
  refine ⟨_, A.same W, by rw [sz_set]; exact hs, fun j hj => ?_⟩
  rw [sz_set] at hj
  by_cases e : j = i
  · show _ = some (Value.long (if j = i then q else f j)); rw [if_pos e]; exact get_hit hi e
  · show _ = some (Value.long (if j = i then q else f j)); rw [if_neg e, get_miss (fun z => hi (Or.inl z)) (fun z => hj (Or.inl z)) e]; exact H j hj


theorem own_dup2 {p : Program} {l : Launch} {e : Env} {R : Room} {s : State} {m : MethodId} {args : Array Value} {below : List Frame} {meth : Method} {c : Code} {T : State} {locs : List Loc} {cells slots : Nat} {target : State} (X : Stand p l e R s m args below meth c T locs cells slots) (hx : p.tables.exec = Jvm.exec) {pc : Nat} {Ls : Array Slot} {i : Int32} {a : Addr} {rest : List Value} (hd : decode c.code pc = .ok (.dup2, 1))
    (hr : Steps p.tables e below (T.setTop (mkF m (pc + 1) Ls (.int i :: .ref a :: .int i :: .ref a :: rest))) target) : Steps p.tables e below (T.setTop (mkF m pc Ls (.int i :: .ref a :: rest))) target := by
  jvm_step X.here [X.here.top, hx, hd, Value.category]
  exact hr

set_option maxRecDepth 65536 in
set_option maxHeartbeats 40000000 in
theorem own_rm1 (l : Launch) (Z : State) (a0 : Array Value) (hw : ∀ d ∈ tables_1, d.before a0 Z = true) (ws : List Jvm.Cond) (x1 : Int32) (c0 c1 c2 c3 c4 c5 c6 c7 : Addr) (h0 : Heap) (n0 : Nat) (Z0 : n0 ≤ h0.size) (S0 : Sta Z Z.heap "com/example/slotwise/slotwise/curriculum/Measure" "LECTURES" "Lcom/example/slotwise/slotwise/curriculum/Measure;" (.ref c0)) (S1 : Sta Z Z.heap "com/example/slotwise/slotwise/curriculum/Measure" "CONFLICTS" "Lcom/example/slotwise/slotwise/curriculum/Measure;" (.ref c1)) (S2 : Sta Z Z.heap "com/example/slotwise/slotwise/curriculum/Measure" "AVAILABILITY" "Lcom/example/slotwise/slotwise/curriculum/Measure;" (.ref c2)) (S3 : Sta Z Z.heap "com/example/slotwise/slotwise/curriculum/Measure" "ROOM_OCCUPATION" "Lcom/example/slotwise/slotwise/curriculum/Measure;" (.ref c3)) (S4 : Sta Z Z.heap "com/example/slotwise/slotwise/curriculum/Measure" "ROOM_CAPACITY" "Lcom/example/slotwise/slotwise/curriculum/Measure;" (.ref c4)) (S5 : Sta Z Z.heap "com/example/slotwise/slotwise/curriculum/Measure" "MIN_WORKING_DAYS" "Lcom/example/slotwise/slotwise/curriculum/Measure;" (.ref c5)) (S6 : Sta Z Z.heap "com/example/slotwise/slotwise/curriculum/Measure" "CURRICULUM_COMPACTNESS" "Lcom/example/slotwise/slotwise/curriculum/Measure;" (.ref c6)) (S7 : Sta Z Z.heap "com/example/slotwise/slotwise/curriculum/Measure" "ROOM_STABILITY" "Lcom/example/slotwise/slotwise/curriculum/Measure;" (.ref c7)) (O0 : Old Z n0 h0) :
    OMet l Z (⟨"com/example/slotwise/slotwise/curriculum/ScoreAddPinLaw", "pick", "(I)Lcom/example/slotwise/slotwise/curriculum/Measure;"⟩ : MethodName) method_2_code 2 (some (.object "com/example/slotwise/slotwise/curriculum/Measure")) ws ({ frames := 0, cells := 0, slots := 0, locals := 0 } : Room) #[(.int x1)] h0 (fun v h L => v = some (.ref (own_pk (x1 &&& 7) c0 c1 c2 c3 c4 c5 c6 c7)) ∧ Fr n0 L ∧ h = h0) := by
  refine OMet.body (plainFor_of_name own_pn0) ?_
  intro p e s m below meth c s₁ hx hby hml hown hnm hret hlk hZ X0 e0
  refine OGo.step (fun _ kk => castTop (show entryFrame m #[(.int x1)] 2 = (mkF m 0 #[.val (.int x1), .unset] []) from by first | (simp [entryFrame, mkF, argsToLocals, Value.category]; done) | rfl) kk) ?_
  show OGo p e below (s₁.setTop (mkF m 0 #[.val (.int x1), .unset] [])) (OEnd s (fun v h L => v = some (.ref (own_pk (x1 &&& 7) c0 c1 c2 c3 c4 c5 c6 c7)) ∧ Fr n0 L ∧ h = h0) ({ frames := 0, cells := 0, slots := 0, locals := 0 } : Room).cells ({ frames := 0, cells := 0, slots := 0, locals := 0 } : Room).slots)
  have N0 := Fr.nil n0
  refine OGo.step (fun _ kk => XS.iloadN X0.here hx rfl (hb hby own_d_method_2_code_0) rfl kk) ?_
  show OGo p e below (s₁.setTop (mkF m 1 #[.val (.int x1), .unset] [(.int x1)])) (OEnd s (fun v h L => v = some (.ref (own_pk (x1 &&& 7) c0 c1 c2 c3 c4 c5 c6 c7)) ∧ Fr n0 L ∧ h = h0) ({ frames := 0, cells := 0, slots := 0, locals := 0 } : Room).cells ({ frames := 0, cells := 0, slots := 0, locals := 0 } : Room).slots)
  refine OGo.step (fun _ kk => XS.bipush X0.here hx rfl (hb hby own_d_method_2_code_1) kk) ?_
  show OGo p e below (s₁.setTop (mkF m 3 #[.val (.int x1), .unset] [(.int (7 : Int32)), (.int x1)])) (OEnd s (fun v h L => v = some (.ref (own_pk (x1 &&& 7) c0 c1 c2 c3 c4 c5 c6 c7)) ∧ Fr n0 L ∧ h = h0) ({ frames := 0, cells := 0, slots := 0, locals := 0 } : Room).cells ({ frames := 0, cells := 0, slots := 0, locals := 0 } : Room).slots)
  refine OGo.step (fun _ kk => XS.iand X0.here hx rfl (hb hby own_d_method_2_code_3) rfl kk) ?_
  show OGo p e below (s₁.setTop (mkF m 4 #[.val (.int x1), .unset] [(.int (x1 &&& (7 : Int32)))])) (OEnd s (fun v h L => v = some (.ref (own_pk (x1 &&& 7) c0 c1 c2 c3 c4 c5 c6 c7)) ∧ Fr n0 L ∧ h = h0) ({ frames := 0, cells := 0, slots := 0, locals := 0 } : Room).cells ({ frames := 0, cells := 0, slots := 0, locals := 0 } : Room).slots)
  obtain ⟨i, hi⟩ : ∃ z, z = (x1 &&& (7 : Int32)) := ⟨_, rfl⟩
  rw [← hi]
  show OGo p e below (s₁.setTop (mkF m 4 #[.val (.int x1), .unset] [(.int i)])) (OEnd s (fun v h L => v = some (.ref (own_pk i c0 c1 c2 c3 c4 c5 c6 c7)) ∧ Fr n0 L ∧ h = h0) ({ frames := 0, cells := 0, slots := 0, locals := 0 } : Room).cells ({ frames := 0, cells := 0, slots := 0, locals := 0 } : Room).slots)
  refine OGo.step (fun _ kk => XS.istoreN X0.here hx rfl (hb hby own_d_method_2_code_4) rfl (l' := #[.val (.int x1), .val (.int i)]) rfl kk) ?_
  show OGo p e below (s₁.setTop (mkF m 5 #[.val (.int x1), .val (.int i)] [])) (OEnd s (fun v h L => v = some (.ref (own_pk i c0 c1 c2 c3 c4 c5 c6 c7)) ∧ Fr n0 L ∧ h = h0) ({ frames := 0, cells := 0, slots := 0, locals := 0 } : Room).cells ({ frames := 0, cells := 0, slots := 0, locals := 0 } : Room).slots)
  refine OGo.step (fun _ kk => XS.iloadN X0.here hx rfl (hb hby own_d_method_2_code_5) rfl kk) ?_
  show OGo p e below (s₁.setTop (mkF m 6 #[.val (.int x1), .val (.int i)] [(.int i)])) (OEnd s (fun v h L => v = some (.ref (own_pk i c0 c1 c2 c3 c4 c5 c6 c7)) ∧ Fr n0 L ∧ h = h0) ({ frames := 0, cells := 0, slots := 0, locals := 0 } : Room).cells ({ frames := 0, cells := 0, slots := 0, locals := 0 } : Room).slots)
  by_cases hc0 : i = (0 : Int32)
  · refine OGo.step (fun _ kk => XS.ifNo X0.here hx rfl (hb hby own_d_method_2_code_6) rfl ((if0 _ _).trans (teq hc0).2) kk) ?_
    show OGo p e below (s₁.setTop (mkF m 9 #[.val (.int x1), .val (.int i)] [])) (OEnd s (fun v h L => v = some (.ref (own_pk i c0 c1 c2 c3 c4 c5 c6 c7)) ∧ Fr n0 L ∧ h = h0) ({ frames := 0, cells := 0, slots := 0, locals := 0 } : Room).cells ({ frames := 0, cells := 0, slots := 0, locals := 0 } : Room).slots)
    obtain ⟨T1, X1, e1, st1⟩ := getS2 X0 hx hZ hown (host := "") (Or.inl (hw _ (List.mem_of_getElem? (i := 4) rfl))) Via.refl e0 (S0.ext O0.2) (g := (mkF m 9 #[.val (.int x1), .val (.int i)] [])) rfl (hb hby own_d_method_2_code_9)
    refine OGo.step st1 ?_
    show OGo p e below (T1.setTop (mkF m 12 #[.val (.int x1), .val (.int i)] [(.ref c0)])) (OEnd s (fun v h L => v = some (.ref (own_pk i c0 c1 c2 c3 c4 c5 c6 c7)) ∧ Fr n0 L ∧ h = h0) ({ frames := 0, cells := 0, slots := 0, locals := 0 } : Room).cells ({ frames := 0, cells := 0, slots := 0, locals := 0 } : Room).slots)
    exact own_ret X1 hx hlk hret rfl (Or.inr (Or.inr (Or.inr (Or.inr ⟨rfl, rfl, rfl⟩)))) (hb hby own_d_method_2_code_12) ⟨by unfold own_pk; rw [if_pos hc0], N0, e1⟩ (by decide) (by decide)
  · refine OGo.step (fun _ kk => XS.ifYes X0.here hx rfl (pc0 := 6) (pc' := 13) rfl (hb hby own_d_method_2_code_6) rfl ((if0 _ _).trans (feq hc0).2) (by decide) (by decide) kk) ?_
    show OGo p e below (s₁.setTop (mkF m 13 #[.val (.int x1), .val (.int i)] [])) (OEnd s (fun v h L => v = some (.ref (own_pk i c0 c1 c2 c3 c4 c5 c6 c7)) ∧ Fr n0 L ∧ h = h0) ({ frames := 0, cells := 0, slots := 0, locals := 0 } : Room).cells ({ frames := 0, cells := 0, slots := 0, locals := 0 } : Room).slots)
    refine OGo.step (fun _ kk => XS.iloadN X0.here hx rfl (hb hby own_d_method_2_code_13) rfl kk) ?_
    show OGo p e below (s₁.setTop (mkF m 14 #[.val (.int x1), .val (.int i)] [(.int i)])) (OEnd s (fun v h L => v = some (.ref (own_pk i c0 c1 c2 c3 c4 c5 c6 c7)) ∧ Fr n0 L ∧ h = h0) ({ frames := 0, cells := 0, slots := 0, locals := 0 } : Room).cells ({ frames := 0, cells := 0, slots := 0, locals := 0 } : Room).slots)
    refine OGo.step (fun _ kk => XS.iconst X0.here hx rfl (hb hby own_d_method_2_code_14) kk) ?_
    show OGo p e below (s₁.setTop (mkF m 15 #[.val (.int x1), .val (.int i)] [(.int (1 : Int32)), (.int i)])) (OEnd s (fun v h L => v = some (.ref (own_pk i c0 c1 c2 c3 c4 c5 c6 c7)) ∧ Fr n0 L ∧ h = h0) ({ frames := 0, cells := 0, slots := 0, locals := 0 } : Room).cells ({ frames := 0, cells := 0, slots := 0, locals := 0 } : Room).slots)
    by_cases hc1 : i = (1 : Int32)
    · refine OGo.step (fun _ kk => XS.icmpNo X0.here hx rfl (hb hby own_d_method_2_code_15) rfl (teq hc1).2 kk) ?_
      show OGo p e below (s₁.setTop (mkF m 18 #[.val (.int x1), .val (.int i)] [])) (OEnd s (fun v h L => v = some (.ref (own_pk i c0 c1 c2 c3 c4 c5 c6 c7)) ∧ Fr n0 L ∧ h = h0) ({ frames := 0, cells := 0, slots := 0, locals := 0 } : Room).cells ({ frames := 0, cells := 0, slots := 0, locals := 0 } : Room).slots)
      obtain ⟨T2, X2, e2, st2⟩ := getS2 X0 hx hZ hown (host := "") (Or.inl (hw _ (List.mem_of_getElem? (i := 69) rfl))) Via.refl e0 (S1.ext O0.2) (g := (mkF m 18 #[.val (.int x1), .val (.int i)] [])) rfl (hb hby own_d_method_2_code_18)
      refine OGo.step st2 ?_
      show OGo p e below (T2.setTop (mkF m 21 #[.val (.int x1), .val (.int i)] [(.ref c1)])) (OEnd s (fun v h L => v = some (.ref (own_pk i c0 c1 c2 c3 c4 c5 c6 c7)) ∧ Fr n0 L ∧ h = h0) ({ frames := 0, cells := 0, slots := 0, locals := 0 } : Room).cells ({ frames := 0, cells := 0, slots := 0, locals := 0 } : Room).slots)
      exact own_ret X2 hx hlk hret rfl (Or.inr (Or.inr (Or.inr (Or.inr ⟨rfl, rfl, rfl⟩)))) (hb hby own_d_method_2_code_21) ⟨by unfold own_pk; rw [if_neg hc0, if_pos hc1], N0, e2⟩ (by decide) (by decide)
    · refine OGo.step (fun _ kk => XS.icmpYes X0.here hx rfl (pc0 := 15) (pc' := 22) rfl (hb hby own_d_method_2_code_15) rfl (feq hc1).2 (by decide) (by decide) kk) ?_
      show OGo p e below (s₁.setTop (mkF m 22 #[.val (.int x1), .val (.int i)] [])) (OEnd s (fun v h L => v = some (.ref (own_pk i c0 c1 c2 c3 c4 c5 c6 c7)) ∧ Fr n0 L ∧ h = h0) ({ frames := 0, cells := 0, slots := 0, locals := 0 } : Room).cells ({ frames := 0, cells := 0, slots := 0, locals := 0 } : Room).slots)
      refine OGo.step (fun _ kk => XS.iloadN X0.here hx rfl (hb hby own_d_method_2_code_22) rfl kk) ?_
      show OGo p e below (s₁.setTop (mkF m 23 #[.val (.int x1), .val (.int i)] [(.int i)])) (OEnd s (fun v h L => v = some (.ref (own_pk i c0 c1 c2 c3 c4 c5 c6 c7)) ∧ Fr n0 L ∧ h = h0) ({ frames := 0, cells := 0, slots := 0, locals := 0 } : Room).cells ({ frames := 0, cells := 0, slots := 0, locals := 0 } : Room).slots)
      refine OGo.step (fun _ kk => XS.iconst X0.here hx rfl (hb hby own_d_method_2_code_23) kk) ?_
      show OGo p e below (s₁.setTop (mkF m 24 #[.val (.int x1), .val (.int i)] [(.int (2 : Int32)), (.int i)])) (OEnd s (fun v h L => v = some (.ref (own_pk i c0 c1 c2 c3 c4 c5 c6 c7)) ∧ Fr n0 L ∧ h = h0) ({ frames := 0, cells := 0, slots := 0, locals := 0 } : Room).cells ({ frames := 0, cells := 0, slots := 0, locals := 0 } : Room).slots)
      by_cases hc2 : i = (2 : Int32)
      · refine OGo.step (fun _ kk => XS.icmpNo X0.here hx rfl (hb hby own_d_method_2_code_24) rfl (teq hc2).2 kk) ?_
        show OGo p e below (s₁.setTop (mkF m 27 #[.val (.int x1), .val (.int i)] [])) (OEnd s (fun v h L => v = some (.ref (own_pk i c0 c1 c2 c3 c4 c5 c6 c7)) ∧ Fr n0 L ∧ h = h0) ({ frames := 0, cells := 0, slots := 0, locals := 0 } : Room).cells ({ frames := 0, cells := 0, slots := 0, locals := 0 } : Room).slots)
        obtain ⟨T3, X3, e3, st3⟩ := getS2 X0 hx hZ hown (host := "") (Or.inl (hw _ (List.mem_of_getElem? (i := 9) rfl))) Via.refl e0 (S2.ext O0.2) (g := (mkF m 27 #[.val (.int x1), .val (.int i)] [])) rfl (hb hby own_d_method_2_code_27)
        refine OGo.step st3 ?_
        show OGo p e below (T3.setTop (mkF m 30 #[.val (.int x1), .val (.int i)] [(.ref c2)])) (OEnd s (fun v h L => v = some (.ref (own_pk i c0 c1 c2 c3 c4 c5 c6 c7)) ∧ Fr n0 L ∧ h = h0) ({ frames := 0, cells := 0, slots := 0, locals := 0 } : Room).cells ({ frames := 0, cells := 0, slots := 0, locals := 0 } : Room).slots)
        exact own_ret X3 hx hlk hret rfl (Or.inr (Or.inr (Or.inr (Or.inr ⟨rfl, rfl, rfl⟩)))) (hb hby own_d_method_2_code_30) ⟨by unfold own_pk; rw [if_neg hc0, if_neg hc1, if_pos hc2], N0, e3⟩ (by decide) (by decide)
      · refine OGo.step (fun _ kk => XS.icmpYes X0.here hx rfl (pc0 := 24) (pc' := 31) rfl (hb hby own_d_method_2_code_24) rfl (feq hc2).2 (by decide) (by decide) kk) ?_
        show OGo p e below (s₁.setTop (mkF m 31 #[.val (.int x1), .val (.int i)] [])) (OEnd s (fun v h L => v = some (.ref (own_pk i c0 c1 c2 c3 c4 c5 c6 c7)) ∧ Fr n0 L ∧ h = h0) ({ frames := 0, cells := 0, slots := 0, locals := 0 } : Room).cells ({ frames := 0, cells := 0, slots := 0, locals := 0 } : Room).slots)
        refine OGo.step (fun _ kk => XS.iloadN X0.here hx rfl (hb hby own_d_method_2_code_31) rfl kk) ?_
        show OGo p e below (s₁.setTop (mkF m 32 #[.val (.int x1), .val (.int i)] [(.int i)])) (OEnd s (fun v h L => v = some (.ref (own_pk i c0 c1 c2 c3 c4 c5 c6 c7)) ∧ Fr n0 L ∧ h = h0) ({ frames := 0, cells := 0, slots := 0, locals := 0 } : Room).cells ({ frames := 0, cells := 0, slots := 0, locals := 0 } : Room).slots)
        refine OGo.step (fun _ kk => XS.iconst X0.here hx rfl (hb hby own_d_method_2_code_32) kk) ?_
        show OGo p e below (s₁.setTop (mkF m 33 #[.val (.int x1), .val (.int i)] [(.int (3 : Int32)), (.int i)])) (OEnd s (fun v h L => v = some (.ref (own_pk i c0 c1 c2 c3 c4 c5 c6 c7)) ∧ Fr n0 L ∧ h = h0) ({ frames := 0, cells := 0, slots := 0, locals := 0 } : Room).cells ({ frames := 0, cells := 0, slots := 0, locals := 0 } : Room).slots)
        by_cases hc3 : i = (3 : Int32)
        · refine OGo.step (fun _ kk => XS.icmpNo X0.here hx rfl (hb hby own_d_method_2_code_33) rfl (teq hc3).2 kk) ?_
          show OGo p e below (s₁.setTop (mkF m 36 #[.val (.int x1), .val (.int i)] [])) (OEnd s (fun v h L => v = some (.ref (own_pk i c0 c1 c2 c3 c4 c5 c6 c7)) ∧ Fr n0 L ∧ h = h0) ({ frames := 0, cells := 0, slots := 0, locals := 0 } : Room).cells ({ frames := 0, cells := 0, slots := 0, locals := 0 } : Room).slots)
          obtain ⟨T4, X4, e4, st4⟩ := getS2 X0 hx hZ hown (host := "") (Or.inl (hw _ (List.mem_of_getElem? (i := 7) rfl))) Via.refl e0 (S3.ext O0.2) (g := (mkF m 36 #[.val (.int x1), .val (.int i)] [])) rfl (hb hby own_d_method_2_code_36)
          refine OGo.step st4 ?_
          show OGo p e below (T4.setTop (mkF m 39 #[.val (.int x1), .val (.int i)] [(.ref c3)])) (OEnd s (fun v h L => v = some (.ref (own_pk i c0 c1 c2 c3 c4 c5 c6 c7)) ∧ Fr n0 L ∧ h = h0) ({ frames := 0, cells := 0, slots := 0, locals := 0 } : Room).cells ({ frames := 0, cells := 0, slots := 0, locals := 0 } : Room).slots)
          exact own_ret X4 hx hlk hret rfl (Or.inr (Or.inr (Or.inr (Or.inr ⟨rfl, rfl, rfl⟩)))) (hb hby own_d_method_2_code_39) ⟨by unfold own_pk; rw [if_neg hc0, if_neg hc1, if_neg hc2, if_pos hc3], N0, e4⟩ (by decide) (by decide)
        · refine OGo.step (fun _ kk => XS.icmpYes X0.here hx rfl (pc0 := 33) (pc' := 40) rfl (hb hby own_d_method_2_code_33) rfl (feq hc3).2 (by decide) (by decide) kk) ?_
          show OGo p e below (s₁.setTop (mkF m 40 #[.val (.int x1), .val (.int i)] [])) (OEnd s (fun v h L => v = some (.ref (own_pk i c0 c1 c2 c3 c4 c5 c6 c7)) ∧ Fr n0 L ∧ h = h0) ({ frames := 0, cells := 0, slots := 0, locals := 0 } : Room).cells ({ frames := 0, cells := 0, slots := 0, locals := 0 } : Room).slots)
          refine OGo.step (fun _ kk => XS.iloadN X0.here hx rfl (hb hby own_d_method_2_code_40) rfl kk) ?_
          show OGo p e below (s₁.setTop (mkF m 41 #[.val (.int x1), .val (.int i)] [(.int i)])) (OEnd s (fun v h L => v = some (.ref (own_pk i c0 c1 c2 c3 c4 c5 c6 c7)) ∧ Fr n0 L ∧ h = h0) ({ frames := 0, cells := 0, slots := 0, locals := 0 } : Room).cells ({ frames := 0, cells := 0, slots := 0, locals := 0 } : Room).slots)
          refine OGo.step (fun _ kk => XS.iconst X0.here hx rfl (hb hby own_d_method_2_code_41) kk) ?_
          show OGo p e below (s₁.setTop (mkF m 42 #[.val (.int x1), .val (.int i)] [(.int (4 : Int32)), (.int i)])) (OEnd s (fun v h L => v = some (.ref (own_pk i c0 c1 c2 c3 c4 c5 c6 c7)) ∧ Fr n0 L ∧ h = h0) ({ frames := 0, cells := 0, slots := 0, locals := 0 } : Room).cells ({ frames := 0, cells := 0, slots := 0, locals := 0 } : Room).slots)
          by_cases hc4 : i = (4 : Int32)
          · refine OGo.step (fun _ kk => XS.icmpNo X0.here hx rfl (hb hby own_d_method_2_code_42) rfl (teq hc4).2 kk) ?_
            show OGo p e below (s₁.setTop (mkF m 45 #[.val (.int x1), .val (.int i)] [])) (OEnd s (fun v h L => v = some (.ref (own_pk i c0 c1 c2 c3 c4 c5 c6 c7)) ∧ Fr n0 L ∧ h = h0) ({ frames := 0, cells := 0, slots := 0, locals := 0 } : Room).cells ({ frames := 0, cells := 0, slots := 0, locals := 0 } : Room).slots)
            obtain ⟨T5, X5, e5, st5⟩ := getS2 X0 hx hZ hown (host := "") (Or.inl (hw _ (List.mem_of_getElem? (i := 68) rfl))) Via.refl e0 (S4.ext O0.2) (g := (mkF m 45 #[.val (.int x1), .val (.int i)] [])) rfl (hb hby own_d_method_2_code_45)
            refine OGo.step st5 ?_
            show OGo p e below (T5.setTop (mkF m 48 #[.val (.int x1), .val (.int i)] [(.ref c4)])) (OEnd s (fun v h L => v = some (.ref (own_pk i c0 c1 c2 c3 c4 c5 c6 c7)) ∧ Fr n0 L ∧ h = h0) ({ frames := 0, cells := 0, slots := 0, locals := 0 } : Room).cells ({ frames := 0, cells := 0, slots := 0, locals := 0 } : Room).slots)
            exact own_ret X5 hx hlk hret rfl (Or.inr (Or.inr (Or.inr (Or.inr ⟨rfl, rfl, rfl⟩)))) (hb hby own_d_method_2_code_48) ⟨by unfold own_pk; rw [if_neg hc0, if_neg hc1, if_neg hc2, if_neg hc3, if_pos hc4], N0, e5⟩ (by decide) (by decide)
          · refine OGo.step (fun _ kk => XS.icmpYes X0.here hx rfl (pc0 := 42) (pc' := 49) rfl (hb hby own_d_method_2_code_42) rfl (feq hc4).2 (by decide) (by decide) kk) ?_
            show OGo p e below (s₁.setTop (mkF m 49 #[.val (.int x1), .val (.int i)] [])) (OEnd s (fun v h L => v = some (.ref (own_pk i c0 c1 c2 c3 c4 c5 c6 c7)) ∧ Fr n0 L ∧ h = h0) ({ frames := 0, cells := 0, slots := 0, locals := 0 } : Room).cells ({ frames := 0, cells := 0, slots := 0, locals := 0 } : Room).slots)
            refine OGo.step (fun _ kk => XS.iloadN X0.here hx rfl (hb hby own_d_method_2_code_49) rfl kk) ?_
            show OGo p e below (s₁.setTop (mkF m 50 #[.val (.int x1), .val (.int i)] [(.int i)])) (OEnd s (fun v h L => v = some (.ref (own_pk i c0 c1 c2 c3 c4 c5 c6 c7)) ∧ Fr n0 L ∧ h = h0) ({ frames := 0, cells := 0, slots := 0, locals := 0 } : Room).cells ({ frames := 0, cells := 0, slots := 0, locals := 0 } : Room).slots)
            refine OGo.step (fun _ kk => XS.iconst X0.here hx rfl (hb hby own_d_method_2_code_50) kk) ?_
            show OGo p e below (s₁.setTop (mkF m 51 #[.val (.int x1), .val (.int i)] [(.int (5 : Int32)), (.int i)])) (OEnd s (fun v h L => v = some (.ref (own_pk i c0 c1 c2 c3 c4 c5 c6 c7)) ∧ Fr n0 L ∧ h = h0) ({ frames := 0, cells := 0, slots := 0, locals := 0 } : Room).cells ({ frames := 0, cells := 0, slots := 0, locals := 0 } : Room).slots)
            by_cases hc5 : i = (5 : Int32)
            · refine OGo.step (fun _ kk => XS.icmpNo X0.here hx rfl (hb hby own_d_method_2_code_51) rfl (teq hc5).2 kk) ?_
              show OGo p e below (s₁.setTop (mkF m 54 #[.val (.int x1), .val (.int i)] [])) (OEnd s (fun v h L => v = some (.ref (own_pk i c0 c1 c2 c3 c4 c5 c6 c7)) ∧ Fr n0 L ∧ h = h0) ({ frames := 0, cells := 0, slots := 0, locals := 0 } : Room).cells ({ frames := 0, cells := 0, slots := 0, locals := 0 } : Room).slots)
              obtain ⟨T6, X6, e6, st6⟩ := getS2 X0 hx hZ hown (host := "") (Or.inl (hw _ (List.mem_of_getElem? (i := 66) rfl))) Via.refl e0 (S5.ext O0.2) (g := (mkF m 54 #[.val (.int x1), .val (.int i)] [])) rfl (hb hby own_d_method_2_code_54)
              refine OGo.step st6 ?_
              show OGo p e below (T6.setTop (mkF m 57 #[.val (.int x1), .val (.int i)] [(.ref c5)])) (OEnd s (fun v h L => v = some (.ref (own_pk i c0 c1 c2 c3 c4 c5 c6 c7)) ∧ Fr n0 L ∧ h = h0) ({ frames := 0, cells := 0, slots := 0, locals := 0 } : Room).cells ({ frames := 0, cells := 0, slots := 0, locals := 0 } : Room).slots)
              exact own_ret X6 hx hlk hret rfl (Or.inr (Or.inr (Or.inr (Or.inr ⟨rfl, rfl, rfl⟩)))) (hb hby own_d_method_2_code_57) ⟨by unfold own_pk; rw [if_neg hc0, if_neg hc1, if_neg hc2, if_neg hc3, if_neg hc4, if_pos hc5], N0, e6⟩ (by decide) (by decide)
            · refine OGo.step (fun _ kk => XS.icmpYes X0.here hx rfl (pc0 := 51) (pc' := 58) rfl (hb hby own_d_method_2_code_51) rfl (feq hc5).2 (by decide) (by decide) kk) ?_
              show OGo p e below (s₁.setTop (mkF m 58 #[.val (.int x1), .val (.int i)] [])) (OEnd s (fun v h L => v = some (.ref (own_pk i c0 c1 c2 c3 c4 c5 c6 c7)) ∧ Fr n0 L ∧ h = h0) ({ frames := 0, cells := 0, slots := 0, locals := 0 } : Room).cells ({ frames := 0, cells := 0, slots := 0, locals := 0 } : Room).slots)
              refine OGo.step (fun _ kk => XS.iloadN X0.here hx rfl (hb hby own_d_method_2_code_58) rfl kk) ?_
              show OGo p e below (s₁.setTop (mkF m 59 #[.val (.int x1), .val (.int i)] [(.int i)])) (OEnd s (fun v h L => v = some (.ref (own_pk i c0 c1 c2 c3 c4 c5 c6 c7)) ∧ Fr n0 L ∧ h = h0) ({ frames := 0, cells := 0, slots := 0, locals := 0 } : Room).cells ({ frames := 0, cells := 0, slots := 0, locals := 0 } : Room).slots)
              refine OGo.step (fun _ kk => XS.bipush X0.here hx rfl (hb hby own_d_method_2_code_59) kk) ?_
              show OGo p e below (s₁.setTop (mkF m 61 #[.val (.int x1), .val (.int i)] [(.int (6 : Int32)), (.int i)])) (OEnd s (fun v h L => v = some (.ref (own_pk i c0 c1 c2 c3 c4 c5 c6 c7)) ∧ Fr n0 L ∧ h = h0) ({ frames := 0, cells := 0, slots := 0, locals := 0 } : Room).cells ({ frames := 0, cells := 0, slots := 0, locals := 0 } : Room).slots)
              by_cases hc6 : i = (6 : Int32)
              · refine OGo.step (fun _ kk => XS.icmpNo X0.here hx rfl (hb hby own_d_method_2_code_61) rfl (teq hc6).2 kk) ?_
                show OGo p e below (s₁.setTop (mkF m 64 #[.val (.int x1), .val (.int i)] [])) (OEnd s (fun v h L => v = some (.ref (own_pk i c0 c1 c2 c3 c4 c5 c6 c7)) ∧ Fr n0 L ∧ h = h0) ({ frames := 0, cells := 0, slots := 0, locals := 0 } : Room).cells ({ frames := 0, cells := 0, slots := 0, locals := 0 } : Room).slots)
                obtain ⟨T7, X7, e7, st7⟩ := getS2 X0 hx hZ hown (host := "") (Or.inl (hw _ (List.mem_of_getElem? (i := 67) rfl))) Via.refl e0 (S6.ext O0.2) (g := (mkF m 64 #[.val (.int x1), .val (.int i)] [])) rfl (hb hby own_d_method_2_code_64)
                refine OGo.step st7 ?_
                show OGo p e below (T7.setTop (mkF m 67 #[.val (.int x1), .val (.int i)] [(.ref c6)])) (OEnd s (fun v h L => v = some (.ref (own_pk i c0 c1 c2 c3 c4 c5 c6 c7)) ∧ Fr n0 L ∧ h = h0) ({ frames := 0, cells := 0, slots := 0, locals := 0 } : Room).cells ({ frames := 0, cells := 0, slots := 0, locals := 0 } : Room).slots)
                exact own_ret X7 hx hlk hret rfl (Or.inr (Or.inr (Or.inr (Or.inr ⟨rfl, rfl, rfl⟩)))) (hb hby own_d_method_2_code_67) ⟨by unfold own_pk; rw [if_neg hc0, if_neg hc1, if_neg hc2, if_neg hc3, if_neg hc4, if_neg hc5, if_pos hc6], N0, e7⟩ (by decide) (by decide)
              · refine OGo.step (fun _ kk => XS.icmpYes X0.here hx rfl (pc0 := 61) (pc' := 68) rfl (hb hby own_d_method_2_code_61) rfl (feq hc6).2 (by decide) (by decide) kk) ?_
                show OGo p e below (s₁.setTop (mkF m 68 #[.val (.int x1), .val (.int i)] [])) (OEnd s (fun v h L => v = some (.ref (own_pk i c0 c1 c2 c3 c4 c5 c6 c7)) ∧ Fr n0 L ∧ h = h0) ({ frames := 0, cells := 0, slots := 0, locals := 0 } : Room).cells ({ frames := 0, cells := 0, slots := 0, locals := 0 } : Room).slots)
                obtain ⟨T8, X8, e8, st8⟩ := getS2 X0 hx hZ hown (host := "") (Or.inl (hw _ (List.mem_of_getElem? (i := 65) rfl))) Via.refl e0 (S7.ext O0.2) (g := (mkF m 68 #[.val (.int x1), .val (.int i)] [])) rfl (hb hby own_d_method_2_code_68)
                refine OGo.step st8 ?_
                show OGo p e below (T8.setTop (mkF m 71 #[.val (.int x1), .val (.int i)] [(.ref c7)])) (OEnd s (fun v h L => v = some (.ref (own_pk i c0 c1 c2 c3 c4 c5 c6 c7)) ∧ Fr n0 L ∧ h = h0) ({ frames := 0, cells := 0, slots := 0, locals := 0 } : Room).cells ({ frames := 0, cells := 0, slots := 0, locals := 0 } : Room).slots)
                exact own_ret X8 hx hlk hret rfl (Or.inr (Or.inr (Or.inr (Or.inr ⟨rfl, rfl, rfl⟩)))) (hb hby own_d_method_2_code_71) ⟨by unfold own_pk; rw [if_neg hc0, if_neg hc1, if_neg hc2, if_neg hc3, if_neg hc4, if_neg hc5, if_neg hc6], N0, e8⟩ (by decide) (by decide)

set_option maxRecDepth 65536 in
set_option maxHeartbeats 40000000 in
theorem own_rm4 (l : Launch) (Z : State) (a0 : Array Value) (hw : ∀ d ∈ tables_1, d.before a0 Z = true) (ws : List Jvm.Cond) (va : Addr) (vc : Cell) (h0 : Heap) (n0 : Nat) (Z0 : n0 ≤ h0.size) (SV : Sta Z Z.heap "com/example/slotwise/slotwise/curriculum/Measure" "$VALUES" "[Lcom/example/slotwise/slotwise/curriculum/Measure;" (.ref va)) (AV : Arr Z Z.heap va vc (.object "com/example/slotwise/slotwise/curriculum/Measure")) (EV : Exa Z Z.heap va "[Lcom/example/slotwise/slotwise/curriculum/Measure;") (FV : FitC Z vc) (VS : vc.slots.size = 8) (O0 : Old Z n0 h0) :
    OMet l Z (⟨"com/example/slotwise/slotwise/curriculum/Measure", "values", "()[Lcom/example/slotwise/slotwise/curriculum/Measure;"⟩ : MethodName) prog_17_method_1_code 0 (some (.array (.object "com/example/slotwise/slotwise/curriculum/Measure"))) ws ({ frames := 1, cells := 1, slots := 8, locals := 14 } : Room) #[] h0 (fun v h L => ∃ b : Addr, v = some (.ref b) ∧ Fr n0 L ∧ Ext h0 h ∧ Arr Z h b (cloneOf vc) (.object "com/example/slotwise/slotwise/curriculum/Measure")) := by
  refine OMet.body (plainFor_of_name own_pn1) ?_
  intro p e s m below meth c s₁ hx hby hml hown hnm hret hlk hZ X0 e0
  refine OGo.step (fun _ kk => castTop (show entryFrame m #[] 0 = (mkF m 0 #[] []) from by first | (simp [entryFrame, mkF, argsToLocals, Value.category]; done) | rfl) kk) ?_
  show OGo p e below (s₁.setTop (mkF m 0 #[] [])) (OEnd s (fun v h L => ∃ b : Addr, v = some (.ref b) ∧ Fr n0 L ∧ Ext h0 h ∧ Arr Z h b (cloneOf vc) (.object "com/example/slotwise/slotwise/curriculum/Measure")) ({ frames := 1, cells := 1, slots := 8, locals := 14 } : Room).cells ({ frames := 1, cells := 1, slots := 8, locals := 14 } : Room).slots)
  have N0 := Fr.nil n0
  obtain ⟨T9, X9, e9, st9⟩ := getS2 X0 hx hZ hown (host := "") (Or.inl (hw _ (List.mem_of_getElem? (i := 23) rfl))) Via.refl e0 (SV.ext O0.2) (g := (mkF m 0 #[] [])) rfl (hb hby own_d_prog_17_method_1_code_0)
  refine OGo.step st9 ?_
  show OGo p e below (T9.setTop (mkF m 3 #[] [(.ref va)])) (OEnd s (fun v h L => ∃ b : Addr, v = some (.ref b) ∧ Fr n0 L ∧ Ext h0 h ∧ Arr Z h b (cloneOf vc) (.object "com/example/slotwise/slotwise/curriculum/Measure")) ({ frames := 1, cells := 1, slots := 8, locals := 14 } : Room).cells ({ frames := 1, cells := 1, slots := 8, locals := 14 } : Room).slots)
  obtain ⟨T10, h10, X10, e10, E10, A10, B10, st10⟩ := cloneA X9 hx hZ hown (hw _ (List.mem_of_getElem? (i := 25) rfl)) (hw _ (List.mem_of_getElem? (i := 26) rfl)) (hw _ (List.mem_of_getElem? (i := 30) rfl)) (hw _ (List.mem_of_getElem? (i := 28) rfl)) (hw _ (List.mem_of_getElem? (i := 29) rfl)) (hw _ (List.mem_of_getElem? (i := 31) rfl)) e9 (AV.ext O0.2) (EV.ext O0.2) FV (g := (mkF m 3 #[] [(.ref va)])) rfl (by rw [hml]; rfl) rfl (hb hby own_d_prog_17_method_1_code_3) (by decide) (W := 0) (cap := 8) (by show 2 * 0 + _ ≤ _; exact Nat.le_of_eq rfl) (by decide) (Nat.le_of_eq VS) (by decide) (by decide)
  obtain ⟨b, g10⟩ : ∃ z, z = h0.size := ⟨_, rfl⟩
  rw [← g10] at A10 B10 st10
  refine OGo.step st10 ?_
  show OGo p e below (T10.setTop (mkF m 6 #[] [(.ref b)])) (OEnd s (fun v h L => ∃ b : Addr, v = some (.ref b) ∧ Fr n0 L ∧ Ext h0 h ∧ Arr Z h b (cloneOf vc) (.object "com/example/slotwise/slotwise/curriculum/Measure")) ({ frames := 1, cells := 1, slots := 8, locals := 14 } : Room).cells ({ frames := 1, cells := 1, slots := 8, locals := 14 } : Room).slots)
  obtain ⟨T11, X11, e11, st11⟩ := castY X10 hx hZ hown (hw _ (List.mem_of_getElem? (i := 38) rfl)) e10 (Ins.self B10) (g := (mkF m 6 #[] [(.ref b)])) rfl rfl (hb hby own_d_prog_17_method_1_code_6)
  refine OGo.step st11 ?_
  show OGo p e below (T11.setTop (mkF m 9 #[] [(.ref b)])) (OEnd s (fun v h L => ∃ b : Addr, v = some (.ref b) ∧ Fr n0 L ∧ Ext h0 h ∧ Arr Z h b (cloneOf vc) (.object "com/example/slotwise/slotwise/curriculum/Measure")) ({ frames := 1, cells := 1, slots := 8, locals := 14 } : Room).cells ({ frames := 1, cells := 1, slots := 8, locals := 14 } : Room).slots)
  exact own_ret X11 hx hlk hret rfl (Or.inr (Or.inr (Or.inr (Or.inr ⟨rfl, rfl, rfl⟩)))) (hb hby own_d_prog_17_method_1_code_9) (by rw [e11]; exact ⟨b, rfl, N0, E10, A10⟩) (by decide) (by decide)

set_option maxRecDepth 65536 in
set_option maxHeartbeats 40000000 in
theorem own_rm2 (l : Launch) (Z : State) (a0 : Array Value) (hw : ∀ d ∈ tables_1, d.before a0 Z = true) (ws : List Jvm.Cond) (a1 : Addr) (u1 : Value) (va : Addr) (vc : Cell) (h0 : Heap) (n0 : Nat) (Z0 : n0 ≤ h0.size) (SV : Sta Z Z.heap "com/example/slotwise/slotwise/curriculum/Measure" "$VALUES" "[Lcom/example/slotwise/slotwise/curriculum/Measure;" (.ref va)) (AV : Arr Z Z.heap va vc (.object "com/example/slotwise/slotwise/curriculum/Measure")) (EV : Exa Z Z.heap va "[Lcom/example/slotwise/slotwise/curriculum/Measure;") (FV : FitC Z vc) (VS : vc.slots.size = 8) (O0 : Old Z n0 h0) (E1 : Exa Z h0 a1 "com/example/slotwise/slotwise/curriculum/Score") (F1 : Fld Z h0 a1 "com/example/slotwise/slotwise/curriculum/Score" "values" "[J" u1) (g1 : n0 ≤ a1) :
    OMet l Z (⟨"com/example/slotwise/slotwise/curriculum/Score", "<init>", "()V"⟩ : MethodName) prog_19_method_1_code 1 none ws ({ frames := 2, cells := 2, slots := 16, locals := 26 } : Room) #[(.ref a1)] h0 (fun v h L => ∃ t : Addr, v = none ∧ n0 ≤ t ∧ t ≠ a1 ∧ Fr n0 L ∧ Keep h0 h [a1] ∧ Exa Z h a1 "com/example/slotwise/slotwise/curriculum/Score" ∧ Fld Z h a1 "com/example/slotwise/slotwise/curriculum/Score" "values" "[J" (.ref t) ∧ own_Arr8 Z h t (fun _ => 0)) := by
  refine OMet.body (plainFor_of_name own_pn2) ?_
  intro p e s m below meth c s₁ hx hby hml hown hnm hret hlk hZ X0 e0
  refine OGo.step (fun _ kk => castTop (show entryFrame m #[(.ref a1)] 1 = (mkF m 0 #[.val (.ref a1)] []) from by first | (simp [entryFrame, mkF, argsToLocals, Value.category]; done) | rfl) kk) ?_
  show OGo p e below (s₁.setTop (mkF m 0 #[.val (.ref a1)] [])) (OEnd s (fun v h L => ∃ t : Addr, v = none ∧ n0 ≤ t ∧ t ≠ a1 ∧ Fr n0 L ∧ Keep h0 h [a1] ∧ Exa Z h a1 "com/example/slotwise/slotwise/curriculum/Score" ∧ Fld Z h a1 "com/example/slotwise/slotwise/curriculum/Score" "values" "[J" (.ref t) ∧ own_Arr8 Z h t (fun _ => 0)) ({ frames := 2, cells := 2, slots := 16, locals := 26 } : Room).cells ({ frames := 2, cells := 2, slots := 16, locals := 26 } : Room).slots)
  have N0 := Fr.nil n0
  refine OGo.step (fun _ kk => XS.aloadN X0.here hx rfl (hb hby own_d_prog_19_method_1_code_0) rfl rfl kk) ?_
  show OGo p e below (s₁.setTop (mkF m 1 #[.val (.ref a1)] [(.ref a1)])) (OEnd s (fun v h L => ∃ t : Addr, v = none ∧ n0 ≤ t ∧ t ≠ a1 ∧ Fr n0 L ∧ Keep h0 h [a1] ∧ Exa Z h a1 "com/example/slotwise/slotwise/curriculum/Score" ∧ Fld Z h a1 "com/example/slotwise/slotwise/curriculum/Score" "values" "[J" (.ref t) ∧ own_Arr8 Z h t (fun _ => 0)) ({ frames := 2, cells := 2, slots := 16, locals := 26 } : Room).cells ({ frames := 2, cells := 2, slots := 16, locals := 26 } : Room).slots)
  obtain ⟨T12, X12, e12, st12⟩ := initO X0 hx hZ hown (hw _ (List.mem_of_getElem? (i := 17) rfl)) (hw _ (List.mem_of_getElem? (i := 18) rfl)) (hw _ (List.mem_of_getElem? (i := 19) rfl)) e0 (g := (mkF m 1 #[.val (.ref a1)] [(.ref a1)])) rfl (by rw [hml]; rfl) rfl (hb hby own_d_prog_19_method_1_code_1) (by decide) (W := 0) (by show 2 * 0 + _ ≤ _; exact Nat.le_of_eq rfl) (by decide)
  refine OGo.step st12 ?_
  show OGo p e below (T12.setTop (mkF m 4 #[.val (.ref a1)] [])) (OEnd s (fun v h L => ∃ t : Addr, v = none ∧ n0 ≤ t ∧ t ≠ a1 ∧ Fr n0 L ∧ Keep h0 h [a1] ∧ Exa Z h a1 "com/example/slotwise/slotwise/curriculum/Score" ∧ Fld Z h a1 "com/example/slotwise/slotwise/curriculum/Score" "values" "[J" (.ref t) ∧ own_Arr8 Z h t (fun _ => 0)) ({ frames := 2, cells := 2, slots := 16, locals := 26 } : Room).cells ({ frames := 2, cells := 2, slots := 16, locals := 26 } : Room).slots)
  refine OGo.step (fun _ kk => XS.aloadN X12.here hx rfl (hb hby own_d_prog_19_method_1_code_4) rfl rfl kk) ?_
  show OGo p e below (T12.setTop (mkF m 5 #[.val (.ref a1)] [(.ref a1)])) (OEnd s (fun v h L => ∃ t : Addr, v = none ∧ n0 ≤ t ∧ t ≠ a1 ∧ Fr n0 L ∧ Keep h0 h [a1] ∧ Exa Z h a1 "com/example/slotwise/slotwise/curriculum/Score" ∧ Fld Z h a1 "com/example/slotwise/slotwise/curriculum/Score" "values" "[J" (.ref t) ∧ own_Arr8 Z h t (fun _ => 0)) ({ frames := 2, cells := 2, slots := 16, locals := 26 } : Room).cells ({ frames := 2, cells := 2, slots := 16, locals := 26 } : Room).slots)
  refine own_callS X12 hx hZ (y := (⟨"com/example/slotwise/slotwise/curriculum/Measure", "values", "()[Lcom/example/slotwise/slotwise/curriculum/Measure;"⟩ : MethodName)) hown (hw _ (List.mem_of_getElem? (i := 20) rfl)) (hw _ (List.mem_of_getElem? (i := 21) rfl)) (hw _ (List.mem_of_getElem? (i := 5) rfl)) (hw _ (List.mem_of_getElem? (i := 22) rfl)) (by decide) (W := 1) (own_rm4 l Z a0 hw [] va vc h0 n0 Z0 SV AV EV FV VS O0) e12  (pc := 5) (Ls := #[.val (.ref a1)]) (argsL := []) (rest := [(.ref a1)]) (by rw [hml]; rfl) (lenOf own_pd0 rfl) rfl (hb hby own_d_prog_19_method_1_code_5) (by decide) (by decide) (by decide) (by decide) ?_
  intro v13 T13 L13 X13 hQ13
  obtain ⟨vb, rfl, N13, X0', AB⟩ := hQ13
  show OGo p e below (T13.setTop (mkF m 8 #[.val (.ref a1)] [(.ref vb), (.ref a1)])) (OEnd s (fun v h L => ∃ t : Addr, v = none ∧ n0 ≤ t ∧ t ≠ a1 ∧ Fr n0 L ∧ Keep h0 h [a1] ∧ Exa Z h a1 "com/example/slotwise/slotwise/curriculum/Score" ∧ Fld Z h a1 "com/example/slotwise/slotwise/curriculum/Score" "values" "[J" (.ref t) ∧ own_Arr8 Z h t (fun _ => 0)) ({ frames := 2, cells := 2, slots := 16, locals := 26 } : Room).cells ({ frames := 2, cells := 2, slots := 16, locals := 26 } : Room).slots)
  refine OGo.step (fun _ kk => X13.arraylength hx (AB).1 (State.isArrayOf_alike hZ.alike (AB).2.1) (g := (mkF m 8 #[.val (.ref a1)] [(.ref vb), (.ref a1)])) rfl rfl (hb hby own_d_prog_19_method_1_code_8) _ kk) ?_
  rw [len_of (z := 8) VS (by decide)]
  show OGo p e below (T13.setTop (mkF m 9 #[.val (.ref a1)] [(.int (8 : Int32)), (.ref a1)])) (OEnd s (fun v h L => ∃ t : Addr, v = none ∧ n0 ≤ t ∧ t ≠ a1 ∧ Fr n0 L ∧ Keep h0 h [a1] ∧ Exa Z h a1 "com/example/slotwise/slotwise/curriculum/Score" ∧ Fld Z h a1 "com/example/slotwise/slotwise/curriculum/Score" "values" "[J" (.ref t) ∧ own_Arr8 Z h t (fun _ => 0)) ({ frames := 2, cells := 2, slots := 16, locals := 26 } : Room).cells ({ frames := 2, cells := 2, slots := 16, locals := 26 } : Room).slots)
  obtain ⟨T14, h14, k14, X14, e14, E14, A14, st14⟩ := newP X13 hx hZ (hw _ (List.mem_of_getElem? (i := 40) rfl)) rfl (g := (mkF m 9 #[.val (.ref a1)] [(.int (8 : Int32)), (.ref a1)])) rfl (hb hby own_d_prog_19_method_1_code_9) rfl (by decide) (cap := 8) (by decide) (by decide) (by decide) (by decide)
  obtain ⟨t, g14⟩ : ∃ z, z = T13.heap.size := ⟨_, rfl⟩
  rw [← g14] at A14 st14
  refine OGo.step st14 ?_
  show OGo p e below (T14.setTop (mkF m 11 #[.val (.ref a1)] [(.ref t), (.ref a1)])) (OEnd s (fun v h L => ∃ t : Addr, v = none ∧ n0 ≤ t ∧ t ≠ a1 ∧ Fr n0 L ∧ Keep h0 h [a1] ∧ Exa Z h a1 "com/example/slotwise/slotwise/curriculum/Score" ∧ Fld Z h a1 "com/example/slotwise/slotwise/curriculum/Score" "values" "[J" (.ref t) ∧ own_Arr8 Z h t (fun _ => 0)) ({ frames := 2, cells := 2, slots := 16, locals := 26 } : Room).cells ({ frames := 2, cells := 2, slots := 16, locals := 26 } : Room).slots)
  have gt : n0 ≤ t := Nat.le_trans (Nat.le_trans Z0 X0'.1) (Nat.le_of_eq g14.symm)
  have E2 : Exa Z h14 a1 "com/example/slotwise/slotwise/curriculum/Score" := (E1.ext X0').ext E14
  have F2 : Fld Z h14 a1 "com/example/slotwise/slotwise/curriculum/Score" "values" "[J" u1 := (F1.ext X0').ext E14
  have A8 : own_Arr8 Z h14 t (fun _ => 0) := ⟨_, A14, sz_new _ _ _, fun j hj => get_new (by rw [sz_new] at hj; exact hj)⟩
  have tne : t ≠ a1 := fun z => Nat.lt_irrefl _ (Nat.lt_of_lt_of_le (F1.ext X0').lt (Nat.le_trans (Nat.le_of_eq g14.symm) (Nat.le_of_eq z)))
  obtain ⟨T15, h15, X15, e15, W15, st15⟩ := putF X14 hx hZ hown (host := "") (Or.inl (hw _ (List.mem_of_getElem? (i := 41) rfl))) Via.refl e14 F2 E2 (Or.inr ⟨(hw _ (List.mem_of_getElem? (i := 42) rfl)), rfl, hnm⟩) (hw _ (List.mem_of_getElem? (i := 12) rfl)) (ty := (.array .long)) (by decide) rfl rfl (g := (mkF m 11 #[.val (.ref a1)] [(.ref t), (.ref a1)])) rfl rfl (hb hby own_d_prog_19_method_1_code_11)
  refine OGo.step st15 ?_
  show OGo p e below (T15.setTop (mkF m 14 #[.val (.ref a1)] [])) (OEnd s (fun v h L => ∃ t : Addr, v = none ∧ n0 ≤ t ∧ t ≠ a1 ∧ Fr n0 L ∧ Keep h0 h [a1] ∧ Exa Z h a1 "com/example/slotwise/slotwise/curriculum/Score" ∧ Fld Z h a1 "com/example/slotwise/slotwise/curriculum/Score" "values" "[J" (.ref t) ∧ own_Arr8 Z h t (fun _ => 0)) ({ frames := 2, cells := 2, slots := 16, locals := 26 } : Room).cells ({ frames := 2, cells := 2, slots := 16, locals := 26 } : Room).slots)
  obtain ⟨cl, Ac, sc, Hc⟩ := A8
  exact own_ret0 X15 hx hlk hret (hb hby own_d_prog_19_method_1_code_14) (by rw [e15]; exact ⟨t, rfl, gt, tne, Fr.snoc X15 (N0.app N13) g1, (((Keep.refl h0 [a1]).ext X0').ext E14).wr W15 (Or.inl (List.mem_of_getElem? (i := 0) rfl)), E2.wr W15, F2.same W15, cl, Ac.other W15 tne, sc, Hc⟩) (by decide) (by decide)

set_option maxRecDepth 65536 in
set_option maxHeartbeats 40000000 in
theorem own_rm6 (l : Launch) (Z : State) (a0 : Array Value) (hw : ∀ d ∈ tables_1, d.before a0 Z = true) (ws : List Jvm.Cond) (a1 : Addr) (i1 : Int32) (h0 : Heap) (n0 : Nat) (Z0 : n0 ≤ h0.size) (F1 : Fld Z h0 a1 "java/lang/Enum" "ordinal" "I" (.int i1)) :
    OMet l Z (⟨"java/lang/Enum", "ordinal", "()I"⟩ : MethodName) jdk_37_method_2_code 1 (some .int) ws ({ frames := 0, cells := 0, slots := 0, locals := 0 } : Room) #[(.ref a1)] h0 (fun v h L => v = some (.int i1) ∧ Fr n0 L ∧ h = h0) := by
  refine OMet.body (plainFor_of_name own_pn3) ?_
  intro p e s m below meth c s₁ hx hby hml hown hnm hret hlk hZ X0 e0
  refine OGo.step (fun _ kk => castTop (show entryFrame m #[(.ref a1)] 1 = (mkF m 0 #[.val (.ref a1)] []) from by first | (simp [entryFrame, mkF, argsToLocals, Value.category]; done) | rfl) kk) ?_
  show OGo p e below (s₁.setTop (mkF m 0 #[.val (.ref a1)] [])) (OEnd s (fun v h L => v = some (.int i1) ∧ Fr n0 L ∧ h = h0) ({ frames := 0, cells := 0, slots := 0, locals := 0 } : Room).cells ({ frames := 0, cells := 0, slots := 0, locals := 0 } : Room).slots)
  have N0 := Fr.nil n0
  refine OGo.step (fun _ kk => XS.aloadN X0.here hx rfl (hb hby own_d_jdk_37_method_2_code_0) rfl rfl kk) ?_
  show OGo p e below (s₁.setTop (mkF m 1 #[.val (.ref a1)] [(.ref a1)])) (OEnd s (fun v h L => v = some (.int i1) ∧ Fr n0 L ∧ h = h0) ({ frames := 0, cells := 0, slots := 0, locals := 0 } : Room).cells ({ frames := 0, cells := 0, slots := 0, locals := 0 } : Room).slots)
  obtain ⟨T16, X16, e16, st16⟩ := getF X0 hx hZ hown (host := "") (Or.inl (hw _ (List.mem_of_getElem? (i := 55) rfl))) Via.refl e0 F1 (g := (mkF m 1 #[.val (.ref a1)] [(.ref a1)])) rfl rfl (hb hby own_d_jdk_37_method_2_code_1)
  refine OGo.step st16 ?_
  show OGo p e below (T16.setTop (mkF m 4 #[.val (.ref a1)] [(.int i1)])) (OEnd s (fun v h L => v = some (.int i1) ∧ Fr n0 L ∧ h = h0) ({ frames := 0, cells := 0, slots := 0, locals := 0 } : Room).cells ({ frames := 0, cells := 0, slots := 0, locals := 0 } : Room).slots)
  exact own_ret X16 hx hlk hret rfl (Or.inl ⟨rfl, Or.inl rfl, _, rfl⟩) (hb hby own_d_jdk_37_method_2_code_4) ⟨rfl, N0, e16⟩ (by decide) (by decide)

set_option maxRecDepth 65536 in
set_option maxHeartbeats 40000000 in
theorem own_rm5 (l : Launch) (Z : State) (a0 : Array Value) (hw : ∀ d ∈ tables_1, d.before a0 Z = true) (ws : List Jvm.Cond) (a1 b1 t : Addr) (q1 : Int64) (i : Int32) (f : Int32 → Int64) (h0 : Heap) (n0 : Nat) (Z0 : n0 ≤ h0.size) (E2 : Exa Z h0 b1 "com/example/slotwise/slotwise/curriculum/Measure") (F1 : Fld Z h0 a1 "com/example/slotwise/slotwise/curriculum/Score" "values" "[J" (.ref t)) (F2 : Fld Z h0 b1 "java/lang/Enum" "ordinal" "I" (.int i)) (A1 : own_Arr8 Z h0 t f) (hi : i = 0 ∨ i = 1 ∨ i = 2 ∨ i = 3 ∨ i = 4 ∨ i = 5 ∨ i = 6 ∨ i = 7) (gt : n0 ≤ t) :
    OMet l Z (⟨"com/example/slotwise/slotwise/curriculum/Score", "add", "(Lcom/example/slotwise/slotwise/curriculum/Measure;J)V"⟩ : MethodName) prog_19_method_2_code 4 none ws ({ frames := 1, cells := 0, slots := 0, locals := 14 } : Room) #[(.ref a1), (.ref b1), (.long q1)] h0 (fun v h L => v = none ∧ Fr n0 L ∧ Keep h0 h [t] ∧ own_Arr8 Z h t (fun j => if j = i then f i + q1 else f j)) := by
  refine OMet.body (plainFor_of_name own_pn2) ?_
  intro p e s m below meth c s₁ hx hby hml hown hnm hret hlk hZ X0 e0
  refine OGo.step (fun _ kk => castTop (show entryFrame m #[(.ref a1), (.ref b1), (.long q1)] 4 = (mkF m 0 #[.val (.ref a1), .val (.ref b1), .val (.long q1), .second] []) from by first | (simp [entryFrame, mkF, argsToLocals, Value.category]; done) | rfl) kk) ?_
  show OGo p e below (s₁.setTop (mkF m 0 #[.val (.ref a1), .val (.ref b1), .val (.long q1), .second] [])) (OEnd s (fun v h L => v = none ∧ Fr n0 L ∧ Keep h0 h [t] ∧ own_Arr8 Z h t (fun j => if j = i then f i + q1 else f j)) ({ frames := 1, cells := 0, slots := 0, locals := 14 } : Room).cells ({ frames := 1, cells := 0, slots := 0, locals := 14 } : Room).slots)
  have N0 := Fr.nil n0
  obtain ⟨cl, Ac, sc, Hc⟩ := A1
  have inb := own_in8 sc hi
  refine OGo.step (fun _ kk => XS.aloadN X0.here hx rfl (hb hby own_d_prog_19_method_2_code_0) rfl rfl kk) ?_
  show OGo p e below (s₁.setTop (mkF m 1 #[.val (.ref a1), .val (.ref b1), .val (.long q1), .second] [(.ref a1)])) (OEnd s (fun v h L => v = none ∧ Fr n0 L ∧ Keep h0 h [t] ∧ own_Arr8 Z h t (fun j => if j = i then f i + q1 else f j)) ({ frames := 1, cells := 0, slots := 0, locals := 14 } : Room).cells ({ frames := 1, cells := 0, slots := 0, locals := 14 } : Room).slots)
  obtain ⟨T17, X17, e17, st17⟩ := getF X0 hx hZ hown (host := "") (Or.inl (hw _ (List.mem_of_getElem? (i := 41) rfl))) Via.refl e0 F1 (g := (mkF m 1 #[.val (.ref a1), .val (.ref b1), .val (.long q1), .second] [(.ref a1)])) rfl rfl (hb hby own_d_prog_19_method_2_code_1)
  refine OGo.step st17 ?_
  show OGo p e below (T17.setTop (mkF m 4 #[.val (.ref a1), .val (.ref b1), .val (.long q1), .second] [(.ref t)])) (OEnd s (fun v h L => v = none ∧ Fr n0 L ∧ Keep h0 h [t] ∧ own_Arr8 Z h t (fun j => if j = i then f i + q1 else f j)) ({ frames := 1, cells := 0, slots := 0, locals := 14 } : Room).cells ({ frames := 1, cells := 0, slots := 0, locals := 14 } : Room).slots)
  refine OGo.step (fun _ kk => XS.aloadN X17.here hx rfl (hb hby own_d_prog_19_method_2_code_4) rfl rfl kk) ?_
  show OGo p e below (T17.setTop (mkF m 5 #[.val (.ref a1), .val (.ref b1), .val (.long q1), .second] [(.ref b1), (.ref t)])) (OEnd s (fun v h L => v = none ∧ Fr n0 L ∧ Keep h0 h [t] ∧ own_Arr8 Z h t (fun j => if j = i then f i + q1 else f j)) ({ frames := 1, cells := 0, slots := 0, locals := 14 } : Room).cells ({ frames := 1, cells := 0, slots := 0, locals := 14 } : Room).slots)
  refine own_virtualUp X17 hx hZ (y := (⟨"com/example/slotwise/slotwise/curriculum/Measure", "ordinal", "()I"⟩ : MethodName)) (z := (⟨"java/lang/Enum", "ordinal", "()I"⟩ : MethodName)) hown (hw _ (List.mem_of_getElem? (i := 48) rfl)) (hw _ (List.mem_of_getElem? (i := 49) rfl)) (hw _ (List.mem_of_getElem? (i := 50) rfl)) (hw _ (List.mem_of_getElem? (i := 52) rfl)) (hw _ (List.mem_of_getElem? (i := 51) rfl)) (by decide) (hw _ (List.mem_of_getElem? (i := 54) rfl)) (hw _ (List.mem_of_getElem? (i := 53) rfl)) (b := b1) E2 (W := 1) (own_rm6 l Z a0 hw [] b1 i h0 n0 Z0 F2) e17  (pc := 5) (Ls := #[.val (.ref a1), .val (.ref b1), .val (.long q1), .second]) (argsL := []) (rest := [(.ref t)]) (by rw [hml]; rfl) (lenOf own_pd1 rfl) rfl (hb hby own_d_prog_19_method_2_code_5) (by decide) (by decide) (by decide) (by decide) ?_
  intro v18 T18 L18 X18 hQ18
  obtain ⟨rfl, N18, e18⟩ := hQ18
  show OGo p e below (T18.setTop (mkF m 8 #[.val (.ref a1), .val (.ref b1), .val (.long q1), .second] [(.int i), (.ref t)])) (OEnd s (fun v h L => v = none ∧ Fr n0 L ∧ Keep h0 h [t] ∧ own_Arr8 Z h t (fun j => if j = i then f i + q1 else f j)) ({ frames := 1, cells := 0, slots := 0, locals := 14 } : Room).cells ({ frames := 1, cells := 0, slots := 0, locals := 14 } : Room).slots)
  refine OGo.step (fun _ kk => own_dup2 X18 hx (hb hby own_d_prog_19_method_2_code_8) kk) ?_
  show OGo p e below (T18.setTop (mkF m 9 #[.val (.ref a1), .val (.ref b1), .val (.long q1), .second] [(.int i), (.ref t), (.int i), (.ref t)])) (OEnd s (fun v h L => v = none ∧ Fr n0 L ∧ Keep h0 h [t] ∧ own_Arr8 Z h t (fun j => if j = i then f i + q1 else f j)) ({ frames := 1, cells := 0, slots := 0, locals := 14 } : Room).cells ({ frames := 1, cells := 0, slots := 0, locals := 14 } : Room).slots)
  refine OGo.step (fun _ kk => X18.laload hx (j := i) (v := (.long (f i))) (by rw [e18]; exact (Ac).1) (State.isArrayOf_alike hZ.alike (Ac).2.1) (Ac).2.2 inb (Hc i inb) (g := (mkF m 9 #[.val (.ref a1), .val (.ref b1), .val (.long q1), .second] [(.int i), (.ref t), (.int i), (.ref t)])) rfl rfl (hb hby own_d_prog_19_method_2_code_9) _ kk) ?_
  show OGo p e below (T18.setTop (mkF m 10 #[.val (.ref a1), .val (.ref b1), .val (.long q1), .second] [(.long (f i)), (.int i), (.ref t)])) (OEnd s (fun v h L => v = none ∧ Fr n0 L ∧ Keep h0 h [t] ∧ own_Arr8 Z h t (fun j => if j = i then f i + q1 else f j)) ({ frames := 1, cells := 0, slots := 0, locals := 14 } : Room).cells ({ frames := 1, cells := 0, slots := 0, locals := 14 } : Room).slots)
  refine OGo.step (fun _ kk => XS.lloadN X18.here hx rfl (hb hby own_d_prog_19_method_2_code_10) rfl kk) ?_
  show OGo p e below (T18.setTop (mkF m 11 #[.val (.ref a1), .val (.ref b1), .val (.long q1), .second] [(.long q1), (.long (f i)), (.int i), (.ref t)])) (OEnd s (fun v h L => v = none ∧ Fr n0 L ∧ Keep h0 h [t] ∧ own_Arr8 Z h t (fun j => if j = i then f i + q1 else f j)) ({ frames := 1, cells := 0, slots := 0, locals := 14 } : Room).cells ({ frames := 1, cells := 0, slots := 0, locals := 14 } : Room).slots)
  refine OGo.step (fun _ kk => XS.ladd X18.here hx rfl (hb hby own_d_prog_19_method_2_code_11) rfl kk) ?_
  show OGo p e below (T18.setTop (mkF m 12 #[.val (.ref a1), .val (.ref b1), .val (.long q1), .second] [(.long ((f i) + q1)), (.int i), (.ref t)])) (OEnd s (fun v h L => v = none ∧ Fr n0 L ∧ Keep h0 h [t] ∧ own_Arr8 Z h t (fun j => if j = i then f i + q1 else f j)) ({ frames := 1, cells := 0, slots := 0, locals := 14 } : Room).cells ({ frames := 1, cells := 0, slots := 0, locals := 14 } : Room).slots)
  obtain ⟨T19, h19, X19, e19, W19, st19⟩ := stJ X18 hx hZ e18 Ac (j := i) inb (g := (mkF m 12 #[.val (.ref a1), .val (.ref b1), .val (.long q1), .second] [(.long ((f i) + q1)), (.int i), (.ref t)])) rfl rfl (hb hby own_d_prog_19_method_2_code_12)
  refine OGo.step st19 ?_
  show OGo p e below (T19.setTop (mkF m 13 #[.val (.ref a1), .val (.ref b1), .val (.long q1), .second] [])) (OEnd s (fun v h L => v = none ∧ Fr n0 L ∧ Keep h0 h [t] ∧ own_Arr8 Z h t (fun j => if j = i then f i + q1 else f j)) ({ frames := 1, cells := 0, slots := 0, locals := 14 } : Room).cells ({ frames := 1, cells := 0, slots := 0, locals := 14 } : Room).slots)
  exact own_ret0 X19 hx hlk hret (hb hby own_d_prog_19_method_2_code_13) (by rw [e19]; exact ⟨rfl, Fr.snoc X19 (N0.app N18) gt, (Keep.refl h0 [t]).wr W19 (Or.inl (List.mem_of_getElem? (i := 0) rfl)), own_set8 Ac sc Hc inb W19⟩) (by decide) (by decide)

set_option maxRecDepth 65536 in
set_option maxHeartbeats 40000000 in
theorem own_rm7 (l : Launch) (Z : State) (a0 : Array Value) (hw : ∀ d ∈ tables_1, d.before a0 Z = true) (ws : List Jvm.Cond) (a1 b1 t : Addr) (i : Int32) (f : Int32 → Int64) (h0 : Heap) (n0 : Nat) (Z0 : n0 ≤ h0.size) (E2 : Exa Z h0 b1 "com/example/slotwise/slotwise/curriculum/Measure") (F1 : Fld Z h0 a1 "com/example/slotwise/slotwise/curriculum/Score" "values" "[J" (.ref t)) (F2 : Fld Z h0 b1 "java/lang/Enum" "ordinal" "I" (.int i)) (A1 : own_Arr8 Z h0 t f) (hi : i = 0 ∨ i = 1 ∨ i = 2 ∨ i = 3 ∨ i = 4 ∨ i = 5 ∨ i = 6 ∨ i = 7) :
    OMet l Z (⟨"com/example/slotwise/slotwise/curriculum/Score", "value", "(Lcom/example/slotwise/slotwise/curriculum/Measure;)J"⟩ : MethodName) prog_19_method_3_code 2 (some .long) ws ({ frames := 1, cells := 0, slots := 0, locals := 13 } : Room) #[(.ref a1), (.ref b1)] h0 (fun v h L => v = some (.long (f i)) ∧ Fr n0 L ∧ h = h0) := by
  refine OMet.body (plainFor_of_name own_pn2) ?_
  intro p e s m below meth c s₁ hx hby hml hown hnm hret hlk hZ X0 e0
  refine OGo.step (fun _ kk => castTop (show entryFrame m #[(.ref a1), (.ref b1)] 2 = (mkF m 0 #[.val (.ref a1), .val (.ref b1)] []) from by first | (simp [entryFrame, mkF, argsToLocals, Value.category]; done) | rfl) kk) ?_
  show OGo p e below (s₁.setTop (mkF m 0 #[.val (.ref a1), .val (.ref b1)] [])) (OEnd s (fun v h L => v = some (.long (f i)) ∧ Fr n0 L ∧ h = h0) ({ frames := 1, cells := 0, slots := 0, locals := 13 } : Room).cells ({ frames := 1, cells := 0, slots := 0, locals := 13 } : Room).slots)
  have N0 := Fr.nil n0
  obtain ⟨cl, Ac, sc, Hc⟩ := A1
  have inb := own_in8 sc hi
  refine OGo.step (fun _ kk => XS.aloadN X0.here hx rfl (hb hby own_d_prog_19_method_3_code_0) rfl rfl kk) ?_
  show OGo p e below (s₁.setTop (mkF m 1 #[.val (.ref a1), .val (.ref b1)] [(.ref a1)])) (OEnd s (fun v h L => v = some (.long (f i)) ∧ Fr n0 L ∧ h = h0) ({ frames := 1, cells := 0, slots := 0, locals := 13 } : Room).cells ({ frames := 1, cells := 0, slots := 0, locals := 13 } : Room).slots)
  obtain ⟨T20, X20, e20, st20⟩ := getF X0 hx hZ hown (host := "") (Or.inl (hw _ (List.mem_of_getElem? (i := 41) rfl))) Via.refl e0 F1 (g := (mkF m 1 #[.val (.ref a1), .val (.ref b1)] [(.ref a1)])) rfl rfl (hb hby own_d_prog_19_method_3_code_1)
  refine OGo.step st20 ?_
  show OGo p e below (T20.setTop (mkF m 4 #[.val (.ref a1), .val (.ref b1)] [(.ref t)])) (OEnd s (fun v h L => v = some (.long (f i)) ∧ Fr n0 L ∧ h = h0) ({ frames := 1, cells := 0, slots := 0, locals := 13 } : Room).cells ({ frames := 1, cells := 0, slots := 0, locals := 13 } : Room).slots)
  refine OGo.step (fun _ kk => XS.aloadN X20.here hx rfl (hb hby own_d_prog_19_method_3_code_4) rfl rfl kk) ?_
  show OGo p e below (T20.setTop (mkF m 5 #[.val (.ref a1), .val (.ref b1)] [(.ref b1), (.ref t)])) (OEnd s (fun v h L => v = some (.long (f i)) ∧ Fr n0 L ∧ h = h0) ({ frames := 1, cells := 0, slots := 0, locals := 13 } : Room).cells ({ frames := 1, cells := 0, slots := 0, locals := 13 } : Room).slots)
  refine own_virtualUp X20 hx hZ (y := (⟨"com/example/slotwise/slotwise/curriculum/Measure", "ordinal", "()I"⟩ : MethodName)) (z := (⟨"java/lang/Enum", "ordinal", "()I"⟩ : MethodName)) hown (hw _ (List.mem_of_getElem? (i := 48) rfl)) (hw _ (List.mem_of_getElem? (i := 49) rfl)) (hw _ (List.mem_of_getElem? (i := 50) rfl)) (hw _ (List.mem_of_getElem? (i := 52) rfl)) (hw _ (List.mem_of_getElem? (i := 51) rfl)) (by decide) (hw _ (List.mem_of_getElem? (i := 54) rfl)) (hw _ (List.mem_of_getElem? (i := 53) rfl)) (b := b1) E2 (W := 1) (own_rm6 l Z a0 hw [] b1 i h0 n0 Z0 F2) e20  (pc := 5) (Ls := #[.val (.ref a1), .val (.ref b1)]) (argsL := []) (rest := [(.ref t)]) (by rw [hml]; rfl) (lenOf own_pd1 rfl) rfl (hb hby own_d_prog_19_method_3_code_5) (by decide) (by decide) (by decide) (by decide) ?_
  intro v21 T21 L21 X21 hQ21
  obtain ⟨rfl, N21, e21⟩ := hQ21
  show OGo p e below (T21.setTop (mkF m 8 #[.val (.ref a1), .val (.ref b1)] [(.int i), (.ref t)])) (OEnd s (fun v h L => v = some (.long (f i)) ∧ Fr n0 L ∧ h = h0) ({ frames := 1, cells := 0, slots := 0, locals := 13 } : Room).cells ({ frames := 1, cells := 0, slots := 0, locals := 13 } : Room).slots)
  refine OGo.step (fun _ kk => X21.laload hx (j := i) (v := (.long (f i))) (by rw [e21]; exact (Ac).1) (State.isArrayOf_alike hZ.alike (Ac).2.1) (Ac).2.2 inb (Hc i inb) (g := (mkF m 8 #[.val (.ref a1), .val (.ref b1)] [(.int i), (.ref t)])) rfl rfl (hb hby own_d_prog_19_method_3_code_8) _ kk) ?_
  show OGo p e below (T21.setTop (mkF m 9 #[.val (.ref a1), .val (.ref b1)] [(.long (f i))])) (OEnd s (fun v h L => v = some (.long (f i)) ∧ Fr n0 L ∧ h = h0) ({ frames := 1, cells := 0, slots := 0, locals := 13 } : Room).cells ({ frames := 1, cells := 0, slots := 0, locals := 13 } : Room).slots)
  exact own_ret X21 hx hlk hret rfl (Or.inr (Or.inl ⟨rfl, rfl, _, rfl⟩)) (hb hby own_d_prog_19_method_3_code_9) ⟨rfl, N0.app N21, e21⟩ (by decide) (by decide)

set_option maxRecDepth 65536 in
set_option maxHeartbeats 40000000 in
theorem own_rm8 (l : Launch) (Z : State) (a0 : Array Value) (hw : ∀ d ∈ tables_1, d.before a0 Z = true) (ws : List Jvm.Cond) (m0 m1 : Addr) (q1 : Int64) (m2 : Addr) (q2 : Int64) (h0 : Heap) (n0 : Nat) (Z0 : n0 ≤ h0.size)  :
    OMet l Z (⟨"com/example/slotwise/slotwise/curriculum/ScoreAddPinLaw", "expect", "(Lcom/example/slotwise/slotwise/curriculum/Measure;Lcom/example/slotwise/slotwise/curriculum/Measure;JLcom/example/slotwise/slotwise/curriculum/Measure;J)J"⟩ : MethodName) method_3_code 9 (some .long) ws ({ frames := 0, cells := 0, slots := 0, locals := 0 } : Room) #[(.ref m0), (.ref m1), (.long q1), (.ref m2), (.long q2)] h0 (fun v h L => v = some (.long ((if m0 = m2 then (if m0 = m1 then 0 + q1 else 0) + q2 else (if m0 = m1 then 0 + q1 else 0)) : Int64)) ∧ Fr n0 L ∧ h = h0) := by
  refine OMet.body (plainFor_of_name own_pn0) ?_
  intro p e s m below meth c s₁ hx hby hml hown hnm hret hlk hZ X0 e0
  refine OGo.step (fun _ kk => castTop (show entryFrame m #[(.ref m0), (.ref m1), (.long q1), (.ref m2), (.long q2)] 9 = (mkF m 0 #[.val (.ref m0), .val (.ref m1), .val (.long q1), .second, .val (.ref m2), .val (.long q2), .second, .unset, .unset] []) from by first | (simp [entryFrame, mkF, argsToLocals, Value.category]; done) | rfl) kk) ?_
  show OGo p e below (s₁.setTop (mkF m 0 #[.val (.ref m0), .val (.ref m1), .val (.long q1), .second, .val (.ref m2), .val (.long q2), .second, .unset, .unset] [])) (OEnd s (fun v h L => v = some (.long ((if m0 = m2 then (if m0 = m1 then 0 + q1 else 0) + q2 else (if m0 = m1 then 0 + q1 else 0)) : Int64)) ∧ Fr n0 L ∧ h = h0) ({ frames := 0, cells := 0, slots := 0, locals := 0 } : Room).cells ({ frames := 0, cells := 0, slots := 0, locals := 0 } : Room).slots)
  have N0 := Fr.nil n0
  refine OGo.step (fun _ kk => XS.lconst X0.here hx rfl (hb hby own_d_method_3_code_0) kk) ?_
  show OGo p e below (s₁.setTop (mkF m 1 #[.val (.ref m0), .val (.ref m1), .val (.long q1), .second, .val (.ref m2), .val (.long q2), .second, .unset, .unset] [(.long (0 : Int64))])) (OEnd s (fun v h L => v = some (.long ((if m0 = m2 then (if m0 = m1 then 0 + q1 else 0) + q2 else (if m0 = m1 then 0 + q1 else 0)) : Int64)) ∧ Fr n0 L ∧ h = h0) ({ frames := 0, cells := 0, slots := 0, locals := 0 } : Room).cells ({ frames := 0, cells := 0, slots := 0, locals := 0 } : Room).slots)
  refine OGo.step (fun _ kk => XS.lstore X0.here hx rfl (hb hby own_d_method_3_code_1) rfl (l' := #[.val (.ref m0), .val (.ref m1), .val (.long q1), .second, .val (.ref m2), .val (.long q2), .second, .val (.long (0 : Int64)), .second]) rfl kk) ?_
  show OGo p e below (s₁.setTop (mkF m 3 #[.val (.ref m0), .val (.ref m1), .val (.long q1), .second, .val (.ref m2), .val (.long q2), .second, .val (.long (0 : Int64)), .second] [])) (OEnd s (fun v h L => v = some (.long ((if m0 = m2 then (if m0 = m1 then 0 + q1 else 0) + q2 else (if m0 = m1 then 0 + q1 else 0)) : Int64)) ∧ Fr n0 L ∧ h = h0) ({ frames := 0, cells := 0, slots := 0, locals := 0 } : Room).cells ({ frames := 0, cells := 0, slots := 0, locals := 0 } : Room).slots)
  refine OGo.step (fun _ kk => XS.aloadN X0.here hx rfl (hb hby own_d_method_3_code_3) rfl rfl kk) ?_
  show OGo p e below (s₁.setTop (mkF m 4 #[.val (.ref m0), .val (.ref m1), .val (.long q1), .second, .val (.ref m2), .val (.long q2), .second, .val (.long (0 : Int64)), .second] [(.ref m0)])) (OEnd s (fun v h L => v = some (.long ((if m0 = m2 then (if m0 = m1 then 0 + q1 else 0) + q2 else (if m0 = m1 then 0 + q1 else 0)) : Int64)) ∧ Fr n0 L ∧ h = h0) ({ frames := 0, cells := 0, slots := 0, locals := 0 } : Room).cells ({ frames := 0, cells := 0, slots := 0, locals := 0 } : Room).slots)
  refine OGo.step (fun _ kk => XS.aloadN X0.here hx rfl (hb hby own_d_method_3_code_4) rfl rfl kk) ?_
  show OGo p e below (s₁.setTop (mkF m 5 #[.val (.ref m0), .val (.ref m1), .val (.long q1), .second, .val (.ref m2), .val (.long q2), .second, .val (.long (0 : Int64)), .second] [(.ref m1), (.ref m0)])) (OEnd s (fun v h L => v = some (.long ((if m0 = m2 then (if m0 = m1 then 0 + q1 else 0) + q2 else (if m0 = m1 then 0 + q1 else 0)) : Int64)) ∧ Fr n0 L ∧ h = h0) ({ frames := 0, cells := 0, slots := 0, locals := 0 } : Room).cells ({ frames := 0, cells := 0, slots := 0, locals := 0 } : Room).slots)
  by_cases h1 : ((.ref m0) : Value) = (.ref m1)
  · refine OGo.step (fun _ kk => Jvm.RoadKit.acmp (g := (mkF m 5 #[.val (.ref m0), .val (.ref m1), .val (.long q1), .second, .val (.ref m2), .val (.long q2), .second, .val (.long (0 : Int64)), .second] [(.ref m1), (.ref m0)])) X0 hx rfl rfl rfl (pc0 := 5) (pc' := 8) (same := true) rfl (hb hby own_d_method_3_code_5) rfl (decide_eq_true h1) (by decide) (by decide) kk) ?_
    show OGo p e below (s₁.setTop (mkF m 8 #[.val (.ref m0), .val (.ref m1), .val (.long q1), .second, .val (.ref m2), .val (.long q2), .second, .val (.long (0 : Int64)), .second] [])) (OEnd s (fun v h L => v = some (.long ((if m0 = m2 then (if m0 = m1 then 0 + q1 else 0) + q2 else (if m0 = m1 then 0 + q1 else 0)) : Int64)) ∧ Fr n0 L ∧ h = h0) ({ frames := 0, cells := 0, slots := 0, locals := 0 } : Room).cells ({ frames := 0, cells := 0, slots := 0, locals := 0 } : Room).slots)
    refine OGo.step (fun _ kk => XS.lload X0.here hx rfl (hb hby own_d_method_3_code_8) rfl kk) ?_
    show OGo p e below (s₁.setTop (mkF m 10 #[.val (.ref m0), .val (.ref m1), .val (.long q1), .second, .val (.ref m2), .val (.long q2), .second, .val (.long (0 : Int64)), .second] [(.long (0 : Int64))])) (OEnd s (fun v h L => v = some (.long ((if m0 = m2 then (if m0 = m1 then 0 + q1 else 0) + q2 else (if m0 = m1 then 0 + q1 else 0)) : Int64)) ∧ Fr n0 L ∧ h = h0) ({ frames := 0, cells := 0, slots := 0, locals := 0 } : Room).cells ({ frames := 0, cells := 0, slots := 0, locals := 0 } : Room).slots)
    refine OGo.step (fun _ kk => XS.lloadN X0.here hx rfl (hb hby own_d_method_3_code_10) rfl kk) ?_
    show OGo p e below (s₁.setTop (mkF m 11 #[.val (.ref m0), .val (.ref m1), .val (.long q1), .second, .val (.ref m2), .val (.long q2), .second, .val (.long (0 : Int64)), .second] [(.long q1), (.long (0 : Int64))])) (OEnd s (fun v h L => v = some (.long ((if m0 = m2 then (if m0 = m1 then 0 + q1 else 0) + q2 else (if m0 = m1 then 0 + q1 else 0)) : Int64)) ∧ Fr n0 L ∧ h = h0) ({ frames := 0, cells := 0, slots := 0, locals := 0 } : Room).cells ({ frames := 0, cells := 0, slots := 0, locals := 0 } : Room).slots)
    refine OGo.step (fun _ kk => XS.ladd X0.here hx rfl (hb hby own_d_method_3_code_11) rfl kk) ?_
    show OGo p e below (s₁.setTop (mkF m 12 #[.val (.ref m0), .val (.ref m1), .val (.long q1), .second, .val (.ref m2), .val (.long q2), .second, .val (.long (0 : Int64)), .second] [(.long ((0 : Int64) + q1))])) (OEnd s (fun v h L => v = some (.long ((if m0 = m2 then (if m0 = m1 then 0 + q1 else 0) + q2 else (if m0 = m1 then 0 + q1 else 0)) : Int64)) ∧ Fr n0 L ∧ h = h0) ({ frames := 0, cells := 0, slots := 0, locals := 0 } : Room).cells ({ frames := 0, cells := 0, slots := 0, locals := 0 } : Room).slots)
    refine OGo.step (fun _ kk => XS.lstore X0.here hx rfl (hb hby own_d_method_3_code_12) rfl (l' := #[.val (.ref m0), .val (.ref m1), .val (.long q1), .second, .val (.ref m2), .val (.long q2), .second, .val (.long ((0 : Int64) + q1)), .second]) rfl kk) ?_
    show OGo p e below (s₁.setTop (mkF m 14 #[.val (.ref m0), .val (.ref m1), .val (.long q1), .second, .val (.ref m2), .val (.long q2), .second, .val (.long ((0 : Int64) + q1)), .second] [])) (OEnd s (fun v h L => v = some (.long ((if m0 = m2 then (if m0 = m1 then 0 + q1 else 0) + q2 else (if m0 = m1 then 0 + q1 else 0)) : Int64)) ∧ Fr n0 L ∧ h = h0) ({ frames := 0, cells := 0, slots := 0, locals := 0 } : Room).cells ({ frames := 0, cells := 0, slots := 0, locals := 0 } : Room).slots)
    have he : (if m0 = m1 then 0 + q1 else 0 : Int64) = 0 + q1 := if_pos (Value.ref.inj h1)
    refine OGo.step (fun _ kk => XS.aloadN X0.here hx rfl (hb hby own_d_method_3_code_14) rfl rfl kk) ?_
    show OGo p e below (s₁.setTop (mkF m 15 #[.val (.ref m0), .val (.ref m1), .val (.long q1), .second, .val (.ref m2), .val (.long q2), .second, .val (.long ((0 : Int64) + q1)), .second] [(.ref m0)])) (OEnd s (fun v h L => v = some (.long ((if m0 = m2 then (if m0 = m1 then 0 + q1 else 0) + q2 else (if m0 = m1 then 0 + q1 else 0)) : Int64)) ∧ Fr n0 L ∧ h = h0) ({ frames := 0, cells := 0, slots := 0, locals := 0 } : Room).cells ({ frames := 0, cells := 0, slots := 0, locals := 0 } : Room).slots)
    refine OGo.step (fun _ kk => XS.aload X0.here hx rfl (hb hby own_d_method_3_code_15) rfl rfl kk) ?_
    show OGo p e below (s₁.setTop (mkF m 17 #[.val (.ref m0), .val (.ref m1), .val (.long q1), .second, .val (.ref m2), .val (.long q2), .second, .val (.long ((0 : Int64) + q1)), .second] [(.ref m2), (.ref m0)])) (OEnd s (fun v h L => v = some (.long ((if m0 = m2 then (if m0 = m1 then 0 + q1 else 0) + q2 else (if m0 = m1 then 0 + q1 else 0)) : Int64)) ∧ Fr n0 L ∧ h = h0) ({ frames := 0, cells := 0, slots := 0, locals := 0 } : Room).cells ({ frames := 0, cells := 0, slots := 0, locals := 0 } : Room).slots)
    by_cases h2 : ((.ref m0) : Value) = (.ref m2)
    · refine OGo.step (fun _ kk => Jvm.RoadKit.acmp (g := (mkF m 17 #[.val (.ref m0), .val (.ref m1), .val (.long q1), .second, .val (.ref m2), .val (.long q2), .second, .val (.long ((0 : Int64) + q1)), .second] [(.ref m2), (.ref m0)])) X0 hx rfl rfl rfl (pc0 := 17) (pc' := 20) (same := true) rfl (hb hby own_d_method_3_code_17) rfl (decide_eq_true h2) (by decide) (by decide) kk) ?_
      show OGo p e below (s₁.setTop (mkF m 20 #[.val (.ref m0), .val (.ref m1), .val (.long q1), .second, .val (.ref m2), .val (.long q2), .second, .val (.long ((0 : Int64) + q1)), .second] [])) (OEnd s (fun v h L => v = some (.long ((if m0 = m2 then (if m0 = m1 then 0 + q1 else 0) + q2 else (if m0 = m1 then 0 + q1 else 0)) : Int64)) ∧ Fr n0 L ∧ h = h0) ({ frames := 0, cells := 0, slots := 0, locals := 0 } : Room).cells ({ frames := 0, cells := 0, slots := 0, locals := 0 } : Room).slots)
      refine OGo.step (fun _ kk => XS.lload X0.here hx rfl (hb hby own_d_method_3_code_20) rfl kk) ?_
      show OGo p e below (s₁.setTop (mkF m 22 #[.val (.ref m0), .val (.ref m1), .val (.long q1), .second, .val (.ref m2), .val (.long q2), .second, .val (.long ((0 : Int64) + q1)), .second] [(.long ((0 : Int64) + q1))])) (OEnd s (fun v h L => v = some (.long ((if m0 = m2 then (if m0 = m1 then 0 + q1 else 0) + q2 else (if m0 = m1 then 0 + q1 else 0)) : Int64)) ∧ Fr n0 L ∧ h = h0) ({ frames := 0, cells := 0, slots := 0, locals := 0 } : Room).cells ({ frames := 0, cells := 0, slots := 0, locals := 0 } : Room).slots)
      refine OGo.step (fun _ kk => XS.lload X0.here hx rfl (hb hby own_d_method_3_code_22) rfl kk) ?_
      show OGo p e below (s₁.setTop (mkF m 24 #[.val (.ref m0), .val (.ref m1), .val (.long q1), .second, .val (.ref m2), .val (.long q2), .second, .val (.long ((0 : Int64) + q1)), .second] [(.long q2), (.long ((0 : Int64) + q1))])) (OEnd s (fun v h L => v = some (.long ((if m0 = m2 then (if m0 = m1 then 0 + q1 else 0) + q2 else (if m0 = m1 then 0 + q1 else 0)) : Int64)) ∧ Fr n0 L ∧ h = h0) ({ frames := 0, cells := 0, slots := 0, locals := 0 } : Room).cells ({ frames := 0, cells := 0, slots := 0, locals := 0 } : Room).slots)
      refine OGo.step (fun _ kk => XS.ladd X0.here hx rfl (hb hby own_d_method_3_code_24) rfl kk) ?_
      show OGo p e below (s₁.setTop (mkF m 25 #[.val (.ref m0), .val (.ref m1), .val (.long q1), .second, .val (.ref m2), .val (.long q2), .second, .val (.long ((0 : Int64) + q1)), .second] [(.long (((0 : Int64) + q1) + q2))])) (OEnd s (fun v h L => v = some (.long ((if m0 = m2 then (if m0 = m1 then 0 + q1 else 0) + q2 else (if m0 = m1 then 0 + q1 else 0)) : Int64)) ∧ Fr n0 L ∧ h = h0) ({ frames := 0, cells := 0, slots := 0, locals := 0 } : Room).cells ({ frames := 0, cells := 0, slots := 0, locals := 0 } : Room).slots)
      refine OGo.step (fun _ kk => XS.lstore X0.here hx rfl (hb hby own_d_method_3_code_25) rfl (l' := #[.val (.ref m0), .val (.ref m1), .val (.long q1), .second, .val (.ref m2), .val (.long q2), .second, .val (.long (((0 : Int64) + q1) + q2)), .second]) rfl kk) ?_
      show OGo p e below (s₁.setTop (mkF m 27 #[.val (.ref m0), .val (.ref m1), .val (.long q1), .second, .val (.ref m2), .val (.long q2), .second, .val (.long (((0 : Int64) + q1) + q2)), .second] [])) (OEnd s (fun v h L => v = some (.long ((if m0 = m2 then (if m0 = m1 then 0 + q1 else 0) + q2 else (if m0 = m1 then 0 + q1 else 0)) : Int64)) ∧ Fr n0 L ∧ h = h0) ({ frames := 0, cells := 0, slots := 0, locals := 0 } : Room).cells ({ frames := 0, cells := 0, slots := 0, locals := 0 } : Room).slots)
      refine OGo.step (fun _ kk => XS.lload X0.here hx rfl (hb hby own_d_method_3_code_27) rfl kk) ?_
      show OGo p e below (s₁.setTop (mkF m 29 #[.val (.ref m0), .val (.ref m1), .val (.long q1), .second, .val (.ref m2), .val (.long q2), .second, .val (.long (((0 : Int64) + q1) + q2)), .second] [(.long (((0 : Int64) + q1) + q2))])) (OEnd s (fun v h L => v = some (.long ((if m0 = m2 then (if m0 = m1 then 0 + q1 else 0) + q2 else (if m0 = m1 then 0 + q1 else 0)) : Int64)) ∧ Fr n0 L ∧ h = h0) ({ frames := 0, cells := 0, slots := 0, locals := 0 } : Room).cells ({ frames := 0, cells := 0, slots := 0, locals := 0 } : Room).slots)
      exact own_ret X0 hx hlk hret rfl (Or.inr (Or.inl ⟨rfl, rfl, _, rfl⟩)) (hb hby own_d_method_3_code_29) ⟨by rw [if_pos (Value.ref.inj h2), he], N0, e0⟩ (by decide) (by decide)
    · refine OGo.step (fun _ kk => Jvm.RoadKit.acmp (g := (mkF m 17 #[.val (.ref m0), .val (.ref m1), .val (.long q1), .second, .val (.ref m2), .val (.long q2), .second, .val (.long ((0 : Int64) + q1)), .second] [(.ref m2), (.ref m0)])) X0 hx rfl rfl rfl (pc0 := 17) (pc' := 27) (same := false) rfl (hb hby own_d_method_3_code_17) rfl (decide_eq_false h2) (by decide) (by decide) kk) ?_
      show OGo p e below (s₁.setTop (mkF m 27 #[.val (.ref m0), .val (.ref m1), .val (.long q1), .second, .val (.ref m2), .val (.long q2), .second, .val (.long ((0 : Int64) + q1)), .second] [])) (OEnd s (fun v h L => v = some (.long ((if m0 = m2 then (if m0 = m1 then 0 + q1 else 0) + q2 else (if m0 = m1 then 0 + q1 else 0)) : Int64)) ∧ Fr n0 L ∧ h = h0) ({ frames := 0, cells := 0, slots := 0, locals := 0 } : Room).cells ({ frames := 0, cells := 0, slots := 0, locals := 0 } : Room).slots)
      refine OGo.step (fun _ kk => XS.lload X0.here hx rfl (hb hby own_d_method_3_code_27) rfl kk) ?_
      show OGo p e below (s₁.setTop (mkF m 29 #[.val (.ref m0), .val (.ref m1), .val (.long q1), .second, .val (.ref m2), .val (.long q2), .second, .val (.long ((0 : Int64) + q1)), .second] [(.long ((0 : Int64) + q1))])) (OEnd s (fun v h L => v = some (.long ((if m0 = m2 then (if m0 = m1 then 0 + q1 else 0) + q2 else (if m0 = m1 then 0 + q1 else 0)) : Int64)) ∧ Fr n0 L ∧ h = h0) ({ frames := 0, cells := 0, slots := 0, locals := 0 } : Room).cells ({ frames := 0, cells := 0, slots := 0, locals := 0 } : Room).slots)
      exact own_ret X0 hx hlk hret rfl (Or.inr (Or.inl ⟨rfl, rfl, _, rfl⟩)) (hb hby own_d_method_3_code_29) ⟨by rw [if_neg fun z => h2 (congrArg Value.ref z), he], N0, e0⟩ (by decide) (by decide)
  · refine OGo.step (fun _ kk => Jvm.RoadKit.acmp (g := (mkF m 5 #[.val (.ref m0), .val (.ref m1), .val (.long q1), .second, .val (.ref m2), .val (.long q2), .second, .val (.long (0 : Int64)), .second] [(.ref m1), (.ref m0)])) X0 hx rfl rfl rfl (pc0 := 5) (pc' := 14) (same := false) rfl (hb hby own_d_method_3_code_5) rfl (decide_eq_false h1) (by decide) (by decide) kk) ?_
    show OGo p e below (s₁.setTop (mkF m 14 #[.val (.ref m0), .val (.ref m1), .val (.long q1), .second, .val (.ref m2), .val (.long q2), .second, .val (.long (0 : Int64)), .second] [])) (OEnd s (fun v h L => v = some (.long ((if m0 = m2 then (if m0 = m1 then 0 + q1 else 0) + q2 else (if m0 = m1 then 0 + q1 else 0)) : Int64)) ∧ Fr n0 L ∧ h = h0) ({ frames := 0, cells := 0, slots := 0, locals := 0 } : Room).cells ({ frames := 0, cells := 0, slots := 0, locals := 0 } : Room).slots)
    have he : (if m0 = m1 then 0 + q1 else 0 : Int64) = 0 := if_neg fun z => h1 (congrArg Value.ref z)
    refine OGo.step (fun _ kk => XS.aloadN X0.here hx rfl (hb hby own_d_method_3_code_14) rfl rfl kk) ?_
    show OGo p e below (s₁.setTop (mkF m 15 #[.val (.ref m0), .val (.ref m1), .val (.long q1), .second, .val (.ref m2), .val (.long q2), .second, .val (.long (0 : Int64)), .second] [(.ref m0)])) (OEnd s (fun v h L => v = some (.long ((if m0 = m2 then (if m0 = m1 then 0 + q1 else 0) + q2 else (if m0 = m1 then 0 + q1 else 0)) : Int64)) ∧ Fr n0 L ∧ h = h0) ({ frames := 0, cells := 0, slots := 0, locals := 0 } : Room).cells ({ frames := 0, cells := 0, slots := 0, locals := 0 } : Room).slots)
    refine OGo.step (fun _ kk => XS.aload X0.here hx rfl (hb hby own_d_method_3_code_15) rfl rfl kk) ?_
    show OGo p e below (s₁.setTop (mkF m 17 #[.val (.ref m0), .val (.ref m1), .val (.long q1), .second, .val (.ref m2), .val (.long q2), .second, .val (.long (0 : Int64)), .second] [(.ref m2), (.ref m0)])) (OEnd s (fun v h L => v = some (.long ((if m0 = m2 then (if m0 = m1 then 0 + q1 else 0) + q2 else (if m0 = m1 then 0 + q1 else 0)) : Int64)) ∧ Fr n0 L ∧ h = h0) ({ frames := 0, cells := 0, slots := 0, locals := 0 } : Room).cells ({ frames := 0, cells := 0, slots := 0, locals := 0 } : Room).slots)
    by_cases h2 : ((.ref m0) : Value) = (.ref m2)
    · refine OGo.step (fun _ kk => Jvm.RoadKit.acmp (g := (mkF m 17 #[.val (.ref m0), .val (.ref m1), .val (.long q1), .second, .val (.ref m2), .val (.long q2), .second, .val (.long (0 : Int64)), .second] [(.ref m2), (.ref m0)])) X0 hx rfl rfl rfl (pc0 := 17) (pc' := 20) (same := true) rfl (hb hby own_d_method_3_code_17) rfl (decide_eq_true h2) (by decide) (by decide) kk) ?_
      show OGo p e below (s₁.setTop (mkF m 20 #[.val (.ref m0), .val (.ref m1), .val (.long q1), .second, .val (.ref m2), .val (.long q2), .second, .val (.long (0 : Int64)), .second] [])) (OEnd s (fun v h L => v = some (.long ((if m0 = m2 then (if m0 = m1 then 0 + q1 else 0) + q2 else (if m0 = m1 then 0 + q1 else 0)) : Int64)) ∧ Fr n0 L ∧ h = h0) ({ frames := 0, cells := 0, slots := 0, locals := 0 } : Room).cells ({ frames := 0, cells := 0, slots := 0, locals := 0 } : Room).slots)
      refine OGo.step (fun _ kk => XS.lload X0.here hx rfl (hb hby own_d_method_3_code_20) rfl kk) ?_
      show OGo p e below (s₁.setTop (mkF m 22 #[.val (.ref m0), .val (.ref m1), .val (.long q1), .second, .val (.ref m2), .val (.long q2), .second, .val (.long (0 : Int64)), .second] [(.long (0 : Int64))])) (OEnd s (fun v h L => v = some (.long ((if m0 = m2 then (if m0 = m1 then 0 + q1 else 0) + q2 else (if m0 = m1 then 0 + q1 else 0)) : Int64)) ∧ Fr n0 L ∧ h = h0) ({ frames := 0, cells := 0, slots := 0, locals := 0 } : Room).cells ({ frames := 0, cells := 0, slots := 0, locals := 0 } : Room).slots)
      refine OGo.step (fun _ kk => XS.lload X0.here hx rfl (hb hby own_d_method_3_code_22) rfl kk) ?_
      show OGo p e below (s₁.setTop (mkF m 24 #[.val (.ref m0), .val (.ref m1), .val (.long q1), .second, .val (.ref m2), .val (.long q2), .second, .val (.long (0 : Int64)), .second] [(.long q2), (.long (0 : Int64))])) (OEnd s (fun v h L => v = some (.long ((if m0 = m2 then (if m0 = m1 then 0 + q1 else 0) + q2 else (if m0 = m1 then 0 + q1 else 0)) : Int64)) ∧ Fr n0 L ∧ h = h0) ({ frames := 0, cells := 0, slots := 0, locals := 0 } : Room).cells ({ frames := 0, cells := 0, slots := 0, locals := 0 } : Room).slots)
      refine OGo.step (fun _ kk => XS.ladd X0.here hx rfl (hb hby own_d_method_3_code_24) rfl kk) ?_
      show OGo p e below (s₁.setTop (mkF m 25 #[.val (.ref m0), .val (.ref m1), .val (.long q1), .second, .val (.ref m2), .val (.long q2), .second, .val (.long (0 : Int64)), .second] [(.long ((0 : Int64) + q2))])) (OEnd s (fun v h L => v = some (.long ((if m0 = m2 then (if m0 = m1 then 0 + q1 else 0) + q2 else (if m0 = m1 then 0 + q1 else 0)) : Int64)) ∧ Fr n0 L ∧ h = h0) ({ frames := 0, cells := 0, slots := 0, locals := 0 } : Room).cells ({ frames := 0, cells := 0, slots := 0, locals := 0 } : Room).slots)
      refine OGo.step (fun _ kk => XS.lstore X0.here hx rfl (hb hby own_d_method_3_code_25) rfl (l' := #[.val (.ref m0), .val (.ref m1), .val (.long q1), .second, .val (.ref m2), .val (.long q2), .second, .val (.long ((0 : Int64) + q2)), .second]) rfl kk) ?_
      show OGo p e below (s₁.setTop (mkF m 27 #[.val (.ref m0), .val (.ref m1), .val (.long q1), .second, .val (.ref m2), .val (.long q2), .second, .val (.long ((0 : Int64) + q2)), .second] [])) (OEnd s (fun v h L => v = some (.long ((if m0 = m2 then (if m0 = m1 then 0 + q1 else 0) + q2 else (if m0 = m1 then 0 + q1 else 0)) : Int64)) ∧ Fr n0 L ∧ h = h0) ({ frames := 0, cells := 0, slots := 0, locals := 0 } : Room).cells ({ frames := 0, cells := 0, slots := 0, locals := 0 } : Room).slots)
      refine OGo.step (fun _ kk => XS.lload X0.here hx rfl (hb hby own_d_method_3_code_27) rfl kk) ?_
      show OGo p e below (s₁.setTop (mkF m 29 #[.val (.ref m0), .val (.ref m1), .val (.long q1), .second, .val (.ref m2), .val (.long q2), .second, .val (.long ((0 : Int64) + q2)), .second] [(.long ((0 : Int64) + q2))])) (OEnd s (fun v h L => v = some (.long ((if m0 = m2 then (if m0 = m1 then 0 + q1 else 0) + q2 else (if m0 = m1 then 0 + q1 else 0)) : Int64)) ∧ Fr n0 L ∧ h = h0) ({ frames := 0, cells := 0, slots := 0, locals := 0 } : Room).cells ({ frames := 0, cells := 0, slots := 0, locals := 0 } : Room).slots)
      exact own_ret X0 hx hlk hret rfl (Or.inr (Or.inl ⟨rfl, rfl, _, rfl⟩)) (hb hby own_d_method_3_code_29) ⟨by rw [if_pos (Value.ref.inj h2), he], N0, e0⟩ (by decide) (by decide)
    · refine OGo.step (fun _ kk => Jvm.RoadKit.acmp (g := (mkF m 17 #[.val (.ref m0), .val (.ref m1), .val (.long q1), .second, .val (.ref m2), .val (.long q2), .second, .val (.long (0 : Int64)), .second] [(.ref m2), (.ref m0)])) X0 hx rfl rfl rfl (pc0 := 17) (pc' := 27) (same := false) rfl (hb hby own_d_method_3_code_17) rfl (decide_eq_false h2) (by decide) (by decide) kk) ?_
      show OGo p e below (s₁.setTop (mkF m 27 #[.val (.ref m0), .val (.ref m1), .val (.long q1), .second, .val (.ref m2), .val (.long q2), .second, .val (.long (0 : Int64)), .second] [])) (OEnd s (fun v h L => v = some (.long ((if m0 = m2 then (if m0 = m1 then 0 + q1 else 0) + q2 else (if m0 = m1 then 0 + q1 else 0)) : Int64)) ∧ Fr n0 L ∧ h = h0) ({ frames := 0, cells := 0, slots := 0, locals := 0 } : Room).cells ({ frames := 0, cells := 0, slots := 0, locals := 0 } : Room).slots)
      refine OGo.step (fun _ kk => XS.lload X0.here hx rfl (hb hby own_d_method_3_code_27) rfl kk) ?_
      show OGo p e below (s₁.setTop (mkF m 29 #[.val (.ref m0), .val (.ref m1), .val (.long q1), .second, .val (.ref m2), .val (.long q2), .second, .val (.long (0 : Int64)), .second] [(.long (0 : Int64))])) (OEnd s (fun v h L => v = some (.long ((if m0 = m2 then (if m0 = m1 then 0 + q1 else 0) + q2 else (if m0 = m1 then 0 + q1 else 0)) : Int64)) ∧ Fr n0 L ∧ h = h0) ({ frames := 0, cells := 0, slots := 0, locals := 0 } : Room).cells ({ frames := 0, cells := 0, slots := 0, locals := 0 } : Room).slots)
      exact own_ret X0 hx hlk hret rfl (Or.inr (Or.inl ⟨rfl, rfl, _, rfl⟩)) (hb hby own_d_method_3_code_29) ⟨by rw [if_neg fun z => h2 (congrArg Value.ref z), he], N0, e0⟩ (by decide) (by decide)


theorem own_fld {Z : State} {h : Heap} {c0 c1 c2 c3 c4 c5 c6 c7 : Addr} {i : Int32} (F0 : Fld Z h c0 "java/lang/Enum" "ordinal" "I" (.int 0)) (F1 : Fld Z h c1 "java/lang/Enum" "ordinal" "I" (.int 1)) (F2 : Fld Z h c2 "java/lang/Enum" "ordinal" "I" (.int 2)) (F3 : Fld Z h c3 "java/lang/Enum" "ordinal" "I" (.int 3)) (F4 : Fld Z h c4 "java/lang/Enum" "ordinal" "I" (.int 4)) (F5 : Fld Z h c5 "java/lang/Enum" "ordinal" "I" (.int 5)) (F6 : Fld Z h c6 "java/lang/Enum" "ordinal" "I" (.int 6)) (F7 : Fld Z h c7 "java/lang/Enum" "ordinal" "I" (.int 7)) (hi : i = 0 ∨ i = 1 ∨ i = 2 ∨ i = 3 ∨ i = 4 ∨ i = 5 ∨ i = 6 ∨ i = 7) : Fld Z h (own_pk i c0 c1 c2 c3 c4 c5 c6 c7) "java/lang/Enum" "ordinal" "I" (.int i) := by
  rcases hi with rfl | rfl | rfl | rfl | rfl | rfl | rfl | rfl <;> assumption
theorem own_exa {Z : State} {h : Heap} {c0 c1 c2 c3 c4 c5 c6 c7 : Addr} {i : Int32} (E0 : Exa Z h c0 "com/example/slotwise/slotwise/curriculum/Measure") (E1 : Exa Z h c1 "com/example/slotwise/slotwise/curriculum/Measure") (E2 : Exa Z h c2 "com/example/slotwise/slotwise/curriculum/Measure") (E3 : Exa Z h c3 "com/example/slotwise/slotwise/curriculum/Measure") (E4 : Exa Z h c4 "com/example/slotwise/slotwise/curriculum/Measure") (E5 : Exa Z h c5 "com/example/slotwise/slotwise/curriculum/Measure") (E6 : Exa Z h c6 "com/example/slotwise/slotwise/curriculum/Measure") (E7 : Exa Z h c7 "com/example/slotwise/slotwise/curriculum/Measure") (hi : i = 0 ∨ i = 1 ∨ i = 2 ∨ i = 3 ∨ i = 4 ∨ i = 5 ∨ i = 6 ∨ i = 7) : Exa Z h (own_pk i c0 c1 c2 c3 c4 c5 c6 c7) "com/example/slotwise/slotwise/curriculum/Measure" := by
  rcases hi with rfl | rfl | rfl | rfl | rfl | rfl | rfl | rfl <;> assumption
theorem own_same {Z : State} {h : Heap} {a b : Addr} {i j : Int32} (F : Fld Z h a "java/lang/Enum" "ordinal" "I" (.int i)) (G : Fld Z h b "java/lang/Enum" "ordinal" "I" (.int j)) (hab : i = j → a = b) : (a = b) = (i = j) := by
  apply propext; constructor
  · intro z; exact Decidable.byContradiction fun q => Fld.ne F G (fun r => q (Value.int.inj r)) z
  · exact hab

set_option maxRecDepth 65536 in
set_option maxHeartbeats 40000000 in
theorem own_rm0 (l : Launch) (Z : State) (a0 : Array Value) (hw : ∀ d ∈ tables_1, d.before a0 Z = true) (ws : List Jvm.Cond) (p1 p2 p3 : Int32) (q1 q2 : Int64) (c0 c1 c2 c3 c4 c5 c6 c7 : Addr) (va : Addr) (vc : Cell) (h0 : Heap) (n0 : Nat) (Z0 : n0 ≤ h0.size) (S0 : Sta Z Z.heap "com/example/slotwise/slotwise/curriculum/Measure" "LECTURES" "Lcom/example/slotwise/slotwise/curriculum/Measure;" (.ref c0)) (S1 : Sta Z Z.heap "com/example/slotwise/slotwise/curriculum/Measure" "CONFLICTS" "Lcom/example/slotwise/slotwise/curriculum/Measure;" (.ref c1)) (S2 : Sta Z Z.heap "com/example/slotwise/slotwise/curriculum/Measure" "AVAILABILITY" "Lcom/example/slotwise/slotwise/curriculum/Measure;" (.ref c2)) (S3 : Sta Z Z.heap "com/example/slotwise/slotwise/curriculum/Measure" "ROOM_OCCUPATION" "Lcom/example/slotwise/slotwise/curriculum/Measure;" (.ref c3)) (S4 : Sta Z Z.heap "com/example/slotwise/slotwise/curriculum/Measure" "ROOM_CAPACITY" "Lcom/example/slotwise/slotwise/curriculum/Measure;" (.ref c4)) (S5 : Sta Z Z.heap "com/example/slotwise/slotwise/curriculum/Measure" "MIN_WORKING_DAYS" "Lcom/example/slotwise/slotwise/curriculum/Measure;" (.ref c5)) (S6 : Sta Z Z.heap "com/example/slotwise/slotwise/curriculum/Measure" "CURRICULUM_COMPACTNESS" "Lcom/example/slotwise/slotwise/curriculum/Measure;" (.ref c6)) (S7 : Sta Z Z.heap "com/example/slotwise/slotwise/curriculum/Measure" "ROOM_STABILITY" "Lcom/example/slotwise/slotwise/curriculum/Measure;" (.ref c7)) (O0 : Old Z n0 h0) (SV : Sta Z Z.heap "com/example/slotwise/slotwise/curriculum/Measure" "$VALUES" "[Lcom/example/slotwise/slotwise/curriculum/Measure;" (.ref va)) (AV : Arr Z Z.heap va vc (.object "com/example/slotwise/slotwise/curriculum/Measure")) (EV : Exa Z Z.heap va "[Lcom/example/slotwise/slotwise/curriculum/Measure;") (FV : FitC Z vc) (VS : vc.slots.size = 8) (F0 : Fld Z Z.heap c0 "java/lang/Enum" "ordinal" "I" (.int 0)) (F1 : Fld Z Z.heap c1 "java/lang/Enum" "ordinal" "I" (.int 1)) (F2 : Fld Z Z.heap c2 "java/lang/Enum" "ordinal" "I" (.int 2)) (F3 : Fld Z Z.heap c3 "java/lang/Enum" "ordinal" "I" (.int 3)) (F4 : Fld Z Z.heap c4 "java/lang/Enum" "ordinal" "I" (.int 4)) (F5 : Fld Z Z.heap c5 "java/lang/Enum" "ordinal" "I" (.int 5)) (F6 : Fld Z Z.heap c6 "java/lang/Enum" "ordinal" "I" (.int 6)) (F7 : Fld Z Z.heap c7 "java/lang/Enum" "ordinal" "I" (.int 7)) (E0 : Exa Z Z.heap c0 "com/example/slotwise/slotwise/curriculum/Measure") (E1 : Exa Z Z.heap c1 "com/example/slotwise/slotwise/curriculum/Measure") (E2 : Exa Z Z.heap c2 "com/example/slotwise/slotwise/curriculum/Measure") (E3 : Exa Z Z.heap c3 "com/example/slotwise/slotwise/curriculum/Measure") (E4 : Exa Z Z.heap c4 "com/example/slotwise/slotwise/curriculum/Measure") (E5 : Exa Z Z.heap c5 "com/example/slotwise/slotwise/curriculum/Measure") (E6 : Exa Z Z.heap c6 "com/example/slotwise/slotwise/curriculum/Measure") (E7 : Exa Z Z.heap c7 "com/example/slotwise/slotwise/curriculum/Measure") :
    OMet l Z x code maxLocals ret ws room_1 #[(.int p1), (.int p2), (.int p3), (.long q1), (.long q2)] h0 (fun v h L => v = some (.int (1 : Int32)) ∧ Fr n0 L) := by
  refine OMet.body (plainFor_of_name own_pn0) ?_
  intro p e s m below meth c s₁ hx hby hml hown hnm hret hlk hZ X0 e0
  have hml : c.maxLocals = 17 := hml
  refine OGo.step (fun _ kk => castTop (show entryFrame m #[(.int p1), (.int p2), (.int p3), (.long q1), (.long q2)] maxLocals = (mkF m 0 #[.val (.int p1), .val (.int p2), .val (.int p3), .val (.long q1), .second, .val (.long q2), .second, .unset, .unset, .unset, .unset, .unset, .unset, .unset, .unset, .unset, .unset] []) from by first | (simp [entryFrame, mkF, argsToLocals, Value.category, maxLocals]; done) | rfl) kk) ?_
  show OGo p e below (s₁.setTop (mkF m 0 #[.val (.int p1), .val (.int p2), .val (.int p3), .val (.long q1), .second, .val (.long q2), .second, .unset, .unset, .unset, .unset, .unset, .unset, .unset, .unset, .unset, .unset] [])) (OEnd s (fun v h L => v = some (.int (1 : Int32)) ∧ Fr n0 L) room_1.cells room_1.slots)
  obtain ⟨j1, hj1⟩ : ∃ z, z = p1 &&& 7 := ⟨_, rfl⟩
  have b1 := own_eight p1
  rw [← hj1] at b1
  obtain ⟨j2, hj2⟩ : ∃ z, z = p2 &&& 7 := ⟨_, rfl⟩
  have b2 := own_eight p2
  rw [← hj2] at b2
  obtain ⟨j3, hj3⟩ : ∃ z, z = p3 &&& 7 := ⟨_, rfl⟩
  have b3 := own_eight p3
  rw [← hj3] at b3
  obtain ⟨m1, hm1⟩ : ∃ z, z = own_pk j1 c0 c1 c2 c3 c4 c5 c6 c7 := ⟨_, rfl⟩
  have G1 := own_fld (i := j1) F0 F1 F2 F3 F4 F5 F6 F7 b1
  have H1 := own_exa (i := j1) E0 E1 E2 E3 E4 E5 E6 E7 b1
  rw [← hm1] at G1 H1
  obtain ⟨m2, hm2⟩ : ∃ z, z = own_pk j2 c0 c1 c2 c3 c4 c5 c6 c7 := ⟨_, rfl⟩
  have G2 := own_fld (i := j2) F0 F1 F2 F3 F4 F5 F6 F7 b2
  have H2 := own_exa (i := j2) E0 E1 E2 E3 E4 E5 E6 E7 b2
  rw [← hm2] at G2 H2
  obtain ⟨m3, hm3⟩ : ∃ z, z = own_pk j3 c0 c1 c2 c3 c4 c5 c6 c7 := ⟨_, rfl⟩
  have G3 := own_fld (i := j3) F0 F1 F2 F3 F4 F5 F6 F7 b3
  have H3 := own_exa (i := j3) E0 E1 E2 E3 E4 E5 E6 E7 b3
  rw [← hm3] at G3 H3
  refine OGo.step (fun _ kk => XS.iloadN X0.here hx rfl (hb hby at_0) rfl kk) ?_
  show OGo p e below (s₁.setTop (mkF m 1 #[.val (.int p1), .val (.int p2), .val (.int p3), .val (.long q1), .second, .val (.long q2), .second, .unset, .unset, .unset, .unset, .unset, .unset, .unset, .unset, .unset, .unset] [(.int p1)])) (OEnd s (fun v h L => v = some (.int (1 : Int32)) ∧ Fr n0 L) room_1.cells room_1.slots)
  refine own_callS X0 hx hZ (y := (⟨"com/example/slotwise/slotwise/curriculum/ScoreAddPinLaw", "pick", "(I)Lcom/example/slotwise/slotwise/curriculum/Measure;"⟩ : MethodName)) hown (hw _ (List.mem_of_getElem? (i := 0) rfl)) (hw _ (List.mem_of_getElem? (i := 1) rfl)) (hw _ (List.mem_of_getElem? (i := 2) rfl)) (hw _ (List.mem_of_getElem? (i := 3) rfl)) (by decide) (W := 0) (own_rm1 l Z a0 hw [] p1 c0 c1 c2 c3 c4 c5 c6 c7 h0 n0 Z0 S0 S1 S2 S3 S4 S5 S6 S7 O0) e0  (pc := 1) (Ls := #[.val (.int p1), .val (.int p2), .val (.int p3), .val (.long q1), .second, .val (.long q2), .second, .unset, .unset, .unset, .unset, .unset, .unset, .unset, .unset, .unset, .unset]) (argsL := [(.int p1)]) (rest := []) (by rw [hml]; rfl) (lenOf own_pd2 rfl) rfl (hb hby at_1) (by decide) (by decide) (by decide) (by decide) ?_
  intro v22 T22 L22 X22 hQ22
  obtain ⟨rfl, N22, e22⟩ := hQ22
  show OGo p e below (T22.setTop (mkF m 4 #[.val (.int p1), .val (.int p2), .val (.int p3), .val (.long q1), .second, .val (.long q2), .second, .unset, .unset, .unset, .unset, .unset, .unset, .unset, .unset, .unset, .unset] [(.ref (own_pk (p1 &&& 7) c0 c1 c2 c3 c4 c5 c6 c7))])) (OEnd s (fun v h L => v = some (.int (1 : Int32)) ∧ Fr n0 L) room_1.cells room_1.slots)
  rw [← hj1, ← hm1]
  show OGo p e below (T22.setTop (mkF m 4 #[.val (.int p1), .val (.int p2), .val (.int p3), .val (.long q1), .second, .val (.long q2), .second, .unset, .unset, .unset, .unset, .unset, .unset, .unset, .unset, .unset, .unset] [(.ref m1)])) (OEnd s (fun v h L => v = some (.int (1 : Int32)) ∧ Fr n0 L) room_1.cells room_1.slots)
  refine OGo.step (fun _ kk => XS.astore X22.here hx rfl (hb hby at_4) rfl rfl (l' := #[.val (.int p1), .val (.int p2), .val (.int p3), .val (.long q1), .second, .val (.long q2), .second, .val (.ref m1), .unset, .unset, .unset, .unset, .unset, .unset, .unset, .unset, .unset]) rfl kk) ?_
  show OGo p e below (T22.setTop (mkF m 6 #[.val (.int p1), .val (.int p2), .val (.int p3), .val (.long q1), .second, .val (.long q2), .second, .val (.ref m1), .unset, .unset, .unset, .unset, .unset, .unset, .unset, .unset, .unset] [])) (OEnd s (fun v h L => v = some (.int (1 : Int32)) ∧ Fr n0 L) room_1.cells room_1.slots)
  refine OGo.step (fun _ kk => XS.iloadN X22.here hx rfl (hb hby at_6) rfl kk) ?_
  show OGo p e below (T22.setTop (mkF m 7 #[.val (.int p1), .val (.int p2), .val (.int p3), .val (.long q1), .second, .val (.long q2), .second, .val (.ref m1), .unset, .unset, .unset, .unset, .unset, .unset, .unset, .unset, .unset] [(.int p2)])) (OEnd s (fun v h L => v = some (.int (1 : Int32)) ∧ Fr n0 L) room_1.cells room_1.slots)
  refine own_callS X22 hx hZ (y := (⟨"com/example/slotwise/slotwise/curriculum/ScoreAddPinLaw", "pick", "(I)Lcom/example/slotwise/slotwise/curriculum/Measure;"⟩ : MethodName)) hown (hw _ (List.mem_of_getElem? (i := 0) rfl)) (hw _ (List.mem_of_getElem? (i := 1) rfl)) (hw _ (List.mem_of_getElem? (i := 2) rfl)) (hw _ (List.mem_of_getElem? (i := 3) rfl)) (by decide) (W := 0) (own_rm1 l Z a0 hw [] p2 c0 c1 c2 c3 c4 c5 c6 c7 h0 n0 Z0 S0 S1 S2 S3 S4 S5 S6 S7 O0) e22  (pc := 7) (Ls := #[.val (.int p1), .val (.int p2), .val (.int p3), .val (.long q1), .second, .val (.long q2), .second, .val (.ref m1), .unset, .unset, .unset, .unset, .unset, .unset, .unset, .unset, .unset]) (argsL := [(.int p2)]) (rest := []) (by rw [hml]; rfl) (lenOf own_pd2 rfl) rfl (hb hby at_7) (by decide) (by decide) (by decide) (by decide) ?_
  intro v23 T23 L23 X23 hQ23
  obtain ⟨rfl, N23, e23⟩ := hQ23
  show OGo p e below (T23.setTop (mkF m 10 #[.val (.int p1), .val (.int p2), .val (.int p3), .val (.long q1), .second, .val (.long q2), .second, .val (.ref m1), .unset, .unset, .unset, .unset, .unset, .unset, .unset, .unset, .unset] [(.ref (own_pk (p2 &&& 7) c0 c1 c2 c3 c4 c5 c6 c7))])) (OEnd s (fun v h L => v = some (.int (1 : Int32)) ∧ Fr n0 L) room_1.cells room_1.slots)
  rw [← hj2, ← hm2]
  show OGo p e below (T23.setTop (mkF m 10 #[.val (.int p1), .val (.int p2), .val (.int p3), .val (.long q1), .second, .val (.long q2), .second, .val (.ref m1), .unset, .unset, .unset, .unset, .unset, .unset, .unset, .unset, .unset] [(.ref m2)])) (OEnd s (fun v h L => v = some (.int (1 : Int32)) ∧ Fr n0 L) room_1.cells room_1.slots)
  refine OGo.step (fun _ kk => XS.astore X23.here hx rfl (hb hby at_10) rfl rfl (l' := #[.val (.int p1), .val (.int p2), .val (.int p3), .val (.long q1), .second, .val (.long q2), .second, .val (.ref m1), .val (.ref m2), .unset, .unset, .unset, .unset, .unset, .unset, .unset, .unset]) rfl kk) ?_
  show OGo p e below (T23.setTop (mkF m 12 #[.val (.int p1), .val (.int p2), .val (.int p3), .val (.long q1), .second, .val (.long q2), .second, .val (.ref m1), .val (.ref m2), .unset, .unset, .unset, .unset, .unset, .unset, .unset, .unset] [])) (OEnd s (fun v h L => v = some (.int (1 : Int32)) ∧ Fr n0 L) room_1.cells room_1.slots)
  refine OGo.step (fun _ kk => XS.iloadN X23.here hx rfl (hb hby at_12) rfl kk) ?_
  show OGo p e below (T23.setTop (mkF m 13 #[.val (.int p1), .val (.int p2), .val (.int p3), .val (.long q1), .second, .val (.long q2), .second, .val (.ref m1), .val (.ref m2), .unset, .unset, .unset, .unset, .unset, .unset, .unset, .unset] [(.int p3)])) (OEnd s (fun v h L => v = some (.int (1 : Int32)) ∧ Fr n0 L) room_1.cells room_1.slots)
  refine own_callS X23 hx hZ (y := (⟨"com/example/slotwise/slotwise/curriculum/ScoreAddPinLaw", "pick", "(I)Lcom/example/slotwise/slotwise/curriculum/Measure;"⟩ : MethodName)) hown (hw _ (List.mem_of_getElem? (i := 0) rfl)) (hw _ (List.mem_of_getElem? (i := 1) rfl)) (hw _ (List.mem_of_getElem? (i := 2) rfl)) (hw _ (List.mem_of_getElem? (i := 3) rfl)) (by decide) (W := 0) (own_rm1 l Z a0 hw [] p3 c0 c1 c2 c3 c4 c5 c6 c7 h0 n0 Z0 S0 S1 S2 S3 S4 S5 S6 S7 O0) e23  (pc := 13) (Ls := #[.val (.int p1), .val (.int p2), .val (.int p3), .val (.long q1), .second, .val (.long q2), .second, .val (.ref m1), .val (.ref m2), .unset, .unset, .unset, .unset, .unset, .unset, .unset, .unset]) (argsL := [(.int p3)]) (rest := []) (by rw [hml]; rfl) (lenOf own_pd2 rfl) rfl (hb hby at_13) (by decide) (by decide) (by decide) (by decide) ?_
  intro v24 T24 L24 X24 hQ24
  obtain ⟨rfl, N24, e24⟩ := hQ24
  show OGo p e below (T24.setTop (mkF m 16 #[.val (.int p1), .val (.int p2), .val (.int p3), .val (.long q1), .second, .val (.long q2), .second, .val (.ref m1), .val (.ref m2), .unset, .unset, .unset, .unset, .unset, .unset, .unset, .unset] [(.ref (own_pk (p3 &&& 7) c0 c1 c2 c3 c4 c5 c6 c7))])) (OEnd s (fun v h L => v = some (.int (1 : Int32)) ∧ Fr n0 L) room_1.cells room_1.slots)
  rw [← hj3, ← hm3]
  show OGo p e below (T24.setTop (mkF m 16 #[.val (.int p1), .val (.int p2), .val (.int p3), .val (.long q1), .second, .val (.long q2), .second, .val (.ref m1), .val (.ref m2), .unset, .unset, .unset, .unset, .unset, .unset, .unset, .unset] [(.ref m3)])) (OEnd s (fun v h L => v = some (.int (1 : Int32)) ∧ Fr n0 L) room_1.cells room_1.slots)
  refine OGo.step (fun _ kk => XS.astore X24.here hx rfl (hb hby at_16) rfl rfl (l' := #[.val (.int p1), .val (.int p2), .val (.int p3), .val (.long q1), .second, .val (.long q2), .second, .val (.ref m1), .val (.ref m2), .val (.ref m3), .unset, .unset, .unset, .unset, .unset, .unset, .unset]) rfl kk) ?_
  show OGo p e below (T24.setTop (mkF m 18 #[.val (.int p1), .val (.int p2), .val (.int p3), .val (.long q1), .second, .val (.long q2), .second, .val (.ref m1), .val (.ref m2), .val (.ref m3), .unset, .unset, .unset, .unset, .unset, .unset, .unset] [])) (OEnd s (fun v h L => v = some (.int (1 : Int32)) ∧ Fr n0 L) room_1.cells room_1.slots)
  obtain ⟨T25, h25, X25, e25, E25, A25, D25, U25, st25⟩ := newO X24 hx hZ hown (hw _ (List.mem_of_getElem? (i := 11) rfl)) (hw _ (List.mem_of_getElem? (i := 12) rfl)) (hw _ (List.mem_of_getElem? (i := 13) rfl)) e24 (g := (mkF m 18 #[.val (.int p1), .val (.int p2), .val (.int p3), .val (.long q1), .second, .val (.long q2), .second, .val (.ref m1), .val (.ref m2), .val (.ref m3), .unset, .unset, .unset, .unset, .unset, .unset, .unset] [])) rfl (hb hby at_18) (by decide) (by decide)
  obtain ⟨sc, g25⟩ : ∃ z, z = h0.size := ⟨_, rfl⟩
  rw [← g25] at A25 D25 U25 st25
  refine OGo.step st25 ?_
  show OGo p e below (T25.setTop (mkF m 21 #[.val (.int p1), .val (.int p2), .val (.int p3), .val (.long q1), .second, .val (.long q2), .second, .val (.ref m1), .val (.ref m2), .val (.ref m3), .unset, .unset, .unset, .unset, .unset, .unset, .unset] [(.ref sc)])) (OEnd s (fun v h L => v = some (.int (1 : Int32)) ∧ Fr n0 L) room_1.cells room_1.slots)
  have O1 := O0.ext E25
  have gs : n0 ≤ sc := Nat.le_trans Z0 (Nat.le_of_eq g25.symm)
  have Fv : Fld Z h25 sc "com/example/slotwise/slotwise/curriculum/Score" "values" "[J" .null := D25 (Or.inr (hw _ (List.mem_of_getElem? (i := 42) rfl))) (ty := (.array .long)) (by decide)
  refine OGo.step (fun _ kk => XS.dup X25.here hx rfl (hb hby at_21) rfl rfl kk) ?_
  show OGo p e below (T25.setTop (mkF m 22 #[.val (.int p1), .val (.int p2), .val (.int p3), .val (.long q1), .second, .val (.long q2), .second, .val (.ref m1), .val (.ref m2), .val (.ref m3), .unset, .unset, .unset, .unset, .unset, .unset, .unset] [(.ref sc), (.ref sc)])) (OEnd s (fun v h L => v = some (.int (1 : Int32)) ∧ Fr n0 L) room_1.cells room_1.slots)
  refine own_special X25 hx hZ (y := (⟨"com/example/slotwise/slotwise/curriculum/Score", "<init>", "()V"⟩ : MethodName)) rfl hown (hw _ (List.mem_of_getElem? (i := 14) rfl)) (hw _ (List.mem_of_getElem? (i := 15) rfl)) (hw _ (List.mem_of_getElem? (i := 16) rfl)) (hw _ (List.mem_of_getElem? (i := 13) rfl)) (by decide) (a := sc) (W := 1) (own_rm2 l Z a0 hw [] sc _ va vc h25 n0 (Nat.le_trans Z0 E25.1) SV AV EV FV VS O1 A25 Fv gs) e25  (pc := 22) (Ls := #[.val (.int p1), .val (.int p2), .val (.int p3), .val (.long q1), .second, .val (.long q2), .second, .val (.ref m1), .val (.ref m2), .val (.ref m3), .unset, .unset, .unset, .unset, .unset, .unset, .unset]) (argsL := []) (rest := [(.ref sc)]) (by rw [hml]; rfl) (lenOf own_pd3 rfl) rfl (hb hby at_22) (by decide) (by decide) (by decide) (by decide) ?_
  intro v26 T26 L26 X26 hQ26
  obtain ⟨t, rfl, gt, tne, N26, K26, Es, Fs, At⟩ := hQ26
  show OGo p e below (T26.setTop (mkF m 25 #[.val (.int p1), .val (.int p2), .val (.int p3), .val (.long q1), .second, .val (.long q2), .second, .val (.ref m1), .val (.ref m2), .val (.ref m3), .unset, .unset, .unset, .unset, .unset, .unset, .unset] [(.ref sc)])) (OEnd s (fun v h L => v = some (.int (1 : Int32)) ∧ Fr n0 L) room_1.cells room_1.slots)
  have O2 := O1.keep K26 (allS gs all0)
  have Z2 : n0 ≤ T26.heap.size := O2.1 ▸ O2.2.1
  refine OGo.step (fun _ kk => XS.astore X26.here hx rfl (hb hby at_25) rfl rfl (l' := #[.val (.int p1), .val (.int p2), .val (.int p3), .val (.long q1), .second, .val (.long q2), .second, .val (.ref m1), .val (.ref m2), .val (.ref m3), .val (.ref sc), .unset, .unset, .unset, .unset, .unset, .unset]) rfl kk) ?_
  show OGo p e below (T26.setTop (mkF m 27 #[.val (.int p1), .val (.int p2), .val (.int p3), .val (.long q1), .second, .val (.long q2), .second, .val (.ref m1), .val (.ref m2), .val (.ref m3), .val (.ref sc), .unset, .unset, .unset, .unset, .unset, .unset] [])) (OEnd s (fun v h L => v = some (.int (1 : Int32)) ∧ Fr n0 L) room_1.cells room_1.slots)
  refine OGo.step (fun _ kk => XS.aload X26.here hx rfl (hb hby at_27) rfl rfl kk) ?_
  show OGo p e below (T26.setTop (mkF m 29 #[.val (.int p1), .val (.int p2), .val (.int p3), .val (.long q1), .second, .val (.long q2), .second, .val (.ref m1), .val (.ref m2), .val (.ref m3), .val (.ref sc), .unset, .unset, .unset, .unset, .unset, .unset] [(.ref sc)])) (OEnd s (fun v h L => v = some (.int (1 : Int32)) ∧ Fr n0 L) room_1.cells room_1.slots)
  refine OGo.step (fun _ kk => XS.aload X26.here hx rfl (hb hby at_29) rfl rfl kk) ?_
  show OGo p e below (T26.setTop (mkF m 31 #[.val (.int p1), .val (.int p2), .val (.int p3), .val (.long q1), .second, .val (.long q2), .second, .val (.ref m1), .val (.ref m2), .val (.ref m3), .val (.ref sc), .unset, .unset, .unset, .unset, .unset, .unset] [(.ref m1), (.ref sc)])) (OEnd s (fun v h L => v = some (.int (1 : Int32)) ∧ Fr n0 L) room_1.cells room_1.slots)
  refine OGo.step (fun _ kk => XS.lloadN X26.here hx rfl (hb hby at_31) rfl kk) ?_
  show OGo p e below (T26.setTop (mkF m 32 #[.val (.int p1), .val (.int p2), .val (.int p3), .val (.long q1), .second, .val (.long q2), .second, .val (.ref m1), .val (.ref m2), .val (.ref m3), .val (.ref sc), .unset, .unset, .unset, .unset, .unset, .unset] [(.long q1), (.ref m1), (.ref sc)])) (OEnd s (fun v h L => v = some (.int (1 : Int32)) ∧ Fr n0 L) room_1.cells room_1.slots)
  refine own_virtual X26 hx hZ (y := (⟨"com/example/slotwise/slotwise/curriculum/Score", "add", "(Lcom/example/slotwise/slotwise/curriculum/Measure;J)V"⟩ : MethodName)) (z := (⟨"com/example/slotwise/slotwise/curriculum/Score", "add", "(Lcom/example/slotwise/slotwise/curriculum/Measure;J)V"⟩ : MethodName)) hown (hw _ (List.mem_of_getElem? (i := 43) rfl)) (hw _ (List.mem_of_getElem? (i := 44) rfl)) (notFace_of_selects (args := #[]) (mvT hZ (hw _ (List.mem_of_getElem? (i := 46) rfl)))) (hw _ (List.mem_of_getElem? (i := 46) rfl)) (hw _ (List.mem_of_getElem? (i := 45) rfl)) (by decide) (hw _ (List.mem_of_getElem? (i := 47) rfl)) (hw _ (List.mem_of_getElem? (i := 13) rfl)) (b := sc) Es (W := 0) (own_rm5 l Z a0 hw [] sc m1 t q1 j1 _ _ n0 Z2 (H1.ext O2.2) Fs (G1.ext O2.2) At b1 gt) rfl  (pc := 32) (Ls := #[.val (.int p1), .val (.int p2), .val (.int p3), .val (.long q1), .second, .val (.long q2), .second, .val (.ref m1), .val (.ref m2), .val (.ref m3), .val (.ref sc), .unset, .unset, .unset, .unset, .unset, .unset]) (argsL := [(.ref m1), (.long q1)]) (rest := []) (by rw [hml]; rfl) (lenOf own_pd4 rfl) rfl (hb hby at_32) (by decide) (by decide) (by decide) (by decide) ?_
  intro v27 T27 L27 X27 hQ27
  obtain ⟨rfl, N27, K27, At2⟩ := hQ27
  show OGo p e below (T27.setTop (mkF m 35 #[.val (.int p1), .val (.int p2), .val (.int p3), .val (.long q1), .second, .val (.long q2), .second, .val (.ref m1), .val (.ref m2), .val (.ref m3), .val (.ref sc), .unset, .unset, .unset, .unset, .unset, .unset] [])) (OEnd s (fun v h L => v = some (.int (1 : Int32)) ∧ Fr n0 L) room_1.cells room_1.slots)
  have O3 := O2.keep K27 (allS gt all0)
  have Es3 := Es.keep K27
  have Fs3 := Fs.keep K27 (ninS tne.symm nin0)
  have Z3 : n0 ≤ T27.heap.size := O3.1 ▸ O3.2.1
  refine OGo.step (fun _ kk => XS.aload X27.here hx rfl (hb hby at_35) rfl rfl kk) ?_
  show OGo p e below (T27.setTop (mkF m 37 #[.val (.int p1), .val (.int p2), .val (.int p3), .val (.long q1), .second, .val (.long q2), .second, .val (.ref m1), .val (.ref m2), .val (.ref m3), .val (.ref sc), .unset, .unset, .unset, .unset, .unset, .unset] [(.ref sc)])) (OEnd s (fun v h L => v = some (.int (1 : Int32)) ∧ Fr n0 L) room_1.cells room_1.slots)
  refine OGo.step (fun _ kk => XS.aload X27.here hx rfl (hb hby at_37) rfl rfl kk) ?_
  show OGo p e below (T27.setTop (mkF m 39 #[.val (.int p1), .val (.int p2), .val (.int p3), .val (.long q1), .second, .val (.long q2), .second, .val (.ref m1), .val (.ref m2), .val (.ref m3), .val (.ref sc), .unset, .unset, .unset, .unset, .unset, .unset] [(.ref m2), (.ref sc)])) (OEnd s (fun v h L => v = some (.int (1 : Int32)) ∧ Fr n0 L) room_1.cells room_1.slots)
  refine OGo.step (fun _ kk => XS.lload X27.here hx rfl (hb hby at_39) rfl kk) ?_
  show OGo p e below (T27.setTop (mkF m 41 #[.val (.int p1), .val (.int p2), .val (.int p3), .val (.long q1), .second, .val (.long q2), .second, .val (.ref m1), .val (.ref m2), .val (.ref m3), .val (.ref sc), .unset, .unset, .unset, .unset, .unset, .unset] [(.long q2), (.ref m2), (.ref sc)])) (OEnd s (fun v h L => v = some (.int (1 : Int32)) ∧ Fr n0 L) room_1.cells room_1.slots)
  refine own_virtual X27 hx hZ (y := (⟨"com/example/slotwise/slotwise/curriculum/Score", "add", "(Lcom/example/slotwise/slotwise/curriculum/Measure;J)V"⟩ : MethodName)) (z := (⟨"com/example/slotwise/slotwise/curriculum/Score", "add", "(Lcom/example/slotwise/slotwise/curriculum/Measure;J)V"⟩ : MethodName)) hown (hw _ (List.mem_of_getElem? (i := 43) rfl)) (hw _ (List.mem_of_getElem? (i := 44) rfl)) (notFace_of_selects (args := #[]) (mvT hZ (hw _ (List.mem_of_getElem? (i := 46) rfl)))) (hw _ (List.mem_of_getElem? (i := 46) rfl)) (hw _ (List.mem_of_getElem? (i := 45) rfl)) (by decide) (hw _ (List.mem_of_getElem? (i := 47) rfl)) (hw _ (List.mem_of_getElem? (i := 13) rfl)) (b := sc) Es3 (W := 0) (own_rm5 l Z a0 hw [] sc m2 t q2 j2 _ _ n0 Z3 (H2.ext O3.2) Fs3 (G2.ext O3.2) At2 b2 gt) rfl  (pc := 41) (Ls := #[.val (.int p1), .val (.int p2), .val (.int p3), .val (.long q1), .second, .val (.long q2), .second, .val (.ref m1), .val (.ref m2), .val (.ref m3), .val (.ref sc), .unset, .unset, .unset, .unset, .unset, .unset]) (argsL := [(.ref m2), (.long q2)]) (rest := []) (by rw [hml]; rfl) (lenOf own_pd4 rfl) rfl (hb hby at_41) (by decide) (by decide) (by decide) (by decide) ?_
  intro v28 T28 L28 X28 hQ28
  obtain ⟨rfl, N28, K28, At3⟩ := hQ28
  show OGo p e below (T28.setTop (mkF m 44 #[.val (.int p1), .val (.int p2), .val (.int p3), .val (.long q1), .second, .val (.long q2), .second, .val (.ref m1), .val (.ref m2), .val (.ref m3), .val (.ref sc), .unset, .unset, .unset, .unset, .unset, .unset] [])) (OEnd s (fun v h L => v = some (.int (1 : Int32)) ∧ Fr n0 L) room_1.cells room_1.slots)
  have O4 := O3.keep K28 (allS gt all0)
  have Es4 := Es3.keep K28
  have Fs4 := Fs3.keep K28 (ninS tne.symm nin0)
  have Z4 : n0 ≤ T28.heap.size := O4.1 ▸ O4.2.1
  obtain ⟨f, hf⟩ : ∃ f : Int32 → Int64, f = (fun j => if j = j2 then (if j2 = j1 then (fun _ => (0 : Int64)) j1 + q1 else (fun _ => (0 : Int64)) j2) + q2 else if j = j1 then (fun _ => (0 : Int64)) j1 + q1 else (fun _ => (0 : Int64)) j) := ⟨_, rfl⟩
  rw [← hf] at At3
  refine OGo.step (fun _ kk => XS.aload X28.here hx rfl (hb hby at_44) rfl rfl kk) ?_
  show OGo p e below (T28.setTop (mkF m 46 #[.val (.int p1), .val (.int p2), .val (.int p3), .val (.long q1), .second, .val (.long q2), .second, .val (.ref m1), .val (.ref m2), .val (.ref m3), .val (.ref sc), .unset, .unset, .unset, .unset, .unset, .unset] [(.ref sc)])) (OEnd s (fun v h L => v = some (.int (1 : Int32)) ∧ Fr n0 L) room_1.cells room_1.slots)
  refine OGo.step (fun _ kk => XS.aload X28.here hx rfl (hb hby at_46) rfl rfl kk) ?_
  show OGo p e below (T28.setTop (mkF m 48 #[.val (.int p1), .val (.int p2), .val (.int p3), .val (.long q1), .second, .val (.long q2), .second, .val (.ref m1), .val (.ref m2), .val (.ref m3), .val (.ref sc), .unset, .unset, .unset, .unset, .unset, .unset] [(.ref m1), (.ref sc)])) (OEnd s (fun v h L => v = some (.int (1 : Int32)) ∧ Fr n0 L) room_1.cells room_1.slots)
  refine own_virtual X28 hx hZ (y := (⟨"com/example/slotwise/slotwise/curriculum/Score", "value", "(Lcom/example/slotwise/slotwise/curriculum/Measure;)J"⟩ : MethodName)) (z := (⟨"com/example/slotwise/slotwise/curriculum/Score", "value", "(Lcom/example/slotwise/slotwise/curriculum/Measure;)J"⟩ : MethodName)) hown (hw _ (List.mem_of_getElem? (i := 57) rfl)) (hw _ (List.mem_of_getElem? (i := 58) rfl)) (notFace_of_selects (args := #[]) (mvT hZ (hw _ (List.mem_of_getElem? (i := 60) rfl)))) (hw _ (List.mem_of_getElem? (i := 60) rfl)) (hw _ (List.mem_of_getElem? (i := 59) rfl)) (by decide) (hw _ (List.mem_of_getElem? (i := 61) rfl)) (hw _ (List.mem_of_getElem? (i := 13) rfl)) (b := sc) Es4 (W := 0) (own_rm7 l Z a0 hw [] sc m1 t j1 f _ n0 Z4 (H1.ext O4.2) Fs4 (G1.ext O4.2) At3 b1) rfl  (pc := 48) (Ls := #[.val (.int p1), .val (.int p2), .val (.int p3), .val (.long q1), .second, .val (.long q2), .second, .val (.ref m1), .val (.ref m2), .val (.ref m3), .val (.ref sc), .unset, .unset, .unset, .unset, .unset, .unset]) (argsL := [(.ref m1)]) (rest := []) (by rw [hml]; rfl) (lenOf own_pd5 rfl) rfl (hb hby at_48) (by decide) (by decide) (by decide) (by decide) ?_
  intro v29 T29 L29 X29 hQ29
  obtain ⟨rfl, N29, e29⟩ := hQ29
  show OGo p e below (T29.setTop (mkF m 51 #[.val (.int p1), .val (.int p2), .val (.int p3), .val (.long q1), .second, .val (.long q2), .second, .val (.ref m1), .val (.ref m2), .val (.ref m3), .val (.ref sc), .unset, .unset, .unset, .unset, .unset, .unset] [(.long (f j1))])) (OEnd s (fun v h L => v = some (.int (1 : Int32)) ∧ Fr n0 L) room_1.cells room_1.slots)
  refine OGo.step (fun _ kk => XS.lstore X29.here hx rfl (hb hby at_51) rfl (l' := #[.val (.int p1), .val (.int p2), .val (.int p3), .val (.long q1), .second, .val (.long q2), .second, .val (.ref m1), .val (.ref m2), .val (.ref m3), .val (.ref sc), .val (.long (f j1)), .second, .unset, .unset, .unset, .unset]) rfl kk) ?_
  show OGo p e below (T29.setTop (mkF m 53 #[.val (.int p1), .val (.int p2), .val (.int p3), .val (.long q1), .second, .val (.long q2), .second, .val (.ref m1), .val (.ref m2), .val (.ref m3), .val (.ref sc), .val (.long (f j1)), .second, .unset, .unset, .unset, .unset] [])) (OEnd s (fun v h L => v = some (.int (1 : Int32)) ∧ Fr n0 L) room_1.cells room_1.slots)
  refine OGo.step (fun _ kk => XS.aload X29.here hx rfl (hb hby at_53) rfl rfl kk) ?_
  show OGo p e below (T29.setTop (mkF m 55 #[.val (.int p1), .val (.int p2), .val (.int p3), .val (.long q1), .second, .val (.long q2), .second, .val (.ref m1), .val (.ref m2), .val (.ref m3), .val (.ref sc), .val (.long (f j1)), .second, .unset, .unset, .unset, .unset] [(.ref sc)])) (OEnd s (fun v h L => v = some (.int (1 : Int32)) ∧ Fr n0 L) room_1.cells room_1.slots)
  refine OGo.step (fun _ kk => XS.aload X29.here hx rfl (hb hby at_55) rfl rfl kk) ?_
  show OGo p e below (T29.setTop (mkF m 57 #[.val (.int p1), .val (.int p2), .val (.int p3), .val (.long q1), .second, .val (.long q2), .second, .val (.ref m1), .val (.ref m2), .val (.ref m3), .val (.ref sc), .val (.long (f j1)), .second, .unset, .unset, .unset, .unset] [(.ref m2), (.ref sc)])) (OEnd s (fun v h L => v = some (.int (1 : Int32)) ∧ Fr n0 L) room_1.cells room_1.slots)
  refine own_virtual X29 hx hZ (y := (⟨"com/example/slotwise/slotwise/curriculum/Score", "value", "(Lcom/example/slotwise/slotwise/curriculum/Measure;)J"⟩ : MethodName)) (z := (⟨"com/example/slotwise/slotwise/curriculum/Score", "value", "(Lcom/example/slotwise/slotwise/curriculum/Measure;)J"⟩ : MethodName)) hown (hw _ (List.mem_of_getElem? (i := 57) rfl)) (hw _ (List.mem_of_getElem? (i := 58) rfl)) (notFace_of_selects (args := #[]) (mvT hZ (hw _ (List.mem_of_getElem? (i := 60) rfl)))) (hw _ (List.mem_of_getElem? (i := 60) rfl)) (hw _ (List.mem_of_getElem? (i := 59) rfl)) (by decide) (hw _ (List.mem_of_getElem? (i := 61) rfl)) (hw _ (List.mem_of_getElem? (i := 13) rfl)) (b := sc) Es4 (W := 0) (own_rm7 l Z a0 hw [] sc m2 t j2 f _ n0 Z4 (H2.ext O4.2) Fs4 (G2.ext O4.2) At3 b2) e29  (pc := 57) (Ls := #[.val (.int p1), .val (.int p2), .val (.int p3), .val (.long q1), .second, .val (.long q2), .second, .val (.ref m1), .val (.ref m2), .val (.ref m3), .val (.ref sc), .val (.long (f j1)), .second, .unset, .unset, .unset, .unset]) (argsL := [(.ref m2)]) (rest := []) (by rw [hml]; rfl) (lenOf own_pd5 rfl) rfl (hb hby at_57) (by decide) (by decide) (by decide) (by decide) ?_
  intro v30 T30 L30 X30 hQ30
  obtain ⟨rfl, N30, e30⟩ := hQ30
  show OGo p e below (T30.setTop (mkF m 60 #[.val (.int p1), .val (.int p2), .val (.int p3), .val (.long q1), .second, .val (.long q2), .second, .val (.ref m1), .val (.ref m2), .val (.ref m3), .val (.ref sc), .val (.long (f j1)), .second, .unset, .unset, .unset, .unset] [(.long (f j2))])) (OEnd s (fun v h L => v = some (.int (1 : Int32)) ∧ Fr n0 L) room_1.cells room_1.slots)
  refine OGo.step (fun _ kk => XS.lstore X30.here hx rfl (hb hby at_60) rfl (l' := #[.val (.int p1), .val (.int p2), .val (.int p3), .val (.long q1), .second, .val (.long q2), .second, .val (.ref m1), .val (.ref m2), .val (.ref m3), .val (.ref sc), .val (.long (f j1)), .second, .val (.long (f j2)), .second, .unset, .unset]) rfl kk) ?_
  show OGo p e below (T30.setTop (mkF m 62 #[.val (.int p1), .val (.int p2), .val (.int p3), .val (.long q1), .second, .val (.long q2), .second, .val (.ref m1), .val (.ref m2), .val (.ref m3), .val (.ref sc), .val (.long (f j1)), .second, .val (.long (f j2)), .second, .unset, .unset] [])) (OEnd s (fun v h L => v = some (.int (1 : Int32)) ∧ Fr n0 L) room_1.cells room_1.slots)
  refine OGo.step (fun _ kk => XS.aload X30.here hx rfl (hb hby at_62) rfl rfl kk) ?_
  show OGo p e below (T30.setTop (mkF m 64 #[.val (.int p1), .val (.int p2), .val (.int p3), .val (.long q1), .second, .val (.long q2), .second, .val (.ref m1), .val (.ref m2), .val (.ref m3), .val (.ref sc), .val (.long (f j1)), .second, .val (.long (f j2)), .second, .unset, .unset] [(.ref sc)])) (OEnd s (fun v h L => v = some (.int (1 : Int32)) ∧ Fr n0 L) room_1.cells room_1.slots)
  refine OGo.step (fun _ kk => XS.aload X30.here hx rfl (hb hby at_64) rfl rfl kk) ?_
  show OGo p e below (T30.setTop (mkF m 66 #[.val (.int p1), .val (.int p2), .val (.int p3), .val (.long q1), .second, .val (.long q2), .second, .val (.ref m1), .val (.ref m2), .val (.ref m3), .val (.ref sc), .val (.long (f j1)), .second, .val (.long (f j2)), .second, .unset, .unset] [(.ref m3), (.ref sc)])) (OEnd s (fun v h L => v = some (.int (1 : Int32)) ∧ Fr n0 L) room_1.cells room_1.slots)
  refine own_virtual X30 hx hZ (y := (⟨"com/example/slotwise/slotwise/curriculum/Score", "value", "(Lcom/example/slotwise/slotwise/curriculum/Measure;)J"⟩ : MethodName)) (z := (⟨"com/example/slotwise/slotwise/curriculum/Score", "value", "(Lcom/example/slotwise/slotwise/curriculum/Measure;)J"⟩ : MethodName)) hown (hw _ (List.mem_of_getElem? (i := 57) rfl)) (hw _ (List.mem_of_getElem? (i := 58) rfl)) (notFace_of_selects (args := #[]) (mvT hZ (hw _ (List.mem_of_getElem? (i := 60) rfl)))) (hw _ (List.mem_of_getElem? (i := 60) rfl)) (hw _ (List.mem_of_getElem? (i := 59) rfl)) (by decide) (hw _ (List.mem_of_getElem? (i := 61) rfl)) (hw _ (List.mem_of_getElem? (i := 13) rfl)) (b := sc) Es4 (W := 0) (own_rm7 l Z a0 hw [] sc m3 t j3 f _ n0 Z4 (H3.ext O4.2) Fs4 (G3.ext O4.2) At3 b3) e30  (pc := 66) (Ls := #[.val (.int p1), .val (.int p2), .val (.int p3), .val (.long q1), .second, .val (.long q2), .second, .val (.ref m1), .val (.ref m2), .val (.ref m3), .val (.ref sc), .val (.long (f j1)), .second, .val (.long (f j2)), .second, .unset, .unset]) (argsL := [(.ref m3)]) (rest := []) (by rw [hml]; rfl) (lenOf own_pd5 rfl) rfl (hb hby at_66) (by decide) (by decide) (by decide) (by decide) ?_
  intro v31 T31 L31 X31 hQ31
  obtain ⟨rfl, N31, e31⟩ := hQ31
  show OGo p e below (T31.setTop (mkF m 69 #[.val (.int p1), .val (.int p2), .val (.int p3), .val (.long q1), .second, .val (.long q2), .second, .val (.ref m1), .val (.ref m2), .val (.ref m3), .val (.ref sc), .val (.long (f j1)), .second, .val (.long (f j2)), .second, .unset, .unset] [(.long (f j3))])) (OEnd s (fun v h L => v = some (.int (1 : Int32)) ∧ Fr n0 L) room_1.cells room_1.slots)
  have s11 := own_same G1 G1 (fun z => rfl)
  have s12 := own_same G1 G2 (fun z => by rw [hm1, hm2, z])
  have s21 := own_same G2 G1 (fun z => by rw [hm2, hm1, z])
  have s22 := own_same G2 G2 (fun z => rfl)
  have s31 := own_same G3 G1 (fun z => by rw [hm3, hm1, z])
  have s32 := own_same G3 G2 (fun z => by rw [hm3, hm2, z])
  have v1 : f j1 = ((if m1 = m2 then (if m1 = m1 then 0 + q1 else 0) + q2 else (if m1 = m1 then 0 + q1 else 0)) : Int64) := by
    rw [hf]; simp only [s11, s12] <;> by_cases z : j1 = j2 <;> by_cases y : j1 = j1 <;> simp_all
  have v2 : f j2 = ((if m2 = m2 then (if m2 = m1 then 0 + q1 else 0) + q2 else (if m2 = m1 then 0 + q1 else 0)) : Int64) := by
    rw [hf]; simp only [s21, s22] <;> by_cases z : j2 = j2 <;> by_cases y : j2 = j1 <;> simp_all
  have v3 : f j3 = ((if m3 = m2 then (if m3 = m1 then 0 + q1 else 0) + q2 else (if m3 = m1 then 0 + q1 else 0)) : Int64) := by
    rw [hf]; simp only [s31, s32] <;> by_cases z : j3 = j2 <;> by_cases y : j3 = j1 <;> simp_all
  refine OGo.step (fun _ kk => XS.lstore X31.here hx rfl (hb hby at_69) rfl (l' := #[.val (.int p1), .val (.int p2), .val (.int p3), .val (.long q1), .second, .val (.long q2), .second, .val (.ref m1), .val (.ref m2), .val (.ref m3), .val (.ref sc), .val (.long (f j1)), .second, .val (.long (f j2)), .second, .val (.long (f j3)), .second]) rfl kk) ?_
  show OGo p e below (T31.setTop (mkF m 71 #[.val (.int p1), .val (.int p2), .val (.int p3), .val (.long q1), .second, .val (.long q2), .second, .val (.ref m1), .val (.ref m2), .val (.ref m3), .val (.ref sc), .val (.long (f j1)), .second, .val (.long (f j2)), .second, .val (.long (f j3)), .second] [])) (OEnd s (fun v h L => v = some (.int (1 : Int32)) ∧ Fr n0 L) room_1.cells room_1.slots)
  refine OGo.step (fun _ kk => XS.lload X31.here hx rfl (hb hby at_71) rfl kk) ?_
  show OGo p e below (T31.setTop (mkF m 73 #[.val (.int p1), .val (.int p2), .val (.int p3), .val (.long q1), .second, .val (.long q2), .second, .val (.ref m1), .val (.ref m2), .val (.ref m3), .val (.ref sc), .val (.long (f j1)), .second, .val (.long (f j2)), .second, .val (.long (f j3)), .second] [(.long (f j1))])) (OEnd s (fun v h L => v = some (.int (1 : Int32)) ∧ Fr n0 L) room_1.cells room_1.slots)
  refine OGo.step (fun _ kk => XS.aload X31.here hx rfl (hb hby at_73) rfl rfl kk) ?_
  show OGo p e below (T31.setTop (mkF m 75 #[.val (.int p1), .val (.int p2), .val (.int p3), .val (.long q1), .second, .val (.long q2), .second, .val (.ref m1), .val (.ref m2), .val (.ref m3), .val (.ref sc), .val (.long (f j1)), .second, .val (.long (f j2)), .second, .val (.long (f j3)), .second] [(.ref m1), (.long (f j1))])) (OEnd s (fun v h L => v = some (.int (1 : Int32)) ∧ Fr n0 L) room_1.cells room_1.slots)
  refine OGo.step (fun _ kk => XS.aload X31.here hx rfl (hb hby at_75) rfl rfl kk) ?_
  show OGo p e below (T31.setTop (mkF m 77 #[.val (.int p1), .val (.int p2), .val (.int p3), .val (.long q1), .second, .val (.long q2), .second, .val (.ref m1), .val (.ref m2), .val (.ref m3), .val (.ref sc), .val (.long (f j1)), .second, .val (.long (f j2)), .second, .val (.long (f j3)), .second] [(.ref m1), (.ref m1), (.long (f j1))])) (OEnd s (fun v h L => v = some (.int (1 : Int32)) ∧ Fr n0 L) room_1.cells room_1.slots)
  refine OGo.step (fun _ kk => XS.lloadN X31.here hx rfl (hb hby at_77) rfl kk) ?_
  show OGo p e below (T31.setTop (mkF m 78 #[.val (.int p1), .val (.int p2), .val (.int p3), .val (.long q1), .second, .val (.long q2), .second, .val (.ref m1), .val (.ref m2), .val (.ref m3), .val (.ref sc), .val (.long (f j1)), .second, .val (.long (f j2)), .second, .val (.long (f j3)), .second] [(.long q1), (.ref m1), (.ref m1), (.long (f j1))])) (OEnd s (fun v h L => v = some (.int (1 : Int32)) ∧ Fr n0 L) room_1.cells room_1.slots)
  refine OGo.step (fun _ kk => XS.aload X31.here hx rfl (hb hby at_78) rfl rfl kk) ?_
  show OGo p e below (T31.setTop (mkF m 80 #[.val (.int p1), .val (.int p2), .val (.int p3), .val (.long q1), .second, .val (.long q2), .second, .val (.ref m1), .val (.ref m2), .val (.ref m3), .val (.ref sc), .val (.long (f j1)), .second, .val (.long (f j2)), .second, .val (.long (f j3)), .second] [(.ref m2), (.long q1), (.ref m1), (.ref m1), (.long (f j1))])) (OEnd s (fun v h L => v = some (.int (1 : Int32)) ∧ Fr n0 L) room_1.cells room_1.slots)
  refine OGo.step (fun _ kk => XS.lload X31.here hx rfl (hb hby at_80) rfl kk) ?_
  show OGo p e below (T31.setTop (mkF m 82 #[.val (.int p1), .val (.int p2), .val (.int p3), .val (.long q1), .second, .val (.long q2), .second, .val (.ref m1), .val (.ref m2), .val (.ref m3), .val (.ref sc), .val (.long (f j1)), .second, .val (.long (f j2)), .second, .val (.long (f j3)), .second] [(.long q2), (.ref m2), (.long q1), (.ref m1), (.ref m1), (.long (f j1))])) (OEnd s (fun v h L => v = some (.int (1 : Int32)) ∧ Fr n0 L) room_1.cells room_1.slots)
  refine own_callS X31 hx hZ (y := (⟨"com/example/slotwise/slotwise/curriculum/ScoreAddPinLaw", "expect", "(Lcom/example/slotwise/slotwise/curriculum/Measure;Lcom/example/slotwise/slotwise/curriculum/Measure;JLcom/example/slotwise/slotwise/curriculum/Measure;J)J"⟩ : MethodName)) hown (hw _ (List.mem_of_getElem? (i := 62) rfl)) (hw _ (List.mem_of_getElem? (i := 63) rfl)) (hw _ (List.mem_of_getElem? (i := 2) rfl)) (hw _ (List.mem_of_getElem? (i := 64) rfl)) (by decide) (W := 2) (own_rm8 l Z a0 hw [] m1 m1 q1 m2 q2 _ n0 Z4) e31  (pc := 82) (Ls := #[.val (.int p1), .val (.int p2), .val (.int p3), .val (.long q1), .second, .val (.long q2), .second, .val (.ref m1), .val (.ref m2), .val (.ref m3), .val (.ref sc), .val (.long (f j1)), .second, .val (.long (f j2)), .second, .val (.long (f j3)), .second]) (argsL := [(.ref m1), (.ref m1), (.long q1), (.ref m2), (.long q2)]) (rest := [(.long (f j1))]) (by rw [hml]; rfl) (lenOf own_pd6 rfl) rfl (hb hby at_82) (by decide) (by decide) (by decide) (by decide) ?_
  intro v32 T32 L32 X32 hQ32
  obtain ⟨rfl, N32, e32⟩ := hQ32
  show OGo p e below (T32.setTop (mkF m 85 #[.val (.int p1), .val (.int p2), .val (.int p3), .val (.long q1), .second, .val (.long q2), .second, .val (.ref m1), .val (.ref m2), .val (.ref m3), .val (.ref sc), .val (.long (f j1)), .second, .val (.long (f j2)), .second, .val (.long (f j3)), .second] [(.long ((if m1 = m2 then (if m1 = m1 then 0 + q1 else 0) + q2 else (if m1 = m1 then 0 + q1 else 0)) : Int64)), (.long (f j1))])) (OEnd s (fun v h L => v = some (.int (1 : Int32)) ∧ Fr n0 L) room_1.cells room_1.slots)
  refine OGo.step (fun _ kk => XS.lcmp X32.here hx rfl (hb hby at_85) rfl kk) ?_
  show OGo p e below (T32.setTop (mkF m 86 #[.val (.int p1), .val (.int p2), .val (.int p3), .val (.long q1), .second, .val (.long q2), .second, .val (.ref m1), .val (.ref m2), .val (.ref m3), .val (.ref sc), .val (.long (f j1)), .second, .val (.long (f j2)), .second, .val (.long (f j3)), .second] [(.int (lcmpW (f j1) ((if m1 = m2 then (if m1 = m1 then 0 + q1 else 0) + q2 else (if m1 = m1 then 0 + q1 else 0)) : Int64)))])) (OEnd s (fun v h L => v = some (.int (1 : Int32)) ∧ Fr n0 L) room_1.cells room_1.slots)
  refine OGo.step (fun _ kk => XS.ifNo X32.here hx rfl (hb hby at_86) rfl ((if0 _ _).trans (teq ((lw_eq _ _).mpr v1)).2) kk) ?_
  show OGo p e below (T32.setTop (mkF m 89 #[.val (.int p1), .val (.int p2), .val (.int p3), .val (.long q1), .second, .val (.long q2), .second, .val (.ref m1), .val (.ref m2), .val (.ref m3), .val (.ref sc), .val (.long (f j1)), .second, .val (.long (f j2)), .second, .val (.long (f j3)), .second] [])) (OEnd s (fun v h L => v = some (.int (1 : Int32)) ∧ Fr n0 L) room_1.cells room_1.slots)
  refine OGo.step (fun _ kk => XS.lload X32.here hx rfl (hb hby at_89) rfl kk) ?_
  show OGo p e below (T32.setTop (mkF m 91 #[.val (.int p1), .val (.int p2), .val (.int p3), .val (.long q1), .second, .val (.long q2), .second, .val (.ref m1), .val (.ref m2), .val (.ref m3), .val (.ref sc), .val (.long (f j1)), .second, .val (.long (f j2)), .second, .val (.long (f j3)), .second] [(.long (f j2))])) (OEnd s (fun v h L => v = some (.int (1 : Int32)) ∧ Fr n0 L) room_1.cells room_1.slots)
  refine OGo.step (fun _ kk => XS.aload X32.here hx rfl (hb hby at_91) rfl rfl kk) ?_
  show OGo p e below (T32.setTop (mkF m 93 #[.val (.int p1), .val (.int p2), .val (.int p3), .val (.long q1), .second, .val (.long q2), .second, .val (.ref m1), .val (.ref m2), .val (.ref m3), .val (.ref sc), .val (.long (f j1)), .second, .val (.long (f j2)), .second, .val (.long (f j3)), .second] [(.ref m2), (.long (f j2))])) (OEnd s (fun v h L => v = some (.int (1 : Int32)) ∧ Fr n0 L) room_1.cells room_1.slots)
  refine OGo.step (fun _ kk => XS.aload X32.here hx rfl (hb hby at_93) rfl rfl kk) ?_
  show OGo p e below (T32.setTop (mkF m 95 #[.val (.int p1), .val (.int p2), .val (.int p3), .val (.long q1), .second, .val (.long q2), .second, .val (.ref m1), .val (.ref m2), .val (.ref m3), .val (.ref sc), .val (.long (f j1)), .second, .val (.long (f j2)), .second, .val (.long (f j3)), .second] [(.ref m1), (.ref m2), (.long (f j2))])) (OEnd s (fun v h L => v = some (.int (1 : Int32)) ∧ Fr n0 L) room_1.cells room_1.slots)
  refine OGo.step (fun _ kk => XS.lloadN X32.here hx rfl (hb hby at_95) rfl kk) ?_
  show OGo p e below (T32.setTop (mkF m 96 #[.val (.int p1), .val (.int p2), .val (.int p3), .val (.long q1), .second, .val (.long q2), .second, .val (.ref m1), .val (.ref m2), .val (.ref m3), .val (.ref sc), .val (.long (f j1)), .second, .val (.long (f j2)), .second, .val (.long (f j3)), .second] [(.long q1), (.ref m1), (.ref m2), (.long (f j2))])) (OEnd s (fun v h L => v = some (.int (1 : Int32)) ∧ Fr n0 L) room_1.cells room_1.slots)
  refine OGo.step (fun _ kk => XS.aload X32.here hx rfl (hb hby at_96) rfl rfl kk) ?_
  show OGo p e below (T32.setTop (mkF m 98 #[.val (.int p1), .val (.int p2), .val (.int p3), .val (.long q1), .second, .val (.long q2), .second, .val (.ref m1), .val (.ref m2), .val (.ref m3), .val (.ref sc), .val (.long (f j1)), .second, .val (.long (f j2)), .second, .val (.long (f j3)), .second] [(.ref m2), (.long q1), (.ref m1), (.ref m2), (.long (f j2))])) (OEnd s (fun v h L => v = some (.int (1 : Int32)) ∧ Fr n0 L) room_1.cells room_1.slots)
  refine OGo.step (fun _ kk => XS.lload X32.here hx rfl (hb hby at_98) rfl kk) ?_
  show OGo p e below (T32.setTop (mkF m 100 #[.val (.int p1), .val (.int p2), .val (.int p3), .val (.long q1), .second, .val (.long q2), .second, .val (.ref m1), .val (.ref m2), .val (.ref m3), .val (.ref sc), .val (.long (f j1)), .second, .val (.long (f j2)), .second, .val (.long (f j3)), .second] [(.long q2), (.ref m2), (.long q1), (.ref m1), (.ref m2), (.long (f j2))])) (OEnd s (fun v h L => v = some (.int (1 : Int32)) ∧ Fr n0 L) room_1.cells room_1.slots)
  refine own_callS X32 hx hZ (y := (⟨"com/example/slotwise/slotwise/curriculum/ScoreAddPinLaw", "expect", "(Lcom/example/slotwise/slotwise/curriculum/Measure;Lcom/example/slotwise/slotwise/curriculum/Measure;JLcom/example/slotwise/slotwise/curriculum/Measure;J)J"⟩ : MethodName)) hown (hw _ (List.mem_of_getElem? (i := 62) rfl)) (hw _ (List.mem_of_getElem? (i := 63) rfl)) (hw _ (List.mem_of_getElem? (i := 2) rfl)) (hw _ (List.mem_of_getElem? (i := 64) rfl)) (by decide) (W := 2) (own_rm8 l Z a0 hw [] m2 m1 q1 m2 q2 _ n0 Z4) e32  (pc := 100) (Ls := #[.val (.int p1), .val (.int p2), .val (.int p3), .val (.long q1), .second, .val (.long q2), .second, .val (.ref m1), .val (.ref m2), .val (.ref m3), .val (.ref sc), .val (.long (f j1)), .second, .val (.long (f j2)), .second, .val (.long (f j3)), .second]) (argsL := [(.ref m2), (.ref m1), (.long q1), (.ref m2), (.long q2)]) (rest := [(.long (f j2))]) (by rw [hml]; rfl) (lenOf own_pd6 rfl) rfl (hb hby at_100) (by decide) (by decide) (by decide) (by decide) ?_
  intro v33 T33 L33 X33 hQ33
  obtain ⟨rfl, N33, e33⟩ := hQ33
  show OGo p e below (T33.setTop (mkF m 103 #[.val (.int p1), .val (.int p2), .val (.int p3), .val (.long q1), .second, .val (.long q2), .second, .val (.ref m1), .val (.ref m2), .val (.ref m3), .val (.ref sc), .val (.long (f j1)), .second, .val (.long (f j2)), .second, .val (.long (f j3)), .second] [(.long ((if m2 = m2 then (if m2 = m1 then 0 + q1 else 0) + q2 else (if m2 = m1 then 0 + q1 else 0)) : Int64)), (.long (f j2))])) (OEnd s (fun v h L => v = some (.int (1 : Int32)) ∧ Fr n0 L) room_1.cells room_1.slots)
  refine OGo.step (fun _ kk => XS.lcmp X33.here hx rfl (hb hby at_103) rfl kk) ?_
  show OGo p e below (T33.setTop (mkF m 104 #[.val (.int p1), .val (.int p2), .val (.int p3), .val (.long q1), .second, .val (.long q2), .second, .val (.ref m1), .val (.ref m2), .val (.ref m3), .val (.ref sc), .val (.long (f j1)), .second, .val (.long (f j2)), .second, .val (.long (f j3)), .second] [(.int (lcmpW (f j2) ((if m2 = m2 then (if m2 = m1 then 0 + q1 else 0) + q2 else (if m2 = m1 then 0 + q1 else 0)) : Int64)))])) (OEnd s (fun v h L => v = some (.int (1 : Int32)) ∧ Fr n0 L) room_1.cells room_1.slots)
  refine OGo.step (fun _ kk => XS.ifNo X33.here hx rfl (hb hby at_104) rfl ((if0 _ _).trans (teq ((lw_eq _ _).mpr v2)).2) kk) ?_
  show OGo p e below (T33.setTop (mkF m 107 #[.val (.int p1), .val (.int p2), .val (.int p3), .val (.long q1), .second, .val (.long q2), .second, .val (.ref m1), .val (.ref m2), .val (.ref m3), .val (.ref sc), .val (.long (f j1)), .second, .val (.long (f j2)), .second, .val (.long (f j3)), .second] [])) (OEnd s (fun v h L => v = some (.int (1 : Int32)) ∧ Fr n0 L) room_1.cells room_1.slots)
  refine OGo.step (fun _ kk => XS.lload X33.here hx rfl (hb hby at_107) rfl kk) ?_
  show OGo p e below (T33.setTop (mkF m 109 #[.val (.int p1), .val (.int p2), .val (.int p3), .val (.long q1), .second, .val (.long q2), .second, .val (.ref m1), .val (.ref m2), .val (.ref m3), .val (.ref sc), .val (.long (f j1)), .second, .val (.long (f j2)), .second, .val (.long (f j3)), .second] [(.long (f j3))])) (OEnd s (fun v h L => v = some (.int (1 : Int32)) ∧ Fr n0 L) room_1.cells room_1.slots)
  refine OGo.step (fun _ kk => XS.aload X33.here hx rfl (hb hby at_109) rfl rfl kk) ?_
  show OGo p e below (T33.setTop (mkF m 111 #[.val (.int p1), .val (.int p2), .val (.int p3), .val (.long q1), .second, .val (.long q2), .second, .val (.ref m1), .val (.ref m2), .val (.ref m3), .val (.ref sc), .val (.long (f j1)), .second, .val (.long (f j2)), .second, .val (.long (f j3)), .second] [(.ref m3), (.long (f j3))])) (OEnd s (fun v h L => v = some (.int (1 : Int32)) ∧ Fr n0 L) room_1.cells room_1.slots)
  refine OGo.step (fun _ kk => XS.aload X33.here hx rfl (hb hby at_111) rfl rfl kk) ?_
  show OGo p e below (T33.setTop (mkF m 113 #[.val (.int p1), .val (.int p2), .val (.int p3), .val (.long q1), .second, .val (.long q2), .second, .val (.ref m1), .val (.ref m2), .val (.ref m3), .val (.ref sc), .val (.long (f j1)), .second, .val (.long (f j2)), .second, .val (.long (f j3)), .second] [(.ref m1), (.ref m3), (.long (f j3))])) (OEnd s (fun v h L => v = some (.int (1 : Int32)) ∧ Fr n0 L) room_1.cells room_1.slots)
  refine OGo.step (fun _ kk => XS.lloadN X33.here hx rfl (hb hby at_113) rfl kk) ?_
  show OGo p e below (T33.setTop (mkF m 114 #[.val (.int p1), .val (.int p2), .val (.int p3), .val (.long q1), .second, .val (.long q2), .second, .val (.ref m1), .val (.ref m2), .val (.ref m3), .val (.ref sc), .val (.long (f j1)), .second, .val (.long (f j2)), .second, .val (.long (f j3)), .second] [(.long q1), (.ref m1), (.ref m3), (.long (f j3))])) (OEnd s (fun v h L => v = some (.int (1 : Int32)) ∧ Fr n0 L) room_1.cells room_1.slots)
  refine OGo.step (fun _ kk => XS.aload X33.here hx rfl (hb hby at_114) rfl rfl kk) ?_
  show OGo p e below (T33.setTop (mkF m 116 #[.val (.int p1), .val (.int p2), .val (.int p3), .val (.long q1), .second, .val (.long q2), .second, .val (.ref m1), .val (.ref m2), .val (.ref m3), .val (.ref sc), .val (.long (f j1)), .second, .val (.long (f j2)), .second, .val (.long (f j3)), .second] [(.ref m2), (.long q1), (.ref m1), (.ref m3), (.long (f j3))])) (OEnd s (fun v h L => v = some (.int (1 : Int32)) ∧ Fr n0 L) room_1.cells room_1.slots)
  refine OGo.step (fun _ kk => XS.lload X33.here hx rfl (hb hby at_116) rfl kk) ?_
  show OGo p e below (T33.setTop (mkF m 118 #[.val (.int p1), .val (.int p2), .val (.int p3), .val (.long q1), .second, .val (.long q2), .second, .val (.ref m1), .val (.ref m2), .val (.ref m3), .val (.ref sc), .val (.long (f j1)), .second, .val (.long (f j2)), .second, .val (.long (f j3)), .second] [(.long q2), (.ref m2), (.long q1), (.ref m1), (.ref m3), (.long (f j3))])) (OEnd s (fun v h L => v = some (.int (1 : Int32)) ∧ Fr n0 L) room_1.cells room_1.slots)
  refine own_callS X33 hx hZ (y := (⟨"com/example/slotwise/slotwise/curriculum/ScoreAddPinLaw", "expect", "(Lcom/example/slotwise/slotwise/curriculum/Measure;Lcom/example/slotwise/slotwise/curriculum/Measure;JLcom/example/slotwise/slotwise/curriculum/Measure;J)J"⟩ : MethodName)) hown (hw _ (List.mem_of_getElem? (i := 62) rfl)) (hw _ (List.mem_of_getElem? (i := 63) rfl)) (hw _ (List.mem_of_getElem? (i := 2) rfl)) (hw _ (List.mem_of_getElem? (i := 64) rfl)) (by decide) (W := 2) (own_rm8 l Z a0 hw [] m3 m1 q1 m2 q2 _ n0 Z4) e33  (pc := 118) (Ls := #[.val (.int p1), .val (.int p2), .val (.int p3), .val (.long q1), .second, .val (.long q2), .second, .val (.ref m1), .val (.ref m2), .val (.ref m3), .val (.ref sc), .val (.long (f j1)), .second, .val (.long (f j2)), .second, .val (.long (f j3)), .second]) (argsL := [(.ref m3), (.ref m1), (.long q1), (.ref m2), (.long q2)]) (rest := [(.long (f j3))]) (by rw [hml]; rfl) (lenOf own_pd6 rfl) rfl (hb hby at_118) (by decide) (by decide) (by decide) (by decide) ?_
  intro v34 T34 L34 X34 hQ34
  obtain ⟨rfl, N34, e34⟩ := hQ34
  show OGo p e below (T34.setTop (mkF m 121 #[.val (.int p1), .val (.int p2), .val (.int p3), .val (.long q1), .second, .val (.long q2), .second, .val (.ref m1), .val (.ref m2), .val (.ref m3), .val (.ref sc), .val (.long (f j1)), .second, .val (.long (f j2)), .second, .val (.long (f j3)), .second] [(.long ((if m3 = m2 then (if m3 = m1 then 0 + q1 else 0) + q2 else (if m3 = m1 then 0 + q1 else 0)) : Int64)), (.long (f j3))])) (OEnd s (fun v h L => v = some (.int (1 : Int32)) ∧ Fr n0 L) room_1.cells room_1.slots)
  refine OGo.step (fun _ kk => XS.lcmp X34.here hx rfl (hb hby at_121) rfl kk) ?_
  show OGo p e below (T34.setTop (mkF m 122 #[.val (.int p1), .val (.int p2), .val (.int p3), .val (.long q1), .second, .val (.long q2), .second, .val (.ref m1), .val (.ref m2), .val (.ref m3), .val (.ref sc), .val (.long (f j1)), .second, .val (.long (f j2)), .second, .val (.long (f j3)), .second] [(.int (lcmpW (f j3) ((if m3 = m2 then (if m3 = m1 then 0 + q1 else 0) + q2 else (if m3 = m1 then 0 + q1 else 0)) : Int64)))])) (OEnd s (fun v h L => v = some (.int (1 : Int32)) ∧ Fr n0 L) room_1.cells room_1.slots)
  refine OGo.step (fun _ kk => XS.ifNo X34.here hx rfl (hb hby at_122) rfl ((if0 _ _).trans (teq ((lw_eq _ _).mpr v3)).2) kk) ?_
  show OGo p e below (T34.setTop (mkF m 125 #[.val (.int p1), .val (.int p2), .val (.int p3), .val (.long q1), .second, .val (.long q2), .second, .val (.ref m1), .val (.ref m2), .val (.ref m3), .val (.ref sc), .val (.long (f j1)), .second, .val (.long (f j2)), .second, .val (.long (f j3)), .second] [])) (OEnd s (fun v h L => v = some (.int (1 : Int32)) ∧ Fr n0 L) room_1.cells room_1.slots)
  refine OGo.step (fun _ kk => XS.iconst X34.here hx rfl (hb hby at_125) kk) ?_
  show OGo p e below (T34.setTop (mkF m 126 #[.val (.int p1), .val (.int p2), .val (.int p3), .val (.long q1), .second, .val (.long q2), .second, .val (.ref m1), .val (.ref m2), .val (.ref m3), .val (.ref sc), .val (.long (f j1)), .second, .val (.long (f j2)), .second, .val (.long (f j3)), .second] [(.int (1 : Int32))])) (OEnd s (fun v h L => v = some (.int (1 : Int32)) ∧ Fr n0 L) room_1.cells room_1.slots)
  refine OGo.step (fun _ kk => XS.goto X34.here hx rfl (pc0 := 126) (pc' := 130) rfl (hb hby at_126) (by decide) (by decide) kk) ?_
  show OGo p e below (T34.setTop (mkF m 130 #[.val (.int p1), .val (.int p2), .val (.int p3), .val (.long q1), .second, .val (.long q2), .second, .val (.ref m1), .val (.ref m2), .val (.ref m3), .val (.ref sc), .val (.long (f j1)), .second, .val (.long (f j2)), .second, .val (.long (f j3)), .second] [(.int (1 : Int32))])) (OEnd s (fun v h L => v = some (.int (1 : Int32)) ∧ Fr n0 L) room_1.cells room_1.slots)
  exact own_retN X34 hx hlk hret (by simp) (hb hby at_130) ⟨rfl, (((((((((((((Fr.nil n0).app N22).app N23).app N24).app N26).app N27).app N28).app N29).app N30).app N31).app N32).app N33).app N34)⟩ (by decide) (by decide)

set_option maxRecDepth 65536 in
set_option maxHeartbeats 40000000 in
theorem comes_1 {Post : Tables → Env → Array Value → State → Outcome → State → Prop} (hpost : ∀ tb e args s v u, (limb_1_1.after args s (.returned v) u = true ∧ limb_1_2.after args s (.returned v) u = true ∧ True) → FrameEnd s (.returned v) u (Jvm.fieldLocs frame_1_writes args s ++ Jvm.arrayLocs frame_1_arrays args s ++ Jvm.staticLocs frame_1_statics s) 16 128 → Post tb e args s (.returned v) u) :
    ArmFor flags0 classFile x code maxLocals ret World_1 tables_1 room_1 Calls_1 rest_1 Pre_1 Post := by
  intro l hfl _ _ p e ha hc hk s m args below hf hA hF happ hP
  obtain ⟨hcalls, hrest, hpre⟩ := hP
  obtain ⟨-, -, -, hnamed, -, -, -, hat⟩ := (Spec.applies_iff hf).mp happ
  obtain ⟨hg, hn⟩ := and_e (Cond.before_iff.mp (show (Jvm.Cond.and given_1 narrow_1).before args s = true from hpre))
  obtain ⟨k35, k35'⟩ := and_e hg
  obtain ⟨k36, k36'⟩ := and_e k35'
  obtain ⟨k37, k37'⟩ := and_e k36'
  obtain ⟨k38, k38'⟩ := and_e k37'
  obtain ⟨k39, k39'⟩ := and_e k38'
  obtain ⟨w0_, w1_, w2_, w3_, w4_, rfl⟩ : ∃ w0_ w1_ w2_ w3_ w4_ : Value, args = #[w0_, w1_, w2_, w3_, w4_] := by
    have hs : args.size = 5 := by simpa [Cond.value, given_1] using k35
    obtain ⟨L⟩ := args
    match L, hs with
    | [w0_, w1_, w2_, w3_, w4_], _ => exact ⟨w0_, w1_, w2_, w3_, w4_, rfl⟩
  have hw := fun d (hd : d ∈ tables_1) => atoms_spec (ws := Jvm.Cond.code x code maxLocals ret :: tables_1) hat d (List.mem_cons_of_mem _ hd)
  have hfit : Fit s := fun {y c} hc i hi => by
    obtain ⟨ha, rfl⟩ := Array.getElem?_eq_some_iff.mp hc
    have q := List.all_eq_true.mp ((Array.all_eq_true_iff_forall_mem.mp hF) _ (Array.getElem_mem ha)) i (List.mem_range.mpr hi)
    simpa [Array.getElem?_eq_getElem hi] using q
  obtain ⟨i0, ei0⟩ := is_v k36
  obtain rfl : w0_ = (.int i0) := Option.some.inj ei0
  obtain ⟨i1, ei1⟩ := is_v k37
  obtain rfl : w1_ = (.int i1) := Option.some.inj ei1
  obtain ⟨i2, ei2⟩ := is_v k38
  obtain rfl : w2_ = (.int i2) := Option.some.inj ei2
  obtain ⟨i3, ei3⟩ := isL_v k39
  obtain rfl : w3_ = (.long i3) := Option.some.inj ei3
  obtain ⟨i4, ei4⟩ := isL_v k39'
  obtain rfl : w4_ = (.long i4) := Option.some.inj ei4
  obtain ⟨k40, k40'⟩ := and_e hn
  obtain ⟨k41, k41'⟩ := and_e k40'
  obtain ⟨k42, k42'⟩ := and_e k41'
  obtain ⟨k43, k43'⟩ := and_e k42'
  obtain ⟨k44, k44'⟩ := and_e k43'
  obtain ⟨k45, k45'⟩ := and_e k44'
  obtain ⟨k46, k46'⟩ := and_e k45'
  obtain ⟨k47, k47'⟩ := and_e k46'
  obtain ⟨k48, k48'⟩ := and_e k47'
  obtain ⟨k49, k49'⟩ := and_e k48'
  obtain ⟨k50, k50'⟩ := and_e k49'
  obtain ⟨k51, k51'⟩ := and_e k50'
  obtain ⟨k52, k52'⟩ := and_e k51'
  obtain ⟨k53, k53'⟩ := and_e k52'
  obtain ⟨k54, k54'⟩ := and_e k53'
  obtain ⟨k55, k55'⟩ := and_e k54'
  obtain ⟨k56, k56'⟩ := and_e k55'
  obtain ⟨k57, k57'⟩ := and_e k56'
  obtain ⟨k58, k58'⟩ := and_e k57'
  obtain ⟨k59, k59'⟩ := and_e k58'
  obtain ⟨k60, k60'⟩ := and_e k59'
  obtain ⟨k61, k61'⟩ := and_e k60'
  obtain ⟨k62, k62'⟩ := and_e k61'
  obtain ⟨k63, k63'⟩ := and_e k62'
  obtain ⟨k64, k64'⟩ := and_e k63'
  obtain ⟨k65, k65'⟩ := and_e k64'
  obtain ⟨a_LECTURES, ev_LECTURES⟩ := exa_v k40
  have S_LECTURES := Sta.start ev_LECTURES (Or.inr ⟨(hw _ (List.mem_of_getElem? (i := 5) rfl)), (hw _ (List.mem_of_getElem? (i := 6) rfl))⟩)
  have E_LECTURES := Exa.start ev_LECTURES k40
  obtain ⟨a_ROOM_OCCUPATION, ev_ROOM_OCCUPATION⟩ := exa_v k41
  have S_ROOM_OCCUPATION := Sta.start ev_ROOM_OCCUPATION (Or.inr ⟨(hw _ (List.mem_of_getElem? (i := 5) rfl)), (hw _ (List.mem_of_getElem? (i := 8) rfl))⟩)
  have E_ROOM_OCCUPATION := Exa.start ev_ROOM_OCCUPATION k41
  obtain ⟨a_AVAILABILITY, ev_AVAILABILITY⟩ := exa_v k42
  have S_AVAILABILITY := Sta.start ev_AVAILABILITY (Or.inr ⟨(hw _ (List.mem_of_getElem? (i := 5) rfl)), (hw _ (List.mem_of_getElem? (i := 10) rfl))⟩)
  have E_AVAILABILITY := Exa.start ev_AVAILABILITY k42
  obtain ⟨a__VALUES, ev__VALUES⟩ := arr_v k43
  have S__VALUES := Sta.start ev__VALUES (Or.inr ⟨(hw _ (List.mem_of_getElem? (i := 5) rfl)), (hw _ (List.mem_of_getElem? (i := 24) rfl))⟩)
  obtain ⟨c__VALUES, Ar__VALUES⟩ := Arr.start ev__VALUES k43
  have E__VALUES := Exa.start ev__VALUES k44
  obtain ⟨a_CONFLICTS, ev_CONFLICTS⟩ := exa_v k47
  have S_CONFLICTS := Sta.start ev_CONFLICTS (Or.inr ⟨(hw _ (List.mem_of_getElem? (i := 5) rfl)), (hw _ (List.mem_of_getElem? (i := 32) rfl))⟩)
  have E_CONFLICTS := Exa.start ev_CONFLICTS k47
  obtain ⟨a_ROOM_CAPACITY, ev_ROOM_CAPACITY⟩ := exa_v k51
  have S_ROOM_CAPACITY := Sta.start ev_ROOM_CAPACITY (Or.inr ⟨(hw _ (List.mem_of_getElem? (i := 5) rfl)), (hw _ (List.mem_of_getElem? (i := 33) rfl))⟩)
  have E_ROOM_CAPACITY := Exa.start ev_ROOM_CAPACITY k51
  obtain ⟨a_MIN_WORKING_DAYS, ev_MIN_WORKING_DAYS⟩ := exa_v k53
  have S_MIN_WORKING_DAYS := Sta.start ev_MIN_WORKING_DAYS (Or.inr ⟨(hw _ (List.mem_of_getElem? (i := 5) rfl)), (hw _ (List.mem_of_getElem? (i := 34) rfl))⟩)
  have E_MIN_WORKING_DAYS := Exa.start ev_MIN_WORKING_DAYS k53
  obtain ⟨a_CURRICULUM_COMPACTNESS, ev_CURRICULUM_COMPACTNESS⟩ := exa_v k55
  have S_CURRICULUM_COMPACTNESS := Sta.start ev_CURRICULUM_COMPACTNESS (Or.inr ⟨(hw _ (List.mem_of_getElem? (i := 5) rfl)), (hw _ (List.mem_of_getElem? (i := 35) rfl))⟩)
  have E_CURRICULUM_COMPACTNESS := Exa.start ev_CURRICULUM_COMPACTNESS k55
  obtain ⟨a_ROOM_STABILITY, ev_ROOM_STABILITY⟩ := exa_v k57
  have S_ROOM_STABILITY := Sta.start ev_ROOM_STABILITY (Or.inr ⟨(hw _ (List.mem_of_getElem? (i := 5) rfl)), (hw _ (List.mem_of_getElem? (i := 36) rfl))⟩)
  have E_ROOM_STABILITY := Exa.start ev_ROOM_STABILITY k57
  have len__VALUES := own_len ev__VALUES Ar__VALUES (own_eqv k45 rfl)
  have el__VALUES_0 := own_elem ev__VALUES Ar__VALUES (own_eqv k46 ev_LECTURES)
  have el__VALUES_1 := own_elem ev__VALUES Ar__VALUES (own_eqv k48 ev_CONFLICTS)
  have el__VALUES_2 := own_elem ev__VALUES Ar__VALUES (own_eqv k49 ev_AVAILABILITY)
  have el__VALUES_3 := own_elem ev__VALUES Ar__VALUES (own_eqv k50 ev_ROOM_OCCUPATION)
  have el__VALUES_4 := own_elem ev__VALUES Ar__VALUES (own_eqv k52 ev_ROOM_CAPACITY)
  have el__VALUES_5 := own_elem ev__VALUES Ar__VALUES (own_eqv k54 ev_MIN_WORKING_DAYS)
  have el__VALUES_6 := own_elem ev__VALUES Ar__VALUES (own_eqv k56 ev_CURRICULUM_COMPACTNESS)
  have el__VALUES_7 := own_elem ev__VALUES Ar__VALUES (own_eqv k58 ev_ROOM_STABILITY)
  have F_LECTURES_ordinal := Fld.start ((fld_at ev_LECTURES).symm.trans (own_eqv k59 rfl))
  have F_ROOM_OCCUPATION_ordinal := Fld.start ((fld_at ev_ROOM_OCCUPATION).symm.trans (own_eqv k60 rfl))
  have F_AVAILABILITY_ordinal := Fld.start ((fld_at ev_AVAILABILITY).symm.trans (own_eqv k61 rfl))
  have F_ROOM_STABILITY_ordinal := Fld.start ((fld_at ev_ROOM_STABILITY).symm.trans (own_eqv k62 rfl))
  have F_MIN_WORKING_DAYS_ordinal := Fld.start ((fld_at ev_MIN_WORKING_DAYS).symm.trans (own_eqv k63 rfl))
  have F_CURRICULUM_COMPACTNESS_ordinal := Fld.start ((fld_at ev_CURRICULUM_COMPACTNESS).symm.trans (own_eqv k64 rfl))
  have F_ROOM_CAPACITY_ordinal := Fld.start ((fld_at ev_ROOM_CAPACITY).symm.trans (own_eqv k65 rfl))
  have F_CONFLICTS_ordinal := Fld.start ((fld_at ev_CONFLICTS).symm.trans (own_eqv k65' rfl))
  have VS : c__VALUES.slots.size = 8 := by
    have q := len_toInt len__VALUES.1
    rw [len__VALUES.2] at q
    have z : (8 : Int32).toInt = 8 := rfl
    omega
  obtain ⟨n, o, h1, h2, h3, _, L, rfl, ⟨rfl, N⟩, hq⟩ := own_rm0 l s _ hw tables_1 i0 i1 i2 i3 i4 a_LECTURES a_CONFLICTS a_AVAILABILITY a_ROOM_OCCUPATION a_ROOM_CAPACITY a_MIN_WORKING_DAYS a_CURRICULUM_COMPACTNESS a_ROOM_STABILITY a__VALUES c__VALUES s.heap s.heap.size (Nat.le_refl _) S_LECTURES S_CONFLICTS S_AVAILABILITY S_ROOM_OCCUPATION S_ROOM_CAPACITY S_MIN_WORKING_DAYS S_CURRICULUM_COMPACTNESS S_ROOM_STABILITY (Old.start s) S__VALUES Ar__VALUES E__VALUES (FitC.start hfit Ar__VALUES) VS F_LECTURES_ordinal F_CONFLICTS_ordinal F_AVAILABILITY_ordinal F_ROOM_OCCUPATION_ordinal F_ROOM_CAPACITY_ordinal F_MIN_WORKING_DAYS_ordinal F_CURRICULUM_COMPACTNESS_ordinal F_ROOM_STABILITY_ordinal E_LECTURES E_CONFLICTS E_AVAILABILITY E_ROOM_OCCUPATION E_ROOM_CAPACITY E_MIN_WORKING_DAYS E_CURRICULUM_COMPACTNESS E_ROOM_STABILITY p e ha hc hk s m _ below hf ((Spec.applies_iff_loose hf).mp happ).1 ⟨rfl, State.Warmed39.refl s, rfl⟩ trivial
  exact ⟨n, _, h1, h2, h3, hpost _ _ _ _ _ _ ⟨Cond.after_iff.mpr rfl, Cond.after_iff.mpr (eq_i res_at (Term.int_eval (1)) rfl), trivial⟩ ⟨hq.1, hq.2.1, (hq.2.2.sift fun y hy => Or.inr (N y hy)).mono (by decide) (by decide)⟩⟩
theorem main_1_1 : Claimed_1_1 := comes_1 fun _ _ _ _ _ _ h hF => ⟨h.1, hF⟩
theorem main_1_2 : Claimed_1_2 := comes_1 fun _ _ _ _ _ _ h hF => ⟨h.2.1, hF⟩
end Jvm.Pilot.@@N@@
namespace Jvm.Pilot.@@N@@
open Jvm Jvm.ClassFile Sem Op Lib Jvm.Free Jvm.Stand Jvm.Pilot.@@N@@.Jvm.D
/-! MADE BY PROGRAM (witnessworld.py) out of the Statement's table words and the real class files: 16 classes; the members and pool entries that the words name. The judged class is class 1, her method 3. -/
namespace start1
open Jvm.ClassFile
def u (s : String) : CpInfo := .utf8 (stringToUtf16 s)
/-- a pool by its gaps: so many unusable entries, then the entry; so many at the end -/
def gap : Nat → List CpInfo → List CpInfo
  | 0, r => r
  | n + 1, r => .unusable :: gap n r
def poolList (es : List (Nat × CpInfo)) (last : Nat) : List CpInfo := es.foldr (fun e r => gap e.1 (e.2 :: r)) (gap last [])
def pool (es : List (Nat × CpInfo)) (last : Nat) : Array CpInfo := ⟨poolList es last⟩
def fileOf (pool : Array CpInfo) (this : Nat) (attrs : Array Attribute := #[]) (ms : Array MethodInfo := #[]) (fl : Nat := 33) (sup : Nat := 0) (ifs : Array Nat := #[]) (fds : Array FieldInfo := #[]) : ClassFile where
  minorVersion := 0
  majorVersion := 65
  constantPool := pool
  accessFlags := fl
  thisClass := this
  superClass := sup
  interfaces := ifs
  fields := fds
  methods := ms
  attributes := attrs
def plain (name : String) (sup : Option ClassId) : Class where
  name := name
  kind := .ordinary
  loader := none
  accessFlags := 33
  super := sup
  interfaces := #[]
  cf := none
  fields := #[]
  methods := #[]
  instanceTypes := #[]
  staticTypes := #[]
  resolved := #[]
  callSites := []
  init := .initialized
  statics := none
  mirror := none

def pool0 : Array CpInfo := pool [(5, u "<init>"), (0, u "()V"), (1, .class_ 10), (1, u "java/lang/Object"), (85, u "clone"), (0, u "()Ljava/lang/Object;")] 26

def k0c0 : Code := { maxStack := 0, maxLocals := 1, code := object_method_1_code, exceptionTable := #[], attributes := #[] }
def k0m0 : Method := { name := "<init>", desc := "()V", sig := { parameters := [], returnType := none }, accessFlags := 1, code := some k0c0 }
def k0m1 : Method := { name := "clone", desc := "()Ljava/lang/Object;", sig := { parameters := [], returnType := some (.object "java/lang/Object") }, accessFlags := 260, code := none }
/-- java/lang/Object -/
def k0 : Class := { plain "java/lang/Object" none with
  accessFlags := 33
  interfaces := #[]
  cf := some (fileOf pool0 8 #[] #[{ accessFlags := 1, nameIndex := 5, descriptorIndex := 6, attributes := #[] }, { accessFlags := 260, nameIndex := 96, descriptorIndex := 97, attributes := #[] }] 33 0 #[] #[])
  fields := #[]
  methods := #[k0m0, k0m1]
  instanceTypes := #[]
  staticTypes := #[]
  resolved := Array.replicate 124 none
  statics := none }

def pool1 : Array CpInfo := pool [(2, .class_ 4), (0, .nameAndType 5 6), (0, u "java/lang/Object"), (0, u "<init>"), (0, u "()V"), (0, .fieldref 8 9), (0, .class_ 10), (0, .nameAndType 11 12), (0, u "com/example/slotwise/slotwise/curriculum/Measure"), (0, u "LECTURES"), (0, u "Lcom/example/slotwise/slotwise/curriculum/Measure;"), (0, .fieldref 8 14), (0, .nameAndType 15 12), (0, u "CONFLICTS"), (0, .fieldref 8 17), (0, .nameAndType 18 12), (0, u "AVAILABILITY"), (0, .fieldref 8 20), (0, .nameAndType 21 12), (0, u "ROOM_OCCUPATION"), (0, .fieldref 8 23), (0, .nameAndType 24 12), (0, u "ROOM_CAPACITY"), (0, .fieldref 8 26), (0, .nameAndType 27 12), (0, u "MIN_WORKING_DAYS"), (0, .fieldref 8 29), (0, .nameAndType 30 12), (0, u "CURRICULUM_COMPACTNESS"), (0, .fieldref 8 32), (0, .nameAndType 33 12), (0, u "ROOM_STABILITY"), (0, .methodref 35 36), (0, .class_ 37), (0, .nameAndType 38 39), (0, u "com/example/slotwise/slotwise/curriculum/ScoreAddPinLaw"), (0, u "pick"), (0, u "(I)Lcom/example/slotwise/slotwise/curriculum/Measure;"), (0, .class_ 41), (0, u "com/example/slotwise/slotwise/curriculum/Score"), (0, .methodref 40 3), (0, .methodref 40 44), (0, .nameAndType 45 46), (0, u "add"), (0, u "(Lcom/example/slotwise/slotwise/curriculum/Measure;J)V"), (0, .methodref 40 48), (0, .nameAndType 49 50), (0, u "value"), (0, u "(Lcom/example/slotwise/slotwise/curriculum/Measure;)J"), (0, .methodref 35 52), (0, .nameAndType 53 54), (0, u "expect"), (0, u "(Lcom/example/slotwise/slotwise/curriculum/Measure;Lcom/example/slotwise/slotwise/curriculum/Measure;JLcom/example/slotwise/slotwise/curriculum/Measure;J)J"), (3, u "law"), (0, u "(IIIJJ)Z")] 2

def k1m0 : Method := { name := "<init>", desc := "()V", sig := { parameters := [], returnType := none }, accessFlags := 2, code := none }
def k1c1 : Code := { maxStack := 2, maxLocals := 2, code := method_2_code, exceptionTable := #[], attributes := #[] }
def k1m1 : Method := { name := "pick", desc := "(I)Lcom/example/slotwise/slotwise/curriculum/Measure;", sig := { parameters := [.int], returnType := some (.object "com/example/slotwise/slotwise/curriculum/Measure") }, accessFlags := 10, code := some k1c1 }
def k1c2 : Code := { maxStack := 4, maxLocals := 9, code := method_3_code, exceptionTable := #[], attributes := #[] }
def k1m2 : Method := { name := "expect", desc := "(Lcom/example/slotwise/slotwise/curriculum/Measure;Lcom/example/slotwise/slotwise/curriculum/Measure;JLcom/example/slotwise/slotwise/curriculum/Measure;J)J", sig := { parameters := [(.object "com/example/slotwise/slotwise/curriculum/Measure"), (.object "com/example/slotwise/slotwise/curriculum/Measure"), .long, (.object "com/example/slotwise/slotwise/curriculum/Measure"), .long], returnType := some .long }, accessFlags := 10, code := some k1c2 }
def k1c3 : Code := { maxStack := 9, maxLocals := 17, code := code, exceptionTable := #[], attributes := #[] }
def k1m3 : Method := { name := "law", desc := "(IIIJJ)Z", sig := { parameters := [.int, .int, .int, .long, .long], returnType := some .boolean }, accessFlags := 9, code := some k1c3 }
/-- com/example/slotwise/slotwise/curriculum/ScoreAddPinLaw -/
def k1 : Class := { plain "com/example/slotwise/slotwise/curriculum/ScoreAddPinLaw" (some 0) with
  accessFlags := 49
  interfaces := #[]
  cf := some (fileOf pool1 35 #[] #[{ accessFlags := 2, nameIndex := 5, descriptorIndex := 6, attributes := #[] }, { accessFlags := 10, nameIndex := 38, descriptorIndex := 39, attributes := #[] }, { accessFlags := 10, nameIndex := 53, descriptorIndex := 54, attributes := #[] }, { accessFlags := 9, nameIndex := 58, descriptorIndex := 59, attributes := #[] }] 49 2 #[] #[])
  fields := #[]
  methods := #[k1m0, k1m1, k1m2, k1m3]
  instanceTypes := #[]
  staticTypes := #[]
  resolved := Array.replicate 62 none
  statics := none }

def pool2 : Array CpInfo := pool [(1, .class_ 2), (0, u "java/lang/constant/Constable"), (0, .class_ 4), (0, u "java/lang/Object")] 6

/-- java/lang/constant/Constable -/
def k2 : Class := { plain "java/lang/constant/Constable" (some 0) with
  accessFlags := 1537
  interfaces := #[]
  cf := some (fileOf pool2 1 #[] #[] 1537 3 #[] #[])
  fields := #[]
  methods := #[]
  instanceTypes := #[]
  staticTypes := #[]
  resolved := Array.replicate 11 none
  statics := none }

def pool3 : Array CpInfo := pool [(1, .class_ 2), (0, u "java/lang/Comparable"), (0, .class_ 4), (0, u "java/lang/Object")] 7

/-- java/lang/Comparable -/
def k3 : Class := { plain "java/lang/Comparable" (some 0) with
  accessFlags := 1537
  interfaces := #[]
  cf := some (fileOf pool3 1 #[] #[] 1537 3 #[] #[])
  fields := #[]
  methods := #[]
  instanceTypes := #[]
  staticTypes := #[]
  resolved := Array.replicate 12 none
  statics := none }

def pool4 : Array CpInfo := pool [(1, .class_ 2), (0, u "java/io/Serializable"), (0, .class_ 4), (0, u "java/lang/Object")] 2

/-- java/io/Serializable -/
def k4 : Class := { plain "java/io/Serializable" (some 0) with
  accessFlags := 1537
  interfaces := #[]
  cf := some (fileOf pool4 1 #[] #[] 1537 3 #[] #[])
  fields := #[]
  methods := #[]
  instanceTypes := #[]
  staticTypes := #[]
  resolved := Array.replicate 7 none
  statics := none }

def pool5 : Array CpInfo := pool [(2, .class_ 4), (1, u "java/lang/Enum"), (0, u "name"), (0, u "Ljava/lang/String;"), (0, .fieldref 2 8), (0, .nameAndType 9 10), (0, u "ordinal"), (0, u "I"), (1, .class_ 14), (1, u "java/lang/Object"), (4, u "hash"), (86, .class_ 108), (1, u "java/lang/Enum$EnumDesc"), (2, .class_ 112), (0, u "java/lang/constant/Constable"), (0, .class_ 114), (0, u "java/lang/Comparable"), (0, .class_ 116), (0, u "java/io/Serializable"), (9, u "()I")] 77

def k5c0 : Code := { maxStack := 1, maxLocals := 1, code := jdk_37_method_2_code, exceptionTable := #[], attributes := #[] }
def k5m0 : Method := { name := "ordinal", desc := "()I", sig := { parameters := [], returnType := some .int }, accessFlags := 17, code := some k5c0 }
/-- java/lang/Enum -/
def k5 : Class := { plain "java/lang/Enum" (some 0) with
  accessFlags := 1057
  interfaces := #[2, 3, 4]
  cf := some (fileOf pool5 2 #[.nestMembers #[106]] #[{ accessFlags := 17, nameIndex := 9, descriptorIndex := 126, attributes := #[] }] 1057 12 #[111, 113, 115] #[{ accessFlags := 18, nameIndex := 5, descriptorIndex := 6, attributes := #[] }, { accessFlags := 18, nameIndex := 9, descriptorIndex := 10, attributes := #[] }, { accessFlags := 2, nameIndex := 19, descriptorIndex := 10, attributes := #[] }])
  fields := #[{ name := "name", type := (.object "java/lang/String"), accessFlags := 18, slot := 0, constantValue := 0 }, { name := "ordinal", type := .int, accessFlags := 18, slot := 1, constantValue := 0 }, { name := "hash", type := .int, accessFlags := 2, slot := 2, constantValue := 0 }]
  methods := #[k5m0]
  instanceTypes := #[(.object "java/lang/String"), .int, .int]
  staticTypes := #[]
  resolved := Array.replicate 204 none
  statics := none }

def pool6 : Array CpInfo := pool [(1, .class_ 2), (0, u "com/example/slotwise/slotwise/curriculum/Measure"), (2, u "LECTURES"), (0, u "Lcom/example/slotwise/slotwise/curriculum/Measure;"), (2, u "CONFLICTS"), (2, u "AVAILABILITY"), (2, u "ROOM_OCCUPATION"), (2, u "ROOM_CAPACITY"), (2, u "MIN_WORKING_DAYS"), (2, u "CURRICULUM_COMPACTNESS"), (2, u "ROOM_STABILITY"), (0, .fieldref 1 29), (0, .nameAndType 30 31), (0, u "$VALUES"), (0, u "[Lcom/example/slotwise/slotwise/curriculum/Measure;"), (0, .methodref 33 34), (0, .class_ 31), (0, .nameAndType 35 36), (0, u "clone"), (0, u "()Ljava/lang/Object;"), (1, .class_ 40), (1, u "java/lang/Enum"), (8, u "label"), (0, u "Ljava/lang/String;"), (2, u "hard"), (0, u "Z"), (2, u "weight"), (0, u "I"), (30, u "()[Lcom/example/slotwise/slotwise/curriculum/Measure;"), (0, u "values")] 14

def k6c0 : Code := { maxStack := 1, maxLocals := 0, code := prog_17_method_1_code, exceptionTable := #[], attributes := #[] }
def k6m0 : Method := { name := "values", desc := "()[Lcom/example/slotwise/slotwise/curriculum/Measure;", sig := { parameters := [], returnType := some (.array (.object "com/example/slotwise/slotwise/curriculum/Measure")) }, accessFlags := 9, code := some k6c0 }
/-- com/example/slotwise/slotwise/curriculum/Measure -/
def k6 : Class := { plain "com/example/slotwise/slotwise/curriculum/Measure" (some 5) with
  accessFlags := 16433
  interfaces := #[]
  cf := some (fileOf pool6 1 #[] #[{ accessFlags := 9, nameIndex := 90, descriptorIndex := 89, attributes := #[] }] 16433 38 #[] #[{ accessFlags := 16409, nameIndex := 5, descriptorIndex := 6, attributes := #[] }, { accessFlags := 16409, nameIndex := 9, descriptorIndex := 6, attributes := #[] }, { accessFlags := 16409, nameIndex := 12, descriptorIndex := 6, attributes := #[] }, { accessFlags := 16409, nameIndex := 15, descriptorIndex := 6, attributes := #[] }, { accessFlags := 16409, nameIndex := 18, descriptorIndex := 6, attributes := #[] }, { accessFlags := 16409, nameIndex := 21, descriptorIndex := 6, attributes := #[] }, { accessFlags := 16409, nameIndex := 24, descriptorIndex := 6, attributes := #[] }, { accessFlags := 16409, nameIndex := 27, descriptorIndex := 6, attributes := #[] }, { accessFlags := 18, nameIndex := 49, descriptorIndex := 50, attributes := #[] }, { accessFlags := 18, nameIndex := 53, descriptorIndex := 54, attributes := #[] }, { accessFlags := 18, nameIndex := 57, descriptorIndex := 58, attributes := #[] }, { accessFlags := 4122, nameIndex := 30, descriptorIndex := 31, attributes := #[] }])
  fields := #[{ name := "LECTURES", type := (.object "com/example/slotwise/slotwise/curriculum/Measure"), accessFlags := 16409, slot := 0, constantValue := 0 }, { name := "CONFLICTS", type := (.object "com/example/slotwise/slotwise/curriculum/Measure"), accessFlags := 16409, slot := 1, constantValue := 0 }, { name := "AVAILABILITY", type := (.object "com/example/slotwise/slotwise/curriculum/Measure"), accessFlags := 16409, slot := 2, constantValue := 0 }, { name := "ROOM_OCCUPATION", type := (.object "com/example/slotwise/slotwise/curriculum/Measure"), accessFlags := 16409, slot := 3, constantValue := 0 }, { name := "ROOM_CAPACITY", type := (.object "com/example/slotwise/slotwise/curriculum/Measure"), accessFlags := 16409, slot := 4, constantValue := 0 }, { name := "MIN_WORKING_DAYS", type := (.object "com/example/slotwise/slotwise/curriculum/Measure"), accessFlags := 16409, slot := 5, constantValue := 0 }, { name := "CURRICULUM_COMPACTNESS", type := (.object "com/example/slotwise/slotwise/curriculum/Measure"), accessFlags := 16409, slot := 6, constantValue := 0 }, { name := "ROOM_STABILITY", type := (.object "com/example/slotwise/slotwise/curriculum/Measure"), accessFlags := 16409, slot := 7, constantValue := 0 }, { name := "label", type := (.object "java/lang/String"), accessFlags := 18, slot := 3, constantValue := 0 }, { name := "hard", type := .boolean, accessFlags := 18, slot := 4, constantValue := 0 }, { name := "weight", type := .int, accessFlags := 18, slot := 5, constantValue := 0 }, { name := "$VALUES", type := (.array (.object "com/example/slotwise/slotwise/curriculum/Measure")), accessFlags := 4122, slot := 8, constantValue := 0 }]
  methods := #[k6m0]
  instanceTypes := #[(.object "java/lang/String"), .int, .int, (.object "java/lang/String"), .boolean, .int]
  staticTypes := #[(.object "com/example/slotwise/slotwise/curriculum/Measure"), (.object "com/example/slotwise/slotwise/curriculum/Measure"), (.object "com/example/slotwise/slotwise/curriculum/Measure"), (.object "com/example/slotwise/slotwise/curriculum/Measure"), (.object "com/example/slotwise/slotwise/curriculum/Measure"), (.object "com/example/slotwise/slotwise/curriculum/Measure"), (.object "com/example/slotwise/slotwise/curriculum/Measure"), (.object "com/example/slotwise/slotwise/curriculum/Measure"), (.array (.object "com/example/slotwise/slotwise/curriculum/Measure"))]
  resolved := Array.replicate 105 none
  statics := some 0 }

def pool7 : Array CpInfo := pool [(1, .methodref 2 3), (0, .class_ 4), (0, .nameAndType 5 6), (0, u "java/lang/Object"), (0, u "<init>"), (0, u "()V"), (0, .methodref 8 9), (0, .class_ 10), (0, .nameAndType 11 12), (0, u "com/example/slotwise/slotwise/curriculum/Measure"), (0, u "values"), (0, u "()[Lcom/example/slotwise/slotwise/curriculum/Measure;"), (0, .fieldref 14 15), (0, .class_ 16), (0, .nameAndType 11 17), (0, u "com/example/slotwise/slotwise/curriculum/Score"), (0, u "[J"), (0, .methodref 8 19), (0, .nameAndType 20 21), (0, u "ordinal"), (0, u "()I"), (10, u "value"), (0, u "(Lcom/example/slotwise/slotwise/curriculum/Measure;)J"), (13, u "add"), (13, u "(Lcom/example/slotwise/slotwise/curriculum/Measure;J)V")] 28

def k7c0 : Code := { maxStack := 2, maxLocals := 1, code := prog_19_method_1_code, exceptionTable := #[], attributes := #[] }
def k7m0 : Method := { name := "<init>", desc := "()V", sig := { parameters := [], returnType := none }, accessFlags := 0, code := some k7c0 }
def k7c1 : Code := { maxStack := 6, maxLocals := 4, code := prog_19_method_2_code, exceptionTable := #[], attributes := #[] }
def k7m1 : Method := { name := "add", desc := "(Lcom/example/slotwise/slotwise/curriculum/Measure;J)V", sig := { parameters := [(.object "com/example/slotwise/slotwise/curriculum/Measure"), .long], returnType := none }, accessFlags := 0, code := some k7c1 }
def k7c2 : Code := { maxStack := 2, maxLocals := 2, code := prog_19_method_3_code, exceptionTable := #[], attributes := #[] }
def k7m2 : Method := { name := "value", desc := "(Lcom/example/slotwise/slotwise/curriculum/Measure;)J", sig := { parameters := [(.object "com/example/slotwise/slotwise/curriculum/Measure")], returnType := some .long }, accessFlags := 1, code := some k7c2 }
/-- com/example/slotwise/slotwise/curriculum/Score -/
def k7 : Class := { plain "com/example/slotwise/slotwise/curriculum/Score" (some 0) with
  accessFlags := 49
  interfaces := #[]
  cf := some (fileOf pool7 14 #[] #[{ accessFlags := 0, nameIndex := 5, descriptorIndex := 6, attributes := #[] }, { accessFlags := 0, nameIndex := 47, descriptorIndex := 61, attributes := #[] }, { accessFlags := 1, nameIndex := 32, descriptorIndex := 33, attributes := #[] }] 49 2 #[] #[{ accessFlags := 18, nameIndex := 11, descriptorIndex := 17, attributes := #[] }])
  fields := #[{ name := "values", type := (.array .long), accessFlags := 18, slot := 0, constantValue := 0 }]
  methods := #[k7m0, k7m1, k7m2]
  instanceTypes := #[(.array .long)]
  staticTypes := #[]
  resolved := Array.replicate 90 none
  statics := none }

def pool8 : Array CpInfo := pool [(1, .class_ 2), (0, u "java/lang/Cloneable"), (0, .class_ 4), (0, u "java/lang/Object")] 2

/-- java/lang/Cloneable -/
def k8 : Class := { plain "java/lang/Cloneable" (some 0) with
  accessFlags := 1537
  interfaces := #[]
  cf := some (fileOf pool8 1 #[] #[] 1537 3 #[] #[])
  fields := #[]
  methods := #[]
  instanceTypes := #[]
  staticTypes := #[]
  resolved := Array.replicate 7 none
  statics := none }

/-- the primitive byte -/
def k9 : Class := { plain "byte" none with kind := .primitive 'B', accessFlags := 0x411 }
/-- [B -/
def k10 : Class := { plain "[B" (some 0) with kind := .array 9 .byte, interfaces := #[8, 4], accessFlags := 1041 }

/-- the primitive int -/
def k11 : Class := { plain "int" none with kind := .primitive 'I', accessFlags := 0x411 }
/-- [I -/
def k12 : Class := { plain "[I" (some 0) with kind := .array 11 .int, interfaces := #[8, 4], accessFlags := 1041 }

/-- the primitive long -/
def k13 : Class := { plain "long" none with kind := .primitive 'J', accessFlags := 0x411 }
/-- [J -/
def k14 : Class := { plain "[J" (some 0) with kind := .array 13 .long, interfaces := #[8, 4], accessFlags := 1041 }

/-- [Lcom/example/slotwise/slotwise/curriculum/Measure; -/
def k15 : Class := { plain "[Lcom/example/slotwise/slotwise/curriculum/Measure;" (some 0) with kind := .array 6 (.object "com/example/slotwise/slotwise/curriculum/Measure"), interfaces := #[8, 4], accessFlags := 1041 }

def heap : Heap := #[{ cls := 6, slots := #[.ref 2, .ref 3, .ref 4, .ref 5, .ref 6, .ref 7, .ref 8, .ref 9, .ref 1], vm := .statics 6 },
  { cls := 15, slots := #[.ref 2, .ref 3, .ref 4, .ref 5, .ref 6, .ref 7, .ref 8, .ref 9], vm := .none },
  { cls := 6, slots := #[.null, .int 0, .int 0, .null, .int 0, .int 0], vm := .none },
  { cls := 6, slots := #[.null, .int 1, .int 0, .null, .int 0, .int 0], vm := .none },
  { cls := 6, slots := #[.null, .int 2, .int 0, .null, .int 0, .int 0], vm := .none },
  { cls := 6, slots := #[.null, .int 3, .int 0, .null, .int 0, .int 0], vm := .none },
  { cls := 6, slots := #[.null, .int 4, .int 0, .null, .int 0, .int 0], vm := .none },
  { cls := 6, slots := #[.null, .int 5, .int 0, .null, .int 0, .int 0], vm := .none },
  { cls := 6, slots := #[.null, .int 6, .int 0, .null, .int 0, .int 0], vm := .none },
  { cls := 6, slots := #[.null, .int 7, .int 0, .null, .int 0, .int 0], vm := .none }]
def classes : Array Class := #[k0, k1, k2, k3, k4, k5, k6, k7, k8, k9, k10, k11, k12, k13, k14, k15]
def interned : List (Array UInt16 × Addr) := []
def slotsUsed : Nat := 65
def theMethod : MethodId := ⟨1, 3⟩
def args0 : Array Value := #[.int 5, .int 1, .int 5, .long 7, .long 9]
def aboutOver (below : List Frame) : State where
  vm := { classes := classes, interned := interned.toArray }
  heap := heap
  slotsUsed := slotsUsed
  threads := #[{ frames := .invoking theMethod args0 :: below }]
def below0 : List Frame := [.native { method := ⟨0, 0⟩, args := #[] }]
def about1 : State := aboutOver below0
def p0 : Program := .bare "" "" ""
def e0 : Env := launch0.env 0 0 0
theorem w_frames : about1.frames = Frame.invoking theMethod args0 :: below0 := rfl
set_option maxRecDepth 65536 in
theorem w_args : argsFit about1.vm theMethod args0 = true := by decide +kernel
set_option maxRecDepth 65536 in
theorem w_heap : heapFits about1 = true := by decide +kernel
set_option maxRecDepth 65536 in
theorem w_runnable : about1.curStatus? = some .runnable := by decide +kernel
set_option maxRecDepth 65536 in
theorem w_alone : about1.alone = true := by decide +kernel
set_option maxRecDepth 65536 in
theorem w_named : about1.methodNamed? x = some theMethod := by decide +kernel
set_option maxRecDepth 65536 in
theorem w_hears : about1.hears theMethod below0 = true := by decide +kernel
set_option maxRecDepth 65536 in
theorem w_ripe : about1.ripe theMethod args0 below0 = true := by decide +kernel
theorem w_running : about1.status = .running := rfl
set_option maxRecDepth 65536 in
theorem w_room : about1.hasRoom e0.platform room_1 = true :=
  launch0.hasRoom_least _ room_1 (by decide +kernel) (by decide +kernel) (by decide +kernel) (by decide +kernel) (by decide +kernel) (by decide +kernel)
theorem allAtoms_all (ts : List Jvm.Cond) (a : Array Jvm.Value) (st : Jvm.State) : (allAtoms ts).before a st = ts.all (fun c => c.before a st) := by
  induction ts with
  | nil => rfl
  | cons c t ih =>
    show (Jvm.Cond.and c (allAtoms t)).before a st = _
    rw [Jvm.Cond.before_and, ih, List.all_cons]
def words1 : List Jvm.Cond := Jvm.Cond.code x code maxLocals ret :: tables_1
/-- a 'code' word, met by the world's own term for the bytes: nothing is compared byte by byte -/
theorem code_word {y : MethodName} {bytes : ByteArray} {mx : Nat} {rt : Option FieldType} {a : Array Value} {s : State} {m : MethodId} {meth : Method} {c : Code} (h1 : s.methodNamed? y = some m) (h2 : s.vm.method? m = some meth) (h3 : meth.code = some c) (h4 : c.code = bytes)
    (h5 : (c.maxLocals == mx && c.exceptionTable.isEmpty && decide (c.maxStack ≤ mostOperands) && decide (meth.sig.returnType = rt) && !meth.locks && decide (parseMethodDescriptor y.desc = some meth.sig)) = true) : (Jvm.Cond.code y bytes mx rt).before a s = true := by
  simp only [Bool.and_eq_true, beq_iff_eq, Bool.not_eq_true', decide_eq_true_eq] at h5
  obtain ⟨⟨⟨⟨⟨g1, g2⟩, g3⟩, g4⟩, g5⟩, g6⟩ := h5
  simp [Cond.before, Cond.holds, Cond.value, h1, h2, h3, h4, g1, g2, g3, g4, g5, g6]
def isCode : Jvm.Cond → Bool
  | .code _ _ _ _ => true
  | _ => false
theorem all_split {L : List Jvm.Cond} {P : Jvm.Cond → Bool} (h1 : L.all (fun c => isCode c || P c) = true) (h2 : ∀ c ∈ L.filter isCode, P c = true) : L.all P = true := by
  refine List.all_eq_true.mpr fun c hc => ?_
  have h := List.all_eq_true.mp h1 c hc
  rcases Bool.eq_false_or_eq_true (isCode c) with hi | hi
  · exact h2 c (List.mem_filter.mpr ⟨hc, hi⟩)
  · simpa [hi] using h
set_option maxRecDepth 65536 in
theorem w_c0 : (Jvm.Cond.code x code maxLocals ret).before args0 about1 = true := code_word (m := ⟨1, 3⟩) (meth := k1m3) (c := k1c3) (by decide +kernel) rfl rfl rfl (by decide +kernel)
set_option maxRecDepth 65536 in
theorem w_c1 : (Jvm.Cond.code ({ cls := "com/example/slotwise/slotwise/curriculum/ScoreAddPinLaw", name := "pick", desc := "(I)Lcom/example/slotwise/slotwise/curriculum/Measure;" } : Jvm.MethodName) method_2_code (2 : Nat) (Option.some (Jvm.ClassFile.FieldType.object "com/example/slotwise/slotwise/curriculum/Measure"))).before args0 about1 = true := code_word (m := ⟨1, 1⟩) (meth := k1m1) (c := k1c1) (by decide +kernel) rfl rfl rfl (by decide +kernel)
set_option maxRecDepth 65536 in
theorem w_c2 : (Jvm.Cond.code ({ cls := "com/example/slotwise/slotwise/curriculum/Score", name := "<init>", desc := "()V" } : Jvm.MethodName) prog_19_method_1_code (1 : Nat) (Option.none : Option Jvm.ClassFile.FieldType)).before args0 about1 = true := code_word (m := ⟨7, 0⟩) (meth := k7m0) (c := k7c0) (by decide +kernel) rfl rfl rfl (by decide +kernel)
set_option maxRecDepth 65536 in
theorem w_c3 : (Jvm.Cond.code ({ cls := "java/lang/Object", name := "<init>", desc := "()V" } : Jvm.MethodName) object_method_1_code (1 : Nat) (Option.none : Option Jvm.ClassFile.FieldType)).before args0 about1 = true := code_word (m := ⟨0, 0⟩) (meth := k0m0) (c := k0c0) (by decide +kernel) rfl rfl rfl (by decide +kernel)
set_option maxRecDepth 65536 in
theorem w_c4 : (Jvm.Cond.code ({ cls := "com/example/slotwise/slotwise/curriculum/Measure", name := "values", desc := "()[Lcom/example/slotwise/slotwise/curriculum/Measure;" } : Jvm.MethodName) prog_17_method_1_code (0 : Nat) (Option.some (Jvm.ClassFile.FieldType.array (Jvm.ClassFile.FieldType.object "com/example/slotwise/slotwise/curriculum/Measure")))).before args0 about1 = true := code_word (m := ⟨6, 0⟩) (meth := k6m0) (c := k6c0) (by decide +kernel) rfl rfl rfl (by decide +kernel)
set_option maxRecDepth 65536 in
theorem w_c5 : (Jvm.Cond.code ({ cls := "com/example/slotwise/slotwise/curriculum/Score", name := "add", desc := "(Lcom/example/slotwise/slotwise/curriculum/Measure;J)V" } : Jvm.MethodName) prog_19_method_2_code (4 : Nat) (Option.none : Option Jvm.ClassFile.FieldType)).before args0 about1 = true := code_word (m := ⟨7, 1⟩) (meth := k7m1) (c := k7c1) (by decide +kernel) rfl rfl rfl (by decide +kernel)
set_option maxRecDepth 65536 in
theorem w_c6 : (Jvm.Cond.code ({ cls := "java/lang/Enum", name := "ordinal", desc := "()I" } : Jvm.MethodName) jdk_37_method_2_code (1 : Nat) (Option.some Jvm.ClassFile.FieldType.int)).before args0 about1 = true := code_word (m := ⟨5, 0⟩) (meth := k5m0) (c := k5c0) (by decide +kernel) rfl rfl rfl (by decide +kernel)
set_option maxRecDepth 65536 in
theorem w_c7 : (Jvm.Cond.code ({ cls := "com/example/slotwise/slotwise/curriculum/Score", name := "value", desc := "(Lcom/example/slotwise/slotwise/curriculum/Measure;)J" } : Jvm.MethodName) prog_19_method_3_code (2 : Nat) (Option.some Jvm.ClassFile.FieldType.long)).before args0 about1 = true := code_word (m := ⟨7, 2⟩) (meth := k7m2) (c := k7c2) (by decide +kernel) rfl rfl rfl (by decide +kernel)
set_option maxRecDepth 65536 in
theorem w_c8 : (Jvm.Cond.code ({ cls := "com/example/slotwise/slotwise/curriculum/ScoreAddPinLaw", name := "expect", desc := "(Lcom/example/slotwise/slotwise/curriculum/Measure;Lcom/example/slotwise/slotwise/curriculum/Measure;JLcom/example/slotwise/slotwise/curriculum/Measure;J)J" } : Jvm.MethodName) method_3_code (9 : Nat) (Option.some Jvm.ClassFile.FieldType.long)).before args0 about1 = true := code_word (m := ⟨1, 2⟩) (meth := k1m2) (c := k1c2) (by decide +kernel) rfl rfl rfl (by decide +kernel)
def codes1 : List Jvm.Cond := [Jvm.Cond.code x code maxLocals ret, Jvm.Cond.code ({ cls := "com/example/slotwise/slotwise/curriculum/ScoreAddPinLaw", name := "pick", desc := "(I)Lcom/example/slotwise/slotwise/curriculum/Measure;" } : Jvm.MethodName) method_2_code (2 : Nat) (Option.some (Jvm.ClassFile.FieldType.object "com/example/slotwise/slotwise/curriculum/Measure")), Jvm.Cond.code ({ cls := "com/example/slotwise/slotwise/curriculum/Score", name := "<init>", desc := "()V" } : Jvm.MethodName) prog_19_method_1_code (1 : Nat) (Option.none : Option Jvm.ClassFile.FieldType), Jvm.Cond.code ({ cls := "java/lang/Object", name := "<init>", desc := "()V" } : Jvm.MethodName) object_method_1_code (1 : Nat) (Option.none : Option Jvm.ClassFile.FieldType), Jvm.Cond.code ({ cls := "com/example/slotwise/slotwise/curriculum/Measure", name := "values", desc := "()[Lcom/example/slotwise/slotwise/curriculum/Measure;" } : Jvm.MethodName) prog_17_method_1_code (0 : Nat) (Option.some (Jvm.ClassFile.FieldType.array (Jvm.ClassFile.FieldType.object "com/example/slotwise/slotwise/curriculum/Measure"))), Jvm.Cond.code ({ cls := "com/example/slotwise/slotwise/curriculum/Score", name := "add", desc := "(Lcom/example/slotwise/slotwise/curriculum/Measure;J)V" } : Jvm.MethodName) prog_19_method_2_code (4 : Nat) (Option.none : Option Jvm.ClassFile.FieldType), Jvm.Cond.code ({ cls := "java/lang/Enum", name := "ordinal", desc := "()I" } : Jvm.MethodName) jdk_37_method_2_code (1 : Nat) (Option.some Jvm.ClassFile.FieldType.int), Jvm.Cond.code ({ cls := "com/example/slotwise/slotwise/curriculum/Score", name := "value", desc := "(Lcom/example/slotwise/slotwise/curriculum/Measure;)J" } : Jvm.MethodName) prog_19_method_3_code (2 : Nat) (Option.some Jvm.ClassFile.FieldType.long), Jvm.Cond.code ({ cls := "com/example/slotwise/slotwise/curriculum/ScoreAddPinLaw", name := "expect", desc := "(Lcom/example/slotwise/slotwise/curriculum/Measure;Lcom/example/slotwise/slotwise/curriculum/Measure;JLcom/example/slotwise/slotwise/curriculum/Measure;J)J" } : Jvm.MethodName) method_3_code (9 : Nat) (Option.some Jvm.ClassFile.FieldType.long)]
set_option maxRecDepth 65536 in
theorem codes_eq : words1.filter isCode = codes1 := rfl
theorem w_codes : ∀ c ∈ words1.filter isCode, c.before args0 about1 = true := by
  rw [codes_eq]
  intro c hc
  simp only [codes1, List.mem_cons, List.not_mem_nil, or_false] at hc
  rcases hc with rfl | rfl | rfl | rfl | rfl | rfl | rfl | rfl | rfl
  · exact w_c0
  · exact w_c1
  · exact w_c2
  · exact w_c3
  · exact w_c4
  · exact w_c5
  · exact w_c6
  · exact w_c7
  · exact w_c8
set_option maxRecDepth 65536 in
theorem w_t1 : (words1.take 24).all (fun c => isCode c || c.before args0 about1) = true := by decide +kernel
set_option maxRecDepth 65536 in
theorem w_t2 : ((words1.drop 24).take 24).all (fun c => isCode c || c.before args0 about1) = true := by decide +kernel
set_option maxRecDepth 65536 in
theorem w_t3 : ((words1.drop 24).drop 24).all (fun c => isCode c || c.before args0 about1) = true := by decide +kernel
theorem w_tables : (allAtoms (Jvm.Cond.code x code maxLocals ret :: tables_1)).before args0 about1 = true := by
  rw [allAtoms_all]
  show words1.all (fun c => c.before args0 about1) = true
  refine all_split ?_ w_codes
  rw [← List.take_append_drop 24 words1, List.all_append, w_t1, ← List.take_append_drop 24 (words1.drop 24), List.all_append, w_t2, w_t3]
  rfl
set_option maxRecDepth 65536 in
theorem w_case : (Jvm.Cond.and given_1 narrow_1).before args0 about1 = true := by decide +kernel
theorem w_applies : (headSpec (Jvm.Cond.code x code maxLocals ret :: tables_1) room_1).applies x e0.platform about1 = true :=
  (Spec.applies_iff w_frames).mpr ⟨w_running, w_runnable, w_alone, w_named, w_hears, w_ripe, w_room, w_tables⟩
theorem atStart : AtStart classFile x code maxLocals ret World_1 tables_1 room_1 Calls_1 rest_1 Pre_1 launch0 p0 e0 about1 theMethod args0 below0 :=
  ⟨lists_1, trivial, launch0.admits_env _ _ _, launch0.least_env, fairChoices_fair.cas, fairChoices_fair.clock, w_frames, w_args, w_heap, w_applies, trivial, trivial, w_case⟩
end start1
theorem witness_1 : WitnessClaimed_1 := ⟨start1.p0, start1.e0, start1.about1, start1.theMethod, start1.args0, start1.below0, start1.atStart⟩
end Jvm.Pilot.@@N@@
