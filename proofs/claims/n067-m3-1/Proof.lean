import JvmDerived
import JvmDerived.Pilot.@@N@@Statement
import JvmDerived.Pilot.@@N@@Code
set_option linter.unusedVariables false
set_option linter.unusedSimpArgs false
@@BLOCK:NumsL.lean.txt@@
namespace Jvm.Pilot.@@N@@
open Jvm Jvm.ClassFile Sem Op Lib Jvm.Free Jvm.Stand Jvm.LawKit Jvm.RoadKit Bundle Jvm.Pilot.@@N@@.Jvm.D
section Own
variable {p : Program} {l : Launch} {e : Env} {R : Room} {s : State} {m : MethodId} {args : Array Value} {below : List Frame} {meth : Method} {c : Code} {T : State} {locs : List Loc} {cells slots : Nat} {Z : State} {a0 : Array Value} {h : Heap}
/-- from U the run comes to the method's end, and P holds there -/
def OGo (p : Program) (e : Env) (below : List Frame) (U : State) (P : State → Outcome → Prop) : Prop :=
  ∃ t o, Steps p.tables e below U t ∧ t.status = .running ∧ Ended t below o ∧ P t o
theorem OGo.step {U U' : State} {P : State → Outcome → Prop} (k : ∀ t, Steps p.tables e below U' t → Steps p.tables e below U t) (g : OGo p e below U' P) : OGo p e below U P := by
  obtain ⟨t, o, h1, h2⟩ := g
  exact ⟨t, o, k t h1, h2⟩
def OEnd (s : State) (Q : Option Value → Heap → List Loc → Prop) (kc ks : Nat) (t : State) (o : Outcome) : Prop :=
  ∃ v L, o = .returned v ∧ Q v t.heap L ∧ FrameEnd s o t L kc ks
/-- the contract of one body, at one array of arguments and one heap -/
abbrev OMet (l : Launch) (Z : State) (y : MethodName) (bytes : ByteArray) (maxL : Nat) (ret : Option FieldType) (ws : List Jvm.Cond) (rm : Room) (as' : Array Value) (h0 : Heap) (Q : Option Value → Heap → List Loc → Prop) : Prop :=
  MetFree l y (head1 (Jvm.Cond.code y bytes maxL ret :: ws) rm) (fun a U => a = as' ∧ Z.Warmed39 U.vm ∧ U.heap = h0) (fun _ _ _ _ _ => True) (fun _ U o U' => ∃ v L, o = .returned v ∧ Q v U'.heap L ∧ FrameEnd U o U' L rm.cells rm.slots)
theorem OMet.body {y : MethodName} {bytes : ByteArray} {maxL : Nat} {ret : Option FieldType} {ws : List Jvm.Cond} {rm : Room} {as' : Array Value} {h0 : Heap} {Q : Option Value → Heap → List Loc → Prop} (hpn : plainFor y = true)
    (b : ∀ (p : Program) (e : Env) (s : State) (m : MethodId) (below : List Frame) (meth : Method) (c : Code) (s₁ : State), p.tables.exec = Jvm.exec → c.code = bytes → c.maxLocals = maxL → s.vm.findClass y.cls = some m.cls → meth.name = y.name → meth.sig.returnType = ret → meth.locks = false → Z.Warmed39 s.vm →
      Stand p l e rm s m as' below meth c s₁ [] 0 0 → s₁.heap = h0 → OGo p e below (s₁.setTop (entryFrame m as' maxL)) (OEnd s Q rm.cells rm.slots)) : OMet l Z y bytes maxL ret ws rm as' h0 Q := by
  refine MetFree.of_bodySF hpn hisR ?_
  intro p e s m args below meth c s₁ Bd hml0 hP hK
  obtain ⟨rfl, hZ, hh⟩ := hP
  exact b p e s m below meth c s₁ Bd.exec Bd.bytes hml0 (findClass_of_methodNamed Bd.named) (name_of_methodNamed Bd.named Bd.method).1 Bd.returns Bd.notSynchronized hZ (Stand.of_body Bd) (by rw [← hh, Bd.state]; rfl)
theorem own_ret (X : Stand p l e R s m args below meth c T locs cells slots) (hx : p.tables.exec = Jvm.exec) (hlk : meth.locks = false) {pc : Nat} {Ls : Array Slot} {w : Value} {t : FieldType} {i : Instr} {rest : List Value} (hret : meth.sig.returnType = some t) (hn : narrow t w = w)
    (hi : (i = .ireturn ∧ (t = .int ∨ t = .boolean ∨ t = .byte ∨ t = .char ∨ t = .short) ∧ ∃ z, w = .int z) ∨ (i = .lreturn ∧ t = .long ∧ ∃ z, w = .long z) ∨ (i = .dreturn ∧ t = .double ∧ ∃ z, w = .double z) ∨ (i = .freturn ∧ t = .float ∧ ∃ z, w = .float z) ∨ (i = .areturn ∧ t.isReference = true ∧ w.isRef = true))
    (hd : decode c.code pc = .ok (i, 1)) {Q : Option Value → Heap → List Loc → Prop} {kc ks : Nat} (hQ : Q (some w) T.heap locs) (h1 : cells ≤ kc) (h2 : slots ≤ ks) : OGo p e below (T.setTop (mkF m pc Ls (w :: rest))) (OEnd s Q kc ks) := by
  obtain ⟨fs, hr, hrun, hended, hW, hsame⟩ := X.leave (v := some w) (fun h => by rw [hret] at h; cases h) hlk
  exact ⟨_, _, retOut X hx hret hn hi hd hr, hrun, hended, _, _, rfl, hQ, ⟨_, rfl⟩, hW, hsame.mono h1 h2⟩
theorem own_retN (X : Stand p l e R s m args below meth c T locs cells slots) (hx : p.tables.exec = Jvm.exec) (hlk : meth.locks = false) {pc : Nat} {Ls : Array Slot} {z : Int32} {t : FieldType} {rest : List Value} (hret : meth.sig.returnType = some t) (ht : t = .boolean ∨ t = .byte ∨ t = .char ∨ t = .short)
    (hd : decode c.code pc = .ok (.ireturn, 1)) {Q : Option Value → Heap → List Loc → Prop} {kc ks : Nat} (hQ : Q (some (.int (nar t z))) T.heap locs) (h1 : cells ≤ kc) (h2 : slots ≤ ks) : OGo p e below (T.setTop (mkF m pc Ls (.int z :: rest))) (OEnd s Q kc ks) := by
  obtain ⟨fs, hr, hrun, hended, hW, hsame⟩ := X.leave (v := some (.int (nar t z))) (fun h => by rw [hret] at h; cases h) hlk
  exact ⟨_, _, retN X hx hret ht hd hr, hrun, hended, _, _, rfl, hQ, ⟨_, rfl⟩, hW, hsame.mono h1 h2⟩
theorem own_ret0 (X : Stand p l e R s m args below meth c T locs cells slots) (hx : p.tables.exec = Jvm.exec) (hlk : meth.locks = false) {pc : Nat} {Ls : Array Slot} (hret : meth.sig.returnType = none)
    (hd : decode c.code pc = .ok (.return_, 1)) {Q : Option Value → Heap → List Loc → Prop} {kc ks : Nat} (hQ : Q none T.heap locs) (h1 : cells ≤ kc) (h2 : slots ≤ ks) : OGo p e below (T.setTop (mkF m pc Ls [])) (OEnd s Q kc ks) := by
  obtain ⟨fs, hr, hrun, hended, hW, hsame⟩ := X.leave (v := none) (fun _ => rfl) hlk
  exact ⟨_, _, X.returnOut hx hret hd hr, hrun, hended, _, _, rfl, hQ, ⟨_, rfl⟩, hW, hsame.mono h1 h2⟩
/-- who pays a call: at these arguments and this heap -/
abbrev OBack (l : Launch) (R : Room) (p : Program) (e : Env) (below : List Frame) (s : State) (args : Array Value) (y : MethodName) (len W : Nat) (as' : Array Value) (h : Heap) (kc ks : Nat) (Q : Option Value → Heap → List Loc → Prop) : Prop :=
  Back l R p e below s args y len W (fun P a => a = as' ∧ P.U.heap = h ∧ P.cells + kc ≤ R.cells ∧ P.slots + ks ≤ R.slots) (fun P _ v B => ∃ L, Q v B.U.heap L ∧ B.locs = P.locs ++ L ∧ B.cells = P.cells + kc ∧ B.slots = P.slots + ks)
/-- a static call by the callee's contract -/
theorem own_callSK (X : Stand p l e R s m args below meth c T locs cells slots) (hx : p.tables.exec = Jvm.exec) (hZ : Z.Warmed39 s.vm) {own : String} {index : Nat} {y : MethodName} {bytes : ByteArray} {maxL : Nat} {ret : Option FieldType}
    (hown : s.vm.findClass own = some m.cls) (w1 : (Jvm.Cond.methodLink own index y).before a0 Z = true) (w2 : (Jvm.Cond.static y).before a0 Z = true) (w3 : (Jvm.Cond.initialized y.cls).before a0 Z = true)
    (w4 : (Jvm.Cond.code y bytes maxL ret).before a0 Z = true) (hy : y.cls ≠ "java/lang/invoke/MethodHandle" ∧ y.cls ≠ "java/lang/invoke/VarHandle")
    {W : Nat} {kc ks : Nat} {argsL rest : List Value} {Q : Option Value → Heap → List Loc → Prop} (hK : OBack l R p e below s args y 3 W argsL.toArray h kc ks Q) (eT : T.heap = h)
    {pc : Nat} {Ls : Array Slot} (hsize : Ls.size = c.maxLocals) (hlen : ∀ sig, parseMethodDescriptor y.desc = some sig → argsL.length = sig.parameters.length) (hW : (rest.map fun v => v.category).sum = W)
    (hd : decode c.code pc = .ok (.invokestatic index, 3)) (hc : cells + kc ≤ R.cells) (hs : slots + ks ≤ R.slots) {P : State → Outcome → Prop}
    (k : ∀ (v : Option Value) (T' : State) (L : List Loc), Stand p l e R s m args below meth c T' (locs ++ L) (cells + kc) (slots + ks) → Q v T'.heap L → OGo p e below (T'.setTop (mkF m (pc + 3) Ls (v.toList ++ rest))) P) :
    OGo p e below (T.setTop (mkF m pc Ls (argsL.reverse ++ rest))) P := by
  obtain ⟨v, vm, ⟨T', L', k', n'⟩, -, X', ⟨L, hQ, l1, y1, z1⟩, st⟩ := Jvm.LawKit.callS X hx (y := y) hown (mvT hZ w1) (mvT hZ w2) (mvT hZ w3) (mvT hZ w4) hy hK (g := mkF m pc Ls (argsL.reverse ++ rest)) rfl hsize (argsL := argsL) (rest := rest) hlen rfl
    (by show 2 * 0 + _ ≤ _; rw [hW]; omega) hd (fun _ _ => ⟨rfl, eT, hc, hs⟩)
  dsimp only [Pt.U, Pt.locs, Pt.cells, Pt.slots] at X' l1 y1 z1 st hQ
  subst l1 y1 z1
  exact OGo.step st (k v T' L X' hQ)
theorem own_callS (X : Stand p l e R s m args below meth c T locs cells slots) (hx : p.tables.exec = Jvm.exec) (hZ : Z.Warmed39 s.vm) {own : String} {index : Nat} {y : MethodName} {bytes : ByteArray} {maxL : Nat} {ret : Option FieldType}
    (hown : s.vm.findClass own = some m.cls) (w1 : (Jvm.Cond.methodLink own index y).before a0 Z = true) (w2 : (Jvm.Cond.static y).before a0 Z = true) (w3 : (Jvm.Cond.initialized y.cls).before a0 Z = true)
    (w4 : (Jvm.Cond.code y bytes maxL ret).before a0 Z = true) (hy : y.cls ≠ "java/lang/invoke/MethodHandle" ∧ y.cls ≠ "java/lang/invoke/VarHandle")
    {W : Nat} {rm : Room} {argsL rest : List Value} {Q : Option Value → Heap → List Loc → Prop} (hM : OMet l Z y bytes maxL ret [] rm argsL.toArray h Q) (eT : T.heap = h)
    {pc : Nat} {Ls : Array Slot} (hsize : Ls.size = c.maxLocals) (hlen : ∀ sig, parseMethodDescriptor y.desc = some sig → argsL.length = sig.parameters.length) (hW : (rest.map fun v => v.category).sum = W)
    (hd : decode c.code pc = .ok (.invokestatic index, 3)) (hf : rm.frames + 1 ≤ R.frames) (hl : W + (maxL + 11) + rm.locals ≤ R.locals) (hc : cells + rm.cells ≤ R.cells) (hs : slots + rm.slots ≤ R.slots) {P : State → Outcome → Prop}
    (k : ∀ (v : Option Value) (T' : State) (L : List Loc), Stand p l e R s m args below meth c T' (locs ++ L) (cells + rm.cells) (slots + rm.slots) → Q v T'.heap L → OGo p e below (T'.setTop (mkF m (pc + 3) Ls (v.toList ++ rest))) P) :
    OGo p e below (T.setTop (mkF m pc Ls (argsL.reverse ++ rest))) P := 
  own_callSK X hx hZ hown w1 w2 w3 w4 hy (backOf (W := W) hM hZ w4 w3 hf hl) eT hsize hlen hW hd hc hs k
/-- a constructor by its contract -/
theorem own_specialK (X : Stand p l e R s m args below meth c T locs cells slots) (hx : p.tables.exec = Jvm.exec) (hZ : Z.Warmed39 s.vm) {own : String} {index : Nat} {y : MethodName} {bytes : ByteArray} {maxL : Nat} (hy1 : y.name = "<init>")
    (hown : s.vm.findClass own = some m.cls) (w1 : (Jvm.Cond.methodLink own index y).before a0 Z = true) (w2 : (Jvm.Cond.instanceMethod y).before a0 Z = true)
    (w4 : (Jvm.Cond.code y bytes maxL none).before a0 Z = true) (hy : y.cls ≠ "java/lang/invoke/MethodHandle" ∧ y.cls ≠ "java/lang/invoke/VarHandle") {a : Addr}
    {W : Nat} {kc ks : Nat} {argsL rest : List Value} {Q : Option Value → Heap → List Loc → Prop} (hK : OBack l R p e below s args y 3 W (.ref a :: argsL).toArray h kc ks Q) (eT : T.heap = h)
    {pc : Nat} {Ls : Array Slot} (hsize : Ls.size = c.maxLocals) (hlen : ∀ sig, parseMethodDescriptor y.desc = some sig → argsL.length = sig.parameters.length) (hW : (rest.map fun v => v.category).sum = W)
    (hd : decode c.code pc = .ok (.invokespecial index, 3)) (hc : cells + kc ≤ R.cells) (hs : slots + ks ≤ R.slots) {P : State → Outcome → Prop}
    (k : ∀ (v : Option Value) (T' : State) (L : List Loc), Stand p l e R s m args below meth c T' (locs ++ L) (cells + kc) (slots + ks) → Q v T'.heap L → OGo p e below (T'.setTop (mkF m (pc + 3) Ls (v.toList ++ rest))) P) :
    OGo p e below (T.setTop (mkF m pc Ls (argsL.reverse ++ .ref a :: rest))) P := by
  obtain ⟨v, vm, ⟨T', L', k', n'⟩, -, X', ⟨L, hQ, l1, y1, z1⟩, st⟩ := X.specialBack hx (y := y) hy1 hown (mvT hZ w1) (mvT hZ w2) (mvT hZ w4) hy hK (g := mkF m pc Ls (argsL.reverse ++ .ref a :: rest)) rfl hsize (Steps.refl _) (a := a) (argsL := argsL) (rest := rest) hlen rfl
    (by show 2 * 0 + _ ≤ _; rw [hW]; omega) hd (fun _ _ => ⟨rfl, eT, hc, hs⟩)
  dsimp only [Pt.U, Pt.locs, Pt.cells, Pt.slots] at X' l1 y1 z1 st hQ
  subst l1 y1 z1
  exact OGo.step (fun _ kk => st.trans kk) (k v T' L X' hQ)
theorem own_special (X : Stand p l e R s m args below meth c T locs cells slots) (hx : p.tables.exec = Jvm.exec) (hZ : Z.Warmed39 s.vm) {own : String} {index : Nat} {y : MethodName} {bytes : ByteArray} {maxL : Nat} (hy1 : y.name = "<init>")
    (hown : s.vm.findClass own = some m.cls) (w1 : (Jvm.Cond.methodLink own index y).before a0 Z = true) (w2 : (Jvm.Cond.instanceMethod y).before a0 Z = true)
    (w4 : (Jvm.Cond.code y bytes maxL none).before a0 Z = true) (w3 : (Jvm.Cond.initialized y.cls).before a0 Z = true) (hy : y.cls ≠ "java/lang/invoke/MethodHandle" ∧ y.cls ≠ "java/lang/invoke/VarHandle") {a : Addr}
    {W : Nat} {rm : Room} {argsL rest : List Value} {Q : Option Value → Heap → List Loc → Prop} (hM : OMet l Z y bytes maxL none [] rm (.ref a :: argsL).toArray h Q) (eT : T.heap = h)
    {pc : Nat} {Ls : Array Slot} (hsize : Ls.size = c.maxLocals) (hlen : ∀ sig, parseMethodDescriptor y.desc = some sig → argsL.length = sig.parameters.length) (hW : (rest.map fun v => v.category).sum = W)
    (hd : decode c.code pc = .ok (.invokespecial index, 3)) (hf : rm.frames + 1 ≤ R.frames) (hl : W + (maxL + 11) + rm.locals ≤ R.locals) (hc : cells + rm.cells ≤ R.cells) (hs : slots + rm.slots ≤ R.slots) {P : State → Outcome → Prop}
    (k : ∀ (v : Option Value) (T' : State) (L : List Loc), Stand p l e R s m args below meth c T' (locs ++ L) (cells + rm.cells) (slots + rm.slots) → Q v T'.heap L → OGo p e below (T'.setTop (mkF m (pc + 3) Ls (v.toList ++ rest))) P) :
    OGo p e below (T.setTop (mkF m pc Ls (argsL.reverse ++ .ref a :: rest))) P := 
  own_specialK X hx hZ hy1 hown w1 w2 w4 hy (backOf (W := W) hM hZ w4 w3 hf hl) eT hsize hlen hW hd hc hs k
/-- an instance method by its contract -/
theorem own_virtualK (X : Stand p l e R s m args below meth c T locs cells slots) (hx : p.tables.exec = Jvm.exec) (hZ : Z.Warmed39 s.vm) {own C : String} {index : Nat} {y z : MethodName}
    (hown : s.vm.findClass own = some m.cls) (w1 : (Jvm.Cond.methodLink own index y).before a0 Z = true) (w2 : (Jvm.Cond.declares y).before a0 Z = true) (hnf : NotFace s y) (w5 : (Jvm.Cond.selects C y z).before a0 Z = true) (w6 : (Jvm.Cond.instanceMethod z).before a0 Z = true)
    (hy : y.cls ≠ "java/lang/invoke/MethodHandle" ∧ y.cls ≠ "java/lang/invoke/VarHandle") {b : Addr} (hb : Exa Z h b C)
    {W : Nat} {kc ks : Nat} {argsL rest : List Value} {Q : Option Value → Heap → List Loc → Prop} (hK : OBack l R p e below s args z 3 W (.ref b :: argsL).toArray h kc ks Q) (eT : T.heap = h)
    {pc : Nat} {Ls : Array Slot} (hsize : Ls.size = c.maxLocals) (hlen : ∀ sig, parseMethodDescriptor y.desc = some sig → argsL.length = sig.parameters.length) (hW : (rest.map fun v => v.category).sum = W)
    (hd : decode c.code pc = .ok (.invokevirtual index, 3)) (hc : cells + kc ≤ R.cells) (hs : slots + ks ≤ R.slots) {P : State → Outcome → Prop}
    (k : ∀ (v : Option Value) (T' : State) (L : List Loc), Stand p l e R s m args below meth c T' (locs ++ L) (cells + kc) (slots + ks) → Q v T'.heap L → OGo p e below (T'.setTop (mkF m (pc + 3) Ls (v.toList ++ rest))) P) :
    OGo p e below (T.setTop (mkF m pc Ls (argsL.reverse ++ .ref b :: rest))) P := by
  obtain ⟨cq, kq, qa, qb, qc⟩ := isOf hZ eT hb
  obtain ⟨v, vm, ⟨T', L', k', n'⟩, -, X', ⟨L, hQ, l1, y1, z1⟩, st⟩ := X.virtualBack hx (y := y) (z := z) hown (mvT hZ w1) (mvT hZ w2) hnf (mvT hZ w5) (mvT hZ w6) hy hK qa qc (g := mkF m pc Ls (argsL.reverse ++ .ref b :: rest)) rfl hsize (Steps.refl _) (argsL := argsL) (rest := rest) hlen rfl
    (by show 2 * 0 + _ ≤ _; rw [hW]; omega) hd (fun _ _ => ⟨rfl, eT, hc, hs⟩)
  dsimp only [Pt.U, Pt.locs, Pt.cells, Pt.slots] at X' l1 y1 z1 st hQ
  subst l1 y1 z1
  exact OGo.step (fun _ kk => st.trans kk) (k v T' L X' hQ)
theorem own_virtual (X : Stand p l e R s m args below meth c T locs cells slots) (hx : p.tables.exec = Jvm.exec) (hZ : Z.Warmed39 s.vm) {own C : String} {index : Nat} {y z : MethodName} {bytes : ByteArray} {maxL : Nat} {ret : Option FieldType}
    (hown : s.vm.findClass own = some m.cls) (w1 : (Jvm.Cond.methodLink own index y).before a0 Z = true) (w2 : (Jvm.Cond.declares y).before a0 Z = true) (hnf : NotFace s y) (w5 : (Jvm.Cond.selects C y z).before a0 Z = true) (w6 : (Jvm.Cond.instanceMethod z).before a0 Z = true)
    (hy : y.cls ≠ "java/lang/invoke/MethodHandle" ∧ y.cls ≠ "java/lang/invoke/VarHandle") (w4 : (Jvm.Cond.code z bytes maxL ret).before a0 Z = true) (w3 : (Jvm.Cond.initialized z.cls).before a0 Z = true) {b : Addr} (hb : Exa Z h b C)
    {W : Nat} {rm : Room} {argsL rest : List Value} {Q : Option Value → Heap → List Loc → Prop} (hM : OMet l Z z bytes maxL ret [] rm (.ref b :: argsL).toArray h Q) (eT : T.heap = h)
    {pc : Nat} {Ls : Array Slot} (hsize : Ls.size = c.maxLocals) (hlen : ∀ sig, parseMethodDescriptor y.desc = some sig → argsL.length = sig.parameters.length) (hW : (rest.map fun v => v.category).sum = W)
    (hd : decode c.code pc = .ok (.invokevirtual index, 3)) (hf : rm.frames + 1 ≤ R.frames) (hl : W + (maxL + 11) + rm.locals ≤ R.locals) (hc : cells + rm.cells ≤ R.cells) (hs : slots + rm.slots ≤ R.slots) {P : State → Outcome → Prop}
    (k : ∀ (v : Option Value) (T' : State) (L : List Loc), Stand p l e R s m args below meth c T' (locs ++ L) (cells + rm.cells) (slots + rm.slots) → Q v T'.heap L → OGo p e below (T'.setTop (mkF m (pc + 3) Ls (v.toList ++ rest))) P) :
    OGo p e below (T.setTop (mkF m pc Ls (argsL.reverse ++ .ref b :: rest))) P := 
  own_virtualK X hx hZ hown w1 w2 hnf w5 w6 hy hb (backOf (W := W) hM hZ w4 w3 hf hl) eT hsize hlen hW hd hc hs k
/-- an instance method that an ancestor declares, by its contract -/
theorem own_virtualUpK (X : Stand p l e R s m args below meth c T locs cells slots) (hx : p.tables.exec = Jvm.exec) (hZ : Z.Warmed39 s.vm) {own C owner : String} {index : Nat} {y z : MethodName}
    (hown : s.vm.findClass own = some m.cls) (w1 : (Jvm.Cond.methodLink own index y).before a0 Z = true) (w7 : (Jvm.Cond.sameMethod y.cls owner y.name y.desc).before a0 Z = true) (w2 : (Jvm.Cond.declares ⟨owner, y.name, y.desc⟩).before a0 Z = true) (w5 : (Jvm.Cond.selects C y z).before a0 Z = true) (w6 : (Jvm.Cond.instanceMethod z).before a0 Z = true)
    (hy : owner ≠ "java/lang/invoke/MethodHandle" ∧ owner ≠ "java/lang/invoke/VarHandle") {b : Addr} (hb : Exa Z h b C)
    {W : Nat} {kc ks : Nat} {argsL rest : List Value} {Q : Option Value → Heap → List Loc → Prop} (hK : OBack l R p e below s args z 3 W (.ref b :: argsL).toArray h kc ks Q) (eT : T.heap = h)
    {pc : Nat} {Ls : Array Slot} (hsize : Ls.size = c.maxLocals) (hlen : ∀ sig, parseMethodDescriptor y.desc = some sig → argsL.length = sig.parameters.length) (hW : (rest.map fun v => v.category).sum = W)
    (hd : decode c.code pc = .ok (.invokevirtual index, 3)) (hc : cells + kc ≤ R.cells) (hs : slots + ks ≤ R.slots) {P : State → Outcome → Prop}
    (k : ∀ (v : Option Value) (T' : State) (L : List Loc), Stand p l e R s m args below meth c T' (locs ++ L) (cells + kc) (slots + ks) → Q v T'.heap L → OGo p e below (T'.setTop (mkF m (pc + 3) Ls (v.toList ++ rest))) P) :
    OGo p e below (T.setTop (mkF m pc Ls (argsL.reverse ++ .ref b :: rest))) P := by
  obtain ⟨cq, kq, qa, qb, qc⟩ := isOf hZ eT hb
  obtain ⟨v, vm, ⟨T', L', k', n'⟩, -, X', ⟨L, hQ, l1, y1, z1⟩, st⟩ := X.virtualBackUp hx (x := y) (y := z) hown (mvT hZ w1) (mvT hZ w7) (mvT hZ w2) hy (mvT hZ w5) (mvT hZ w6) hK qa qc (g := mkF m pc Ls (argsL.reverse ++ .ref b :: rest)) rfl hsize (Steps.refl _) (argsL := argsL) (rest := rest) hlen rfl
    (by show 2 * 0 + _ ≤ _; rw [hW]; omega) hd (fun _ _ => ⟨rfl, eT, hc, hs⟩)
  dsimp only [Pt.U, Pt.locs, Pt.cells, Pt.slots] at X' l1 y1 z1 st hQ
  subst l1 y1 z1
  exact OGo.step (fun _ kk => st.trans kk) (k v T' L X' hQ)
theorem own_virtualUp (X : Stand p l e R s m args below meth c T locs cells slots) (hx : p.tables.exec = Jvm.exec) (hZ : Z.Warmed39 s.vm) {own C owner : String} {index : Nat} {y z : MethodName} {bytes : ByteArray} {maxL : Nat} {ret : Option FieldType}
    (hown : s.vm.findClass own = some m.cls) (w1 : (Jvm.Cond.methodLink own index y).before a0 Z = true) (w7 : (Jvm.Cond.sameMethod y.cls owner y.name y.desc).before a0 Z = true) (w2 : (Jvm.Cond.declares ⟨owner, y.name, y.desc⟩).before a0 Z = true) (w5 : (Jvm.Cond.selects C y z).before a0 Z = true) (w6 : (Jvm.Cond.instanceMethod z).before a0 Z = true)
    (hy : owner ≠ "java/lang/invoke/MethodHandle" ∧ owner ≠ "java/lang/invoke/VarHandle") (w4 : (Jvm.Cond.code z bytes maxL ret).before a0 Z = true) (w3 : (Jvm.Cond.initialized z.cls).before a0 Z = true) {b : Addr} (hb : Exa Z h b C)
    {W : Nat} {rm : Room} {argsL rest : List Value} {Q : Option Value → Heap → List Loc → Prop} (hM : OMet l Z z bytes maxL ret [] rm (.ref b :: argsL).toArray h Q) (eT : T.heap = h)
    {pc : Nat} {Ls : Array Slot} (hsize : Ls.size = c.maxLocals) (hlen : ∀ sig, parseMethodDescriptor y.desc = some sig → argsL.length = sig.parameters.length) (hW : (rest.map fun v => v.category).sum = W)
    (hd : decode c.code pc = .ok (.invokevirtual index, 3)) (hf : rm.frames + 1 ≤ R.frames) (hl : W + (maxL + 11) + rm.locals ≤ R.locals) (hc : cells + rm.cells ≤ R.cells) (hs : slots + rm.slots ≤ R.slots) {P : State → Outcome → Prop}
    (k : ∀ (v : Option Value) (T' : State) (L : List Loc), Stand p l e R s m args below meth c T' (locs ++ L) (cells + rm.cells) (slots + rm.slots) → Q v T'.heap L → OGo p e below (T'.setTop (mkF m (pc + 3) Ls (v.toList ++ rest))) P) :
    OGo p e below (T.setTop (mkF m pc Ls (argsL.reverse ++ .ref b :: rest))) P := 
  own_virtualUpK X hx hZ hown w1 w7 w2 w5 w6 hy hb (backOf (W := W) hM hZ w4 w3 hf hl) eT hsize hlen hW hd hc hs k
theorem own_cat {v : Value} (q : v.isRef = true) : v.category = 1 := by cases v <;> first | rfl | (simp [Value.isRef] at q)
theorem own_narR {v : Value} {t : FieldType} (q : v.isRef = true) (ht : t.isReference = true := by rfl) : narrow t v = v := by cases v <;> first | (simp [Value.isRef] at q; done) | (cases t <;> first | rfl | (cases ht))
theorem own_fitR {v : Value} {t : FieldType} (q : v.isRef = true) (ht : t.isReference = true := by rfl) : fits t v = true := by cases v <;> first | (simp [Value.isRef] at q; done) | (cases t <;> first | rfl | (cases ht))
theorem own_store1 {l l' : Array Slot} {i : Nat} {v : Value} {o : Slot} (hold : l[i]? = some o) (ho : o = .unset ∨ ∃ w, o = .val w ∧ w.category = 1) (hv : v.category = 1) (hl' : l.setIfInBounds i (.val v) = l' := by rfl) : storeLocals l i v = some l' := by
  rw [XS.store1 hold ho hv, hl']
end Own
theorem own_eqv {args : Array Value} {s : State} {a b : Term} {y : Value} (h : (Jvm.Cond.eq a b).value args s none s [] = some true) (hb : b.eval args s none [] s = some y) : a.eval args s none [] s = some y := by
  cases ha : a.eval args s none [] s with
  | none => simp [Cond.value, ha] at h
  | some x => cases x <;> cases y <;> simp_all [Cond.value]
theorem own_len {args : Array Value} {s : State} {t : Term} {a : Addr} {cl : Cell} {ty : FieldType} {n : Int32} (ev : t.eval args s none [] s = some (.ref a)) (A : Arr s s.heap a cl ty) (h : (Term.length t).eval args s none [] s = some (.int n)) : cl.slots.size < 2 ^ 31 ∧ cl.slots.size.toInt32 = n := by
  have ha : s.arrayAt? a = some cl := Arr.fin (State.WarmedH.refl s).alike A
  by_cases q : cl.slots.size < 2 ^ 31
  · rw [len_f ev ha q] at h
    exact ⟨q, Value.int.inj (Option.some.inj h)⟩
  · simp [Term.eval, ev, ha] at h
    omega
theorem own_elem {args : Array Value} {s : State} {t : Term} {a : Addr} {cl : Cell} {ty : FieldType} {j : Int32} {v : Value} (ev : t.eval args s none [] s = some (.ref a)) (A : Arr s s.heap a cl ty) (h : (Term.elem t (Term.int j)).eval args s none [] s = some v) (hn : ¬ j < 0 := by decide) : cl.slots[j.toNatClampNeg]? = some v := by
  have ha : s.arrayAt? a = some cl := Arr.fin (State.WarmedH.refl s).alike A
  rw [← elem_f ev (Term.int_eval j) ha hn]; exact h
theorem own_pd0 : parseMethodDescriptor "()V" = some ⟨[], none⟩ := by decide +kernel
theorem own_pd1 : parseMethodDescriptor "(DD)D" = some ⟨[.double, .double], some .double⟩ := by decide +kernel
theorem own_pd2 : parseMethodDescriptor "(JJ)J" = some ⟨[.long, .long], some .long⟩ := by decide +kernel
theorem own_pd3 : parseMethodDescriptor "(JJZ)V" = some ⟨[.long, .long, .boolean], none⟩ := by decide +kernel
theorem own_pd4 : parseMethodDescriptor "(JJJZ)J" = some ⟨[.long, .long, .long, .boolean], some .long⟩ := by decide +kernel
theorem own_pd5 : parseMethodDescriptor "(JJ)D" = some ⟨[.long, .long], some .double⟩ := by decide +kernel
theorem own_pn0 : plainName "java/lang/Record" = true := by first | (simp [plainName, overriddenIn]; done) | decide +kernel
theorem own_pn1 : plainName "com/example/slotwise/slotwise/search/Budget" = true := by first | (simp [plainName, overriddenIn]; done) | decide +kernel
theorem own_pn2 : plainName "com/example/slotwise/slotwise/search/BudgetUsedPinLaw" = true := by first | (simp [plainName, overriddenIn]; done) | decide +kernel
theorem own_d_jdk_30_method_1_code_0 : decode jdk_30_method_1_code 0 = .ok (.aload_n 0, 1) := by decide +kernel
theorem own_d_jdk_30_method_1_code_1 : decode jdk_30_method_1_code 1 = .ok (.invokespecial 1, 3) := by decide +kernel
theorem own_d_jdk_30_method_1_code_4 : decode jdk_30_method_1_code 4 = .ok (.return_, 1) := by decide +kernel
theorem own_d_prog_44_method_1_code_0 : decode prog_44_method_1_code 0 = .ok (.aload_n 0, 1) := by decide +kernel
theorem own_d_prog_44_method_1_code_1 : decode prog_44_method_1_code 1 = .ok (.invokespecial 3, 3) := by decide +kernel
theorem own_d_prog_44_method_1_code_4 : decode prog_44_method_1_code 4 = .ok (.lload_n 1, 1) := by decide +kernel
theorem own_d_prog_44_method_1_code_5 : decode prog_44_method_1_code 5 = .ok (.lconst 1, 1) := by decide +kernel
theorem own_d_prog_44_method_1_code_6 : decode prog_44_method_1_code 6 = .ok (.lcmp, 1) := by decide +kernel
theorem own_d_prog_44_method_1_code_7 : decode prog_44_method_1_code 7 = .ok (.ifCond .lt 9, 3) := by decide +kernel
theorem own_d_prog_44_method_1_code_10 : decode prog_44_method_1_code 10 = .ok (.lload_n 3, 1) := by decide +kernel
theorem own_d_prog_44_method_1_code_11 : decode prog_44_method_1_code 11 = .ok (.lconst 1, 1) := by decide +kernel
theorem own_d_prog_44_method_1_code_12 : decode prog_44_method_1_code 12 = .ok (.lcmp, 1) := by decide +kernel
theorem own_d_prog_44_method_1_code_13 : decode prog_44_method_1_code 13 = .ok (.ifCond .ge 18, 3) := by decide +kernel
theorem own_d_prog_44_method_1_code_31 : decode prog_44_method_1_code 31 = .ok (.lload_n 1, 1) := by decide +kernel
theorem own_d_prog_44_method_1_code_32 : decode prog_44_method_1_code 32 = .ok (.ldc2_w 20, 3) := by decide +kernel
theorem own_d_prog_44_method_1_code_35 : decode prog_44_method_1_code 35 = .ok (.lcmp, 1) := by decide +kernel
theorem own_d_prog_44_method_1_code_36 : decode prog_44_method_1_code 36 = .ok (.ifCond .ne 21, 3) := by decide +kernel
theorem own_d_prog_44_method_1_code_39 : decode prog_44_method_1_code 39 = .ok (.lload_n 3, 1) := by decide +kernel
theorem own_d_prog_44_method_1_code_40 : decode prog_44_method_1_code 40 = .ok (.ldc2_w 20, 3) := by decide +kernel
theorem own_d_prog_44_method_1_code_43 : decode prog_44_method_1_code 43 = .ok (.lcmp, 1) := by decide +kernel
theorem own_d_prog_44_method_1_code_44 : decode prog_44_method_1_code 44 = .ok (.ifCond .ne 13, 3) := by decide +kernel
theorem own_d_prog_44_method_1_code_57 : decode prog_44_method_1_code 57 = .ok (.aload_n 0, 1) := by decide +kernel
theorem own_d_prog_44_method_1_code_58 : decode prog_44_method_1_code 58 = .ok (.lload_n 1, 1) := by decide +kernel
theorem own_d_prog_44_method_1_code_59 : decode prog_44_method_1_code 59 = .ok (.putfield 24, 3) := by decide +kernel
theorem own_d_prog_44_method_1_code_62 : decode prog_44_method_1_code 62 = .ok (.aload_n 0, 1) := by decide +kernel
theorem own_d_prog_44_method_1_code_63 : decode prog_44_method_1_code 63 = .ok (.lload_n 3, 1) := by decide +kernel
theorem own_d_prog_44_method_1_code_64 : decode prog_44_method_1_code 64 = .ok (.putfield 28, 3) := by decide +kernel
theorem own_d_prog_44_method_1_code_67 : decode prog_44_method_1_code 67 = .ok (.aload_n 0, 1) := by decide +kernel
theorem own_d_prog_44_method_1_code_68 : decode prog_44_method_1_code 68 = .ok (.iload 5, 2) := by decide +kernel
theorem own_d_prog_44_method_1_code_70 : decode prog_44_method_1_code 70 = .ok (.putfield 31, 3) := by decide +kernel
theorem own_d_prog_44_method_1_code_73 : decode prog_44_method_1_code 73 = .ok (.return_, 1) := by decide +kernel
theorem own_d_jdk_29_method_66_code_0 : decode jdk_29_method_66_code 0 = .ok (.lload_n 0, 1) := by decide +kernel
theorem own_d_jdk_29_method_66_code_1 : decode jdk_29_method_66_code 1 = .ok (.lload_n 2, 1) := by decide +kernel
theorem own_d_jdk_29_method_66_code_2 : decode jdk_29_method_66_code 2 = .ok (.lcmp, 1) := by decide +kernel
theorem own_d_jdk_29_method_66_code_3 : decode jdk_29_method_66_code 3 = .ok (.ifCond .lt 7, 3) := by decide +kernel
theorem own_d_jdk_29_method_66_code_10 : decode jdk_29_method_66_code 10 = .ok (.lload_n 2, 1) := by decide +kernel
theorem own_d_jdk_29_method_66_code_11 : decode jdk_29_method_66_code 11 = .ok (.lreturn, 1) := by decide +kernel
theorem own_d_jdk_29_method_66_code_6 : decode jdk_29_method_66_code 6 = .ok (.lload_n 0, 1) := by decide +kernel
theorem own_d_jdk_29_method_66_code_7 : decode jdk_29_method_66_code 7 = .ok (.goto 4, 3) := by decide +kernel
theorem own_d_method_3_code_0 : decode method_3_code 0 = .ok (.ldc2_w 9, 3) := by decide +kernel
theorem own_d_method_3_code_3 : decode method_3_code 3 = .ok (.lstore 7, 2) := by decide +kernel
theorem own_d_method_3_code_5 : decode method_3_code 5 = .ok (.iload 6, 2) := by decide +kernel
theorem own_d_method_3_code_7 : decode method_3_code 7 = .ok (.ifCond .ne 5, 3) := by decide +kernel
theorem own_d_method_3_code_10 : decode method_3_code 10 = .ok (.lload_n 2, 1) := by decide +kernel
theorem own_d_method_3_code_11 : decode method_3_code 11 = .ok (.lreturn, 1) := by decide +kernel
theorem own_d_method_3_code_12 : decode method_3_code 12 = .ok (.lload 4, 2) := by decide +kernel
theorem own_d_method_3_code_14 : decode method_3_code 14 = .ok (.ldc2_w 11, 3) := by decide +kernel
theorem own_d_method_3_code_17 : decode method_3_code 17 = .ok (.land, 1) := by decide +kernel
theorem own_d_method_3_code_18 : decode method_3_code 18 = .ok (.lstore 9, 2) := by decide +kernel
theorem own_d_method_3_code_20 : decode method_3_code 20 = .ok (.lload_n 0, 1) := by decide +kernel
theorem own_d_method_3_code_21 : decode method_3_code 21 = .ok (.lload 7, 2) := by decide +kernel
theorem own_d_method_3_code_23 : decode method_3_code 23 = .ok (.lcmp, 1) := by decide +kernel
theorem own_d_method_3_code_45 : decode method_3_code 45 = .ok (.lload 11, 2) := by decide +kernel
theorem own_d_method_3_code_47 : decode method_3_code 47 = .ok (.lconst 0, 1) := by decide +kernel
theorem own_d_method_3_code_48 : decode method_3_code 48 = .ok (.lcmp, 1) := by decide +kernel
theorem own_d_method_3_code_49 : decode method_3_code 49 = .ok (.ifCond .ge 6, 3) := by decide +kernel
theorem own_d_method_3_code_52 : decode method_3_code 52 = .ok (.lconst 0, 1) := by decide +kernel
theorem own_d_method_3_code_53 : decode method_3_code 53 = .ok (.lstore 11, 2) := by decide +kernel
theorem own_d_method_3_code_55 : decode method_3_code 55 = .ok (.lload 11, 2) := by decide +kernel
theorem own_d_method_3_code_57 : decode method_3_code 57 = .ok (.lreturn, 1) := by decide +kernel
theorem own_d_method_3_code_24 : decode method_3_code 24 = .ok (.ifCond .ne 11, 3) := by decide +kernel
theorem own_d_method_3_code_27 : decode method_3_code 27 = .ok (.lload 7, 2) := by decide +kernel
theorem own_d_method_3_code_29 : decode method_3_code 29 = .ok (.lload 9, 2) := by decide +kernel
theorem own_d_method_3_code_31 : decode method_3_code 31 = .ok (.lsub, 1) := by decide +kernel
theorem own_d_method_3_code_32 : decode method_3_code 32 = .ok (.goto 11, 3) := by decide +kernel
theorem own_d_method_3_code_43 : decode method_3_code 43 = .ok (.lstore 11, 2) := by decide +kernel
theorem own_d_method_3_code_35 : decode method_3_code 35 = .ok (.lload_n 0, 1) := by decide +kernel
theorem own_d_method_3_code_36 : decode method_3_code 36 = .ok (.ldc2_w 13, 3) := by decide +kernel
theorem own_d_method_3_code_39 : decode method_3_code 39 = .ok (.lsub, 1) := by decide +kernel
theorem own_d_method_3_code_40 : decode method_3_code 40 = .ok (.lload 9, 2) := by decide +kernel
theorem own_d_method_3_code_42 : decode method_3_code 42 = .ok (.ladd, 1) := by decide +kernel
theorem own_d_method_2_code_0 : decode method_2_code 0 = .ok (.dload_n 0, 1) := by decide +kernel
theorem own_d_method_2_code_1 : decode method_2_code 1 = .ok (.dload_n 2, 1) := by decide +kernel
theorem own_d_method_2_code_2 : decode method_2_code 2 = .ok (.dcmp .g, 1) := by decide +kernel
theorem own_d_method_2_code_3 : decode method_2_code 3 = .ok (.ifCond .ge 7, 3) := by decide +kernel
theorem own_d_method_2_code_6 : decode method_2_code 6 = .ok (.dload_n 2, 1) := by decide +kernel
theorem own_d_method_2_code_7 : decode method_2_code 7 = .ok (.goto 4, 3) := by decide +kernel
theorem own_d_method_2_code_11 : decode method_2_code 11 = .ok (.dreturn, 1) := by decide +kernel
theorem own_d_method_2_code_10 : decode method_2_code 10 = .ok (.dload_n 0, 1) := by decide +kernel
theorem own_d_prog_44_method_4_code_0 : decode prog_44_method_4_code 0 = .ok (.aload_n 0, 1) := by decide +kernel
theorem own_d_prog_44_method_4_code_1 : decode prog_44_method_4_code 1 = .ok (.getfield 24, 3) := by decide +kernel
theorem own_d_prog_44_method_4_code_4 : decode prog_44_method_4_code 4 = .ok (.ldc2_w 20, 3) := by decide +kernel
theorem own_d_prog_44_method_4_code_7 : decode prog_44_method_4_code 7 = .ok (.lcmp, 1) := by decide +kernel
theorem own_d_prog_44_method_4_code_23 : decode prog_44_method_4_code 23 = .ok (.dstore 5, 2) := by decide +kernel
theorem own_d_prog_44_method_4_code_25 : decode prog_44_method_4_code 25 = .ok (.aload_n 0, 1) := by decide +kernel
theorem own_d_prog_44_method_4_code_26 : decode prog_44_method_4_code 26 = .ok (.getfield 28, 3) := by decide +kernel
theorem own_d_prog_44_method_4_code_29 : decode prog_44_method_4_code 29 = .ok (.ldc2_w 20, 3) := by decide +kernel
theorem own_d_prog_44_method_4_code_32 : decode prog_44_method_4_code 32 = .ok (.lcmp, 1) := by decide +kernel
theorem own_d_prog_44_method_4_code_33 : decode prog_44_method_4_code 33 = .ok (.ifCond .ne 7, 3) := by decide +kernel
theorem own_d_prog_44_method_4_code_36 : decode prog_44_method_4_code 36 = .ok (.dconst 0, 1) := by decide +kernel
theorem own_d_prog_44_method_4_code_37 : decode prog_44_method_4_code 37 = .ok (.goto 11, 3) := by decide +kernel
theorem own_d_prog_44_method_4_code_48 : decode prog_44_method_4_code 48 = .ok (.dstore 7, 2) := by decide +kernel
theorem own_d_prog_44_method_4_code_50 : decode prog_44_method_4_code 50 = .ok (.dconst 1, 1) := by decide +kernel
theorem own_d_prog_44_method_4_code_51 : decode prog_44_method_4_code 51 = .ok (.dload 5, 2) := by decide +kernel
theorem own_d_prog_44_method_4_code_53 : decode prog_44_method_4_code 53 = .ok (.dload 7, 2) := by decide +kernel
theorem own_d_prog_44_method_4_code_55 : decode prog_44_method_4_code 55 = .ok (.invokestatic 38, 3) := by decide +kernel
theorem own_d_prog_44_method_4_code_58 : decode prog_44_method_4_code 58 = .ok (.invokestatic 44, 3) := by decide +kernel
theorem own_d_prog_44_method_4_code_61 : decode prog_44_method_4_code 61 = .ok (.dreturn, 1) := by decide +kernel
theorem own_d_prog_44_method_4_code_40 : decode prog_44_method_4_code 40 = .ok (.lload_n 3, 1) := by decide +kernel
theorem own_d_prog_44_method_4_code_41 : decode prog_44_method_4_code 41 = .ok (.l2d, 1) := by decide +kernel
theorem own_d_prog_44_method_4_code_42 : decode prog_44_method_4_code 42 = .ok (.aload_n 0, 1) := by decide +kernel
theorem own_d_prog_44_method_4_code_43 : decode prog_44_method_4_code 43 = .ok (.getfield 28, 3) := by decide +kernel
theorem own_d_prog_44_method_4_code_46 : decode prog_44_method_4_code 46 = .ok (.l2d, 1) := by decide +kernel
theorem own_d_prog_44_method_4_code_47 : decode prog_44_method_4_code 47 = .ok (.ddiv, 1) := by decide +kernel
theorem own_d_prog_44_method_4_code_8 : decode prog_44_method_4_code 8 = .ok (.ifCond .ne 7, 3) := by decide +kernel
theorem own_d_prog_44_method_4_code_11 : decode prog_44_method_4_code 11 = .ok (.dconst 0, 1) := by decide +kernel
theorem own_d_prog_44_method_4_code_12 : decode prog_44_method_4_code 12 = .ok (.goto 11, 3) := by decide +kernel
theorem own_d_prog_44_method_4_code_15 : decode prog_44_method_4_code 15 = .ok (.lload_n 1, 1) := by decide +kernel
theorem own_d_prog_44_method_4_code_16 : decode prog_44_method_4_code 16 = .ok (.l2d, 1) := by decide +kernel
theorem own_d_prog_44_method_4_code_17 : decode prog_44_method_4_code 17 = .ok (.aload_n 0, 1) := by decide +kernel
theorem own_d_prog_44_method_4_code_18 : decode prog_44_method_4_code 18 = .ok (.getfield 24, 3) := by decide +kernel
theorem own_d_prog_44_method_4_code_21 : decode prog_44_method_4_code 21 = .ok (.l2d, 1) := by decide +kernel
theorem own_d_prog_44_method_4_code_22 : decode prog_44_method_4_code 22 = .ok (.ddiv, 1) := by decide +kernel

section OwnD
open Jvm.FP.Core
open Native.java_lang_Math.nans (pick64)
def own_sh (k : Nat) : Datum → Datum
  | .fin s c q => .fin s c (q + k)
  | d => d
/-- the datum's value is i / 2^k -/
def own_D (k : Nat) (i : Int) (d : Datum) : Prop := Whole i (own_sh k d)
theorem own_D_fin {k : Nat} {i : Int} {d : Datum} (h : own_D k i d) : ∃ s c q, d = .fin s c q ∧ Whole i (.fin s c (q + k)) := by
  cases d with
  | nan => exact h.elim
  | inf => exact h.elim
  | fin s c q => exact ⟨s, c, q, rfl, h⟩
theorem own_D_sum {k : Nat} {i j : Int} {x y : Datum} (hx : own_D k i x) (hy : own_D k j y) : own_D k (i + j) (exactSum x y) := by
  obtain ⟨s, c, q, rfl, h1⟩ := own_D_fin hx
  obtain ⟨t, d, r, rfl, h2⟩ := own_D_fin hy
  have h := whole_sum h1 h2
  have e : exactSum (.fin s c (q + k)) (.fin t d (r + k)) = own_sh k (exactSum (.fin s c q) (.fin t d r)) := by
    have hm : min (q + (k : Int)) (r + k) = min q r + k := by omega
    have hu : sumUnits s c (q + k) t d (r + k) (min (q + (k : Int)) (r + k)) = sumUnits s c q t d r (min q r) := by
      unfold sumUnits inUnits
      rw [hm, show q + (k : Int) - (min q r + k) = q - min q r by omega, show r + (k : Int) - (min q r + k) = r - min q r by omega]
    show Datum.fin (sumSign s t _) _ _ = Datum.fin (sumSign s t _) _ _
    rw [hu, hm]
  rw [e] at h
  exact h
theorem own_D_neg {k : Nat} {i : Int} {x : Datum} (hx : own_D k i x) : own_D k (-i) (negate x) := by
  obtain ⟨s, c, q, rfl, h1⟩ := own_D_fin hx
  exact whole_negate h1
theorem own_D_mul {k l : Nat} {i j : Int} {x y : Datum} (hx : own_D k i x) (hy : own_D l j y) : own_D (k + l) (i * j) (exactProduct x y) := by
  obtain ⟨s, c, q, rfl, h1⟩ := own_D_fin hx
  obtain ⟨t, d, r, rfl, h2⟩ := own_D_fin hy
  have h := whole_product h1 h2
  have e : exactProduct (.fin s c (q + k)) (.fin t d (r + l)) = own_sh (k + l) (exactProduct (.fin s c q) (.fin t d r)) := by
    show Datum.fin _ _ _ = Datum.fin _ _ _
    congr 1
    push_cast
    omega
  rw [e] at h
  exact h
theorem own_fitK (s : Bool) {n k : Nat} (hn : n ≤ 2 ^ 53) (hk : k ≤ 900) : ∃ c q, Jvm.FP.Core.fits b64 (.fin s c q) ∧ n * 2 ^ (-(k : Int) - q).toNat = c * 1 * 2 ^ (q - -(k : Int)).toNat := by
  have e1 : b64.p = 53 := by decide +kernel
  have e2 : b64.qmin = -1074 := by decide +kernel
  have e3 : b64.qmax = 971 := by decide +kernel
  have e4 : b64.tails = 2 ^ 52 := by decide +kernel
  by_cases h0 : n = 0
  · subst h0
    exact ⟨0, b64.qmin, zero_fits good_b64 s, by simp⟩
  by_cases hp : n = 2 ^ 53
  · refine ⟨2 ^ 52, 1 - (k : Int), ⟨by rw [e1]; decide, by omega, by omega, .inr (by rw [e4]; exact Nat.le_refl _)⟩, ?_⟩
    rw [hp, show (-(k : Int) - (1 - (k : Int))).toNat = 0 by omega, show (1 - (k : Int) - -(k : Int)).toNat = 1 by omega]
  · have l1 : 2 ^ n.log2 ≤ n := Nat.log2_self_le h0
    have l2 : n < 2 ^ (n.log2 + 1) := Nat.lt_log2_self
    have l3 : n.log2 < 53 := (Nat.pow_lt_pow_iff_right (by decide : 1 < 2)).mp (Nat.lt_of_le_of_lt l1 (by omega))
    generalize n.log2 = L at l1 l2 l3
    refine ⟨n * 2 ^ (52 - L), (L : Int) - 52 - k, ⟨?_, by omega, by omega, .inr ?_⟩, ?_⟩
    · rw [e1]
      calc n * 2 ^ (52 - L) < 2 ^ (L + 1) * 2 ^ (52 - L) := Nat.mul_lt_mul_of_pos_right l2 (Nat.two_pow_pos _)
        _ = 2 ^ 53 := by rw [← Nat.pow_add]; congr 1; omega
    · rw [e4]
      calc 2 ^ 52 = 2 ^ L * 2 ^ (52 - L) := by rw [← Nat.pow_add]; congr 1; omega
        _ ≤ n * 2 ^ (52 - L) := Nat.mul_le_mul_right _ l1
    · rw [show (-(k : Int) - ((L : Int) - 52 - k)).toNat = 52 - L by omega, show ((L : Int) - 52 - k - -(k : Int)).toNat = 0 by omega]
      simp
theorem own_D_ratio {s : Bool} {A B k : Nat} {e i : Int} (hB : 0 < B) (hi : i.natAbs ≤ 2 ^ 53) (hk : k ≤ 900) (hs : i ≠ 0 → s = decide (i < 0)) (h : A * 1 * 2 ^ (e - -(k : Int)).toNat = i.natAbs * B * 2 ^ (-(k : Int) - e).toNat) : own_D k i (roundRatio b64 s A B e) := by
  obtain ⟨c', q', hfit, hv⟩ := own_fitK s hi hk
  rw [roundRatio_congr (e' := -(k : Int)) hB (by decide) h, roundRatio_exact good_b64 (by decide) hfit hv]
  show signed s (c' * 2 ^ (q' + (k : Int)).toNat) = i * ((2 ^ (-(q' + (k : Int))).toNat : Nat) : Int)
  rw [show (-(k : Int) - q').toNat = (-(q' + (k : Int))).toNat by omega, show (q' - -(k : Int)).toNat = (q' + (k : Int)).toNat by omega, Nat.mul_one] at hv
  rw [← hv, signed_mul]
  congr 1
  by_cases hi0 : i = 0
  · rw [hi0]; exact signed_zero s
  · rw [hs hi0]
    unfold signed
    by_cases h : i < 0 <;> simp [h] <;> omega
theorem own_D_round {k : Nat} {i : Int} {x : Datum} (hx : own_D k i x) (hi : i.natAbs ≤ 2 ^ 53) (hk : k ≤ 900) : own_D k i (round b64 x) := by
  obtain ⟨s, c, q, rfl, h⟩ := own_D_fin hx
  refine own_D_ratio (A := c) (B := 1) (e := q) (by decide) hi hk (fun z => whole_sign h z) ?_
  have := whole_natAbs h
  rw [show (q - -(k : Int)).toNat = (q + (k : Int)).toNat by omega, show (-(k : Int) - q).toNat = (-(q + (k : Int))).toNat by omega]
  simpa using this
/-- a double whose value is i / 2^k -/
def own_V (k : Nat) (i : Int) (a : UInt64) : Prop := own_D k i (val64 a)
theorem own_V_add {k : Nat} {i j : Int} {a b : UInt64} (ha : own_V k i a) (hb : own_V k j b) (hi : (i + j).natAbs ≤ 2 ^ 53) (hk : k ≤ 900) : own_V k (i + j) (FP.dadd a b) := by
  show own_D k _ (val64 (dadd a b)); rw [val64_dadd]; exact own_D_round (own_D_sum ha hb) hi hk
theorem own_V_sub {k : Nat} {i j : Int} {a b : UInt64} (ha : own_V k i a) (hb : own_V k j b) (hi : (i - j).natAbs ≤ 2 ^ 53) (hk : k ≤ 900) : own_V k (i - j) (FP.dsub a b) := by
  show own_D k _ (val64 (dsub a b)); rw [val64_dsub, Int.sub_eq_add_neg]; exact own_D_round (own_D_sum ha (own_D_neg hb)) (by rw [← Int.sub_eq_add_neg]; exact hi) hk
theorem own_V_mul {k l : Nat} {i j : Int} {a b : UInt64} (ha : own_V k i a) (hb : own_V l j b) (hi : (i * j).natAbs ≤ 2 ^ 53) (hk : k + l ≤ 900) : own_V (k + l) (i * j) (FP.dmul a b) := by
  show own_D _ _ (val64 (dmul a b)); rw [val64_dmul]; exact own_D_round (own_D_mul ha hb) hi hk
theorem own_V_lift {k l : Nat} {i : Int} {a : UInt64} (ha : own_V k i a) : own_V (k + l) (i * (2 ^ l : Nat)) a := by
  unfold own_V at ha ⊢
  obtain ⟨s, c, q, e, h⟩ := own_D_fin ha
  rw [e]
  show signed s (c * 2 ^ (q + ((k + l : Nat) : Int)).toNat) = i * ((2 ^ l : Nat) : Int) * ((2 ^ (-(q + ((k + l : Nat) : Int))).toNat : Nat) : Int)
  have h' : signed s (c * 2 ^ (q + (k : Int)).toNat) = i * ((2 ^ (-(q + (k : Int))).toNat : Nat) : Int) := h
  rcases Int.le_total 0 (q + k) with z | z
  · rw [show (-(q + (k : Int))).toNat = 0 by omega] at h'
    rw [show (q + ((k + l : Nat) : Int)).toNat = (q + (k : Int)).toNat + l by omega, show (-(q + ((k + l : Nat) : Int))).toNat = 0 by omega, Nat.pow_add, ← Nat.mul_assoc, signed_mul, h']
    simp
  · rw [show (q + (k : Int)).toNat = 0 by omega] at h'
    rcases Int.le_total 0 (q + ((k + l : Nat) : Int)) with y | y
    · rw [show (-(q + ((k + l : Nat) : Int))).toNat = 0 by omega, signed_mul]
      rw [Nat.pow_zero, Nat.mul_one] at h'
      rw [h', Int.mul_assoc, Int.mul_assoc, ← Int.natCast_mul, ← Int.natCast_mul, ← Nat.pow_add, Nat.pow_zero, Nat.mul_one]
      congr 3; omega
    · rw [show (q + ((k + l : Nat) : Int)).toNat = 0 by omega, h', Int.mul_assoc, ← Int.natCast_mul, ← Nat.pow_add]
      congr 3; omega
theorem own_V_nn {k : Nat} {i : Int} {a : UInt64} (h : own_V k i a) : val64 a ≠ .nan := by
  obtain ⟨s, c, q, e, -⟩ := own_D_fin h
  rw [e]; exact Datum.noConfusion
theorem own_V_zval {k : Nat} {i : Int} {a : UInt64} (h : own_V k i a) (hk : k ≤ 900) : zval b64 (val64 a) = i * ((2 ^ (1074 - k) : Nat) : Int) := by
  have e2 : b64.qmin = -1074 := by decide +kernel
  have hf := val64_fits a
  obtain ⟨s, c, q, e, h'⟩ := own_D_fin h
  rw [e] at hf ⊢
  obtain ⟨-, hq, -, -⟩ := hf
  rw [e2] at hq
  have h1 : signed s (c * 2 ^ (q + (k : Int)).toNat) = i * ((2 ^ (-(q + (k : Int))).toNat : Nat) : Int) := h'
  show signed s (c * 2 ^ (q - b64.qmin).toNat) = _
  rw [e2]
  rcases Int.le_total 0 (q + k) with z | z
  · rw [show (-(q + (k : Int))).toNat = 0 by omega] at h1
    rw [show (q - -1074).toNat = (q + (k : Int)).toNat + (1074 - k) by omega, Nat.pow_add, ← Nat.mul_assoc, signed_mul, h1]
    simp
  · rw [show (q + (k : Int)).toNat = 0 by omega, Nat.pow_zero, Nat.mul_one] at h1
    rw [signed_mul, h1, Int.mul_assoc, ← Int.natCast_mul, ← Nat.pow_add]
    congr 3; omega
theorem own_V_cmp {k : Nat} {i : Int} {a b : UInt64} (ha : own_V k i a) (hb : own_V k i b) (hk : k ≤ 900) : FP.dcmp a b = some .eq := by
  show dcmp a b = _
  rw [dcmp_zval (own_V_nn ha) (own_V_nn hb), own_V_zval ha hk, own_V_zval hb hk]
  simp
/-- division by 2^k -/
theorem own_V_div {k : Nat} {i : Int} {a b : UInt64} (ha : own_V 0 i a) (hb : val64 b = .fin false (2 ^ 52) ((k : Int) - 52)) (hi : i.natAbs ≤ 2 ^ 53) (hk : k ≤ 900) : own_V k i (FP.ddiv a b) := by
  show own_D k _ (val64 (ddiv a b))
  rw [val64_ddiv, hb]
  obtain ⟨s, c, q, e, h⟩ := own_D_fin ha
  rw [e]
  have h1 := whole_natAbs h
  have hz : quotient b64 (.fin s c q) (.fin false (2 ^ 52) ((k : Int) - 52)) = roundRatio b64 (s != false) c (2 ^ 52) (q - ((k : Int) - 52)) := by
    show (if (2 : Nat) ^ 52 = 0 then (if c = 0 then Datum.nan else Datum.inf (s != false)) else roundRatio b64 (s != false) c (2 ^ 52) (q - ((k : Int) - 52))) = _
    rw [if_neg (by decide)]
  rw [hz]
  refine own_D_ratio (Nat.two_pow_pos _) hi hk (fun z => by rw [Bool.bne_false]; exact whole_sign h z) ?_
  rw [show (q - ((k : Int) - 52) - -(k : Int)).toNat = (q + 52).toNat by omega, show (-(k : Int) - (q - ((k : Int) - 52))).toNat = (-(q + 52)).toNat by omega, Nat.mul_one]
  have h2 : c * 2 ^ q.toNat = i.natAbs * 2 ^ (-q).toNat := by simpa using h1
  rcases Int.le_total 0 q with z | z
  · rw [show (-q).toNat = 0 by omega, Nat.pow_zero, Nat.mul_one] at h2
    rw [show (q + 52).toNat = q.toNat + 52 by omega, show (-(q + 52)).toNat = 0 by omega, Nat.pow_add, ← Nat.mul_assoc, h2]
    simp
  · rw [show q.toNat = 0 by omega, Nat.pow_zero, Nat.mul_one] at h2
    rw [h2, Nat.mul_assoc, Nat.mul_assoc, ← Nat.pow_add, ← Nat.pow_add]
    congr 2; omega
theorem own_V_i2d (x : Int32) : own_V 0 x.toInt (FP.i2d x) := by
  have h : Whole x.toInt (val64 (i2d x)) := i2d_int x
  show Whole _ (own_sh 0 (val64 (i2d x)))
  cases hd : val64 (i2d x) with
  | nan => rw [hd] at h; exact h
  | inf s => rw [hd] at h; exact h
  | fin s c q => rw [hd] at h; show Whole _ (.fin s c (q + ((0 : Nat) : Int))); rw [show q + ((0 : Nat) : Int) = q by omega]; exact h
theorem own_V_not {k : Nat} {i : Int} {a : UInt64} (h : own_V k i a) : Jvm.Free.Fl.NoNaN64 a := Jvm.Free.Fl.noNaN64_no.mpr ((notNaN_iff a).mpr (own_V_nn h))
/-- N / B, in units of 2^-1074, rounded -/
def own_P (N B : Nat) : Datum := roundRatio b64 false N B b64.qmin
theorem own_qmin : b64.qmin = -1074 := by decide +kernel
theorem own_P_fits (N : Nat) {B : Nat} (hB : 0 < B) : Jvm.FP.Core.fits b64 (own_P N B) := roundRatio_fits good_b64 false N hB _
theorem own_P_le {N B : Nat} {V : Datum} (hB : 0 < B) (hV : Jvm.FP.Core.fits b64 V) (hn : V ≠ .nan) (h : N ≤ zmag b64 V * B) : zmag b64 (own_P N B) ≤ zmag b64 V := by
  refine zmag_roundRatio_le good_b64 (e0 := b64.qmin) hB hV hn (Int.le_refl _) (Int.le_refl _) ?_
  show N * 2 ^ (b64.qmin - b64.qmin).toNat ≤ zmag b64 V * 2 ^ (b64.qmin - b64.qmin).toNat * B
  rw [Int.sub_self]; simpa using h
theorem own_P_ge {N B : Nat} {V : Datum} (hB : 0 < B) (hV : Jvm.FP.Core.fits b64 V) (h : zmag b64 V * B ≤ N) : zmag b64 V ≤ zmag b64 (own_P N B) := by
  refine zmag_roundRatio_ge good_b64 (e0 := b64.qmin) hB hV (Int.le_refl _) (Int.le_refl _) ?_
  show zmag b64 V * 2 ^ (b64.qmin - b64.qmin).toNat * B ≤ N * 2 ^ (b64.qmin - b64.qmin).toNat
  rw [Int.sub_self]; simpa using h
theorem own_big : Jvm.FP.Core.fits b64 (.fin false (2 ^ 52) 874) ∧ zmag b64 (.fin false (2 ^ 52) 874) = 2 ^ 2000 := ⟨⟨by decide +kernel, by decide +kernel, by decide +kernel, Or.inr (by decide +kernel)⟩, by decide +kernel⟩
theorem own_P_fin {N B : Nat} (hB : 0 < B) (h : N ≤ 2 ^ 2000 * B) : ∃ c q, own_P N B = .fin false c q := by
  rcases roundRatio_cases b64 false N B b64.qmin with ⟨c, q, e⟩ | e
  · exact ⟨c, q, e⟩
  · exfalso
    have g := own_P_le hB own_big.1 Datum.noConfusion (by rw [own_big.2]; exact h)
    rw [own_big.2, show own_P N B = _ from e] at g
    exact absurd g (by decide +kernel)
theorem own_P_near {N B c c' : Nat} {q q' : Int} (hB : 0 < B) (e : own_P N B = .fin false c q) (hV : Jvm.FP.Core.fits b64 (.fin false c' q')) : distance N B b64.qmin c q b64.qmin ≤ distance N B b64.qmin c' q' b64.qmin :=
  roundRatio_nearest good_b64 hB e hV.1 hV.2.1 (Int.le_refl _) (Int.le_refl _)
theorem own_P_mono {N B N' B' : Nat} (hB : 0 < B) (hB' : 0 < B') (hf : N ≤ 2 ^ 2000 * B) (hf' : N' ≤ 2 ^ 2000 * B') (h : N * B' ≤ N' * B) : zmag b64 (own_P N B) ≤ zmag b64 (own_P N' B') := by
  obtain ⟨c, q, e⟩ := own_P_fin hB hf
  obtain ⟨c', q', e'⟩ := own_P_fin hB' hf'
  have f1 := own_P_fits N hB
  have f2 := own_P_fits N' hB'
  refine Nat.le_of_not_lt fun hlt => ?_
  have a1 : zmag b64 (own_P N' B') * B < N := Nat.lt_of_not_le fun z => absurd (own_P_le hB f2 (by rw [e']; exact Datum.noConfusion) z) (Nat.not_le.mpr hlt)
  have a2 : N' < zmag b64 (own_P N B) * B' := Nat.lt_of_not_le fun z => absurd (own_P_ge hB' f1 z) (Nat.not_le.mpr hlt)
  have d1 := own_P_near hB e (e' ▸ f2)
  have d2 := own_P_near hB' e' (e ▸ f1)
  have hu : ∀ N : Nat, inUnits N b64.qmin b64.qmin = N := fun N => by show N * 2 ^ (b64.qmin - b64.qmin).toNat = N; rw [Int.sub_self]; simp
  have hd : ∀ N B c q, distance N B b64.qmin c q b64.qmin = ((N : Int) - (inUnits c q b64.qmin : Int) * (B : Int)).natAbs := by
    intro N B c q
    show ((inUnits N b64.qmin b64.qmin : Int) - _).natAbs = _
    rw [hu]
  rw [hd, hd] at d1 d2
  have z1 : zmag b64 (own_P N B) = inUnits c q b64.qmin := by rw [e]; rfl
  have z2 : zmag b64 (own_P N' B') = inUnits c' q' b64.qmin := by rw [e']; rfl
  rw [← z1, ← z2, ← Int.natCast_mul, ← Int.natCast_mul] at d1 d2
  have heq : N * B' = N' * B := by
    generalize zmag b64 (own_P N B) = v at a1 a2 d1 d2 hlt
    generalize zmag b64 (own_P N' B') = v' at a1 a2 d1 d2 hlt
    have b1 : N < v * B := by
      refine Nat.lt_of_mul_lt_mul_right (a := B') ?_
      calc N * B' ≤ N' * B := h
        _ < v * B' * B := Nat.mul_lt_mul_of_pos_right a2 hB
        _ = v * B * B' := by ac_rfl
    have b2 : v' * B' < N' := by
      refine Nat.lt_of_mul_lt_mul_right (a := B) ?_
      calc v' * B' * B = v' * B * B' := by ac_rfl
        _ < N * B' := Nat.mul_lt_mul_of_pos_right a1 hB'
        _ ≤ N' * B := h
    have c1 : v * B + v' * B ≤ 2 * N := by omega
    have c2 : 2 * N' ≤ v * B' + v' * B' := by omega
    have c3 : (v * B + v' * B) * B' ≤ 2 * N * B' := Nat.mul_le_mul_right _ c1
    have c4 : 2 * N' * B ≤ (v * B' + v' * B') * B := Nat.mul_le_mul_right _ c2
    have c5 : (v * B + v' * B) * B' = (v * B' + v' * B') * B := by rw [Nat.add_mul, Nat.add_mul]; ac_rfl
    rw [Nat.mul_assoc] at c3 c4
    omega
  have hc : own_P N B = own_P N' B' := roundRatio_congr hB hB' (by rw [Int.sub_self]; simpa using heq)
  rw [hc] at hlt
  exact absurd hlt (Nat.lt_irrefl _)
/-- a nonnegative finite double of u units -/
def own_U (u : Nat) (a : UInt64) : Prop := ∃ c q, val64 a = .fin false c q ∧ -1074 ≤ q ∧ c * 2 ^ (q + 1074).toNat = u
theorem own_U_P {N B : Nat} {a : UInt64} (hB : 0 < B) (h : N ≤ 2 ^ 2000 * B) (e : val64 a = own_P N B) : own_U (zmag b64 (own_P N B)) a := by
  obtain ⟨c, q, e'⟩ := own_P_fin hB h
  have f := own_P_fits N hB
  rw [e'] at f
  have hq : -1074 ≤ q := by have := f.2.1; rw [own_qmin] at this; exact this
  refine ⟨c, q, e.trans e', hq, ?_⟩
  rw [e']
  show _ = c * 2 ^ (q - b64.qmin).toNat
  rw [own_qmin, show q - -1074 = q + 1074 by omega]
theorem own_U_fits {u : Nat} {a : UInt64} (h : own_U u a) : zmag b64 (val64 a) = u ∧ val64 a ≠ .nan ∧ zval b64 (val64 a) = u := by
  obtain ⟨c, q, e, hq, hu⟩ := h
  have : zmag b64 (.fin false c q) = u := by
    show c * 2 ^ (q - b64.qmin).toNat = u
    rw [own_qmin, show q - -1074 = q + 1074 by omega]; exact hu
  rw [e]
  exact ⟨this, Datum.noConfusion, by show signed false (zmag b64 (.fin false c q)) = _; rw [this]; rfl⟩
theorem own_pw (a b c : Nat) (h : b + c = a) : 2 ^ a = 2 ^ b * 2 ^ c := by rw [← Nat.pow_add, h]
theorem own_U_mul {u w : Nat} {a b : UInt64} (ha : own_U u a) (hb : own_U w b) : val64 (FP.dmul a b) = own_P (u * w) (2 ^ 1074) := by
  obtain ⟨c, q, e, hq, hu⟩ := ha
  obtain ⟨d, r, e', hr, hw⟩ := hb
  show val64 (dmul a b) = _
  rw [val64_dmul, e, e']
  show roundRatio b64 (false != false) (c * d) 1 (q + r) = roundRatio b64 false (u * w) (2 ^ 1074) b64.qmin
  refine roundRatio_congr (by decide) (Nat.two_pow_pos _) ?_
  rw [own_qmin, ← hu, ← hw, Nat.mul_one]
  rcases Int.le_total 0 (q + r + 1074) with z | z
  · have k1 : 2 ^ 1074 * 2 ^ (q + r - -1074).toNat = 2 ^ (q + 1074).toNat * 2 ^ (r + 1074).toNat := by rw [← Nat.pow_add, ← Nat.pow_add]; congr 1; omega
    rw [show (-1074 - (q + r)).toNat = 0 by omega, Nat.pow_zero, Nat.mul_one, Nat.mul_assoc (c * d), k1]
    generalize 2 ^ (q + 1074).toNat = X
    generalize 2 ^ (r + 1074).toNat = Y
    ac_rfl
  · have k1 : 2 ^ 1074 = 2 ^ (q + 1074).toNat * 2 ^ (r + 1074).toNat * 2 ^ (-1074 - (q + r)).toNat := by rw [← Nat.pow_add, ← Nat.pow_add]; congr 1; omega
    rw [show (q + r - -1074).toNat = 0 by omega, Nat.pow_zero, Nat.mul_one, k1]
    generalize 2 ^ (q + 1074).toNat = X
    generalize 2 ^ (r + 1074).toNat = Y
    generalize 2 ^ (-1074 - (q + r)).toNat = W
    ac_rfl
theorem own_U_div {u w : Nat} {a b : UInt64} (ha : own_U u a) (hb : own_U w b) (h0 : 0 < w) : val64 (FP.ddiv a b) = own_P (u * 2 ^ 1074) w := by
  obtain ⟨c, q, e, hq, hu⟩ := ha
  obtain ⟨d, r, e', hr, hw⟩ := hb
  have hd : 0 < d := by
    rcases Nat.eq_zero_or_pos d with z | z
    · rw [z, Nat.zero_mul] at hw; omega
    · exact z
  show val64 (ddiv a b) = _
  rw [val64_ddiv, e, e']
  show (if d = 0 then (if c = 0 then Datum.nan else Datum.inf (false != false)) else roundRatio b64 (false != false) c d (q - r)) = roundRatio b64 false (u * 2 ^ 1074) w b64.qmin
  rw [if_neg (by omega)]
  refine roundRatio_congr hd h0 ?_
  rw [own_qmin, ← hu, ← hw]
  rcases Int.le_total 0 (q - r + 1074) with z | z
  · have k1 : 2 ^ (r + 1074).toNat * 2 ^ (q - r - -1074).toNat = 2 ^ (q + 1074).toNat * 2 ^ 1074 := by rw [← Nat.pow_add, ← Nat.pow_add]; congr 1; omega
    rw [show (-1074 - (q - r)).toNat = 0 by omega, Nat.pow_zero, Nat.mul_one, ← Nat.mul_assoc, Nat.mul_assoc (c * d), k1]
    generalize 2 ^ (q + 1074).toNat = X
    generalize 2 ^ 1074 = Y
    ac_rfl
  · have k1 : 2 ^ (r + 1074).toNat = 2 ^ (q + 1074).toNat * 2 ^ 1074 * 2 ^ (-1074 - (q - r)).toNat := by rw [← Nat.pow_add, ← Nat.pow_add]; congr 1; omega
    rw [show (q - r - -1074).toNat = 0 by omega, Nat.pow_zero, Nat.mul_one, k1]
    generalize 2 ^ (q + 1074).toNat = X
    generalize 2 ^ 1074 = Y
    generalize 2 ^ (-1074 - (q - r)).toNat = W
    ac_rfl
theorem own_U_V {k : Nat} {i : Int} {a : UInt64} (h : own_V k i a) (hi : 0 < i) (hk : k ≤ 900) : own_U (i.toNat * 2 ^ (1074 - k)) a := by
  have hz := own_V_zval h hk
  obtain ⟨s, c, q, e, h'⟩ := own_D_fin h
  have hs := whole_sign h' (by omega)
  have hs' : s = false := hs.trans (decide_eq_false (by omega))
  have hf := val64_fits a
  rw [e] at hf
  have hq : -1074 ≤ q := by have := hf.2.1; rw [own_qmin] at this; exact this
  rw [hs'] at e
  refine ⟨c, q, e, hq, ?_⟩
  rw [e] at hz
  have : ((c * 2 ^ (q - b64.qmin).toNat : Nat) : Int) = i * ((2 ^ (1074 - k) : Nat) : Int) := hz
  rw [own_qmin, show q - -1074 = q + 1074 by omega] at this
  have e3 : (i.toNat : Int) = i := by omega
  rw [← e3, ← Int.natCast_mul] at this
  exact Int.ofNat.inj this
theorem own_U_cmp {u w : Nat} {a b : UInt64} (ha : own_U u a) (hb : own_U w b) : (u < w → FP.dcmp a b = some .lt) ∧ (¬ u < w → FP.dcmp a b ≠ some .lt ∧ FP.dcmp a b ≠ none) := by
  have f1 := own_U_fits ha
  have f2 := own_U_fits hb
  have e : FP.dcmp a b = some (compare ((u : Nat) : Int) ((w : Nat) : Int)) := by
    show dcmp a b = _
    rw [dcmp_zval f1.2.1 f2.2.1, f1.2.2, f2.2.2]
  rw [e]
  refine ⟨fun h => ?_, fun h => ⟨fun z => ?_, fun z => by cases z⟩⟩
  · congr 1; exact (compare_lt_iff _ _).mpr (by omega)
  · have := (compare_lt_iff _ _).mp (Option.some.inj z); omega
theorem own_nn {y : UInt64} (h : val64 y ≠ .nan) : Jvm.Free.Fl.NoNaN64 y := Jvm.Free.Fl.noNaN64_no.mpr ((notNaN_iff y).mpr h)
theorem own_V_l2d (x : Int64) (h : x.toInt.natAbs ≤ 2 ^ 53) : own_V 0 x.toInt (FP.l2d x) := by
  have h1 : Whole x.toInt (val64 (l2d x)) := by rw [val64_l2d]; exact whole_round good_b64 wide_b64 h (whole_ofInt _)
  show Whole _ (own_sh 0 (val64 (l2d x)))
  cases hd : val64 (l2d x) with
  | nan => rw [hd] at h1; exact h1
  | inf s => rw [hd] at h1; exact h1
  | fin s c q => rw [hd] at h1; show Whole _ (.fin s c (q + ((0 : Nat) : Int))); rw [show q + ((0 : Nat) : Int) = q by omega]; exact h1
theorem own_U1 : own_U (2 ^ 1074) FP.dconst1 := ⟨2 ^ 52, -52, by decide +kernel, by decide, by rw [show (-52 + 1074 : Int).toNat = 1022 by decide, ← Nat.pow_add]⟩
theorem own_U0 : own_U 0 FP.dconst0 := ⟨0, -1074, by decide +kernel, by decide, by simp⟩
theorem own_Uhf : own_U (2 ^ 1073) 4602678819172646912 := ⟨2 ^ 52, -53, by decide +kernel, by decide, by rw [show (-53 + 1074 : Int).toNat = 1021 by decide, ← Nat.pow_add]⟩
theorem own_U_d {u w : Nat} {a b : UInt64} (ha : own_U u a) (hb : own_U w b) : FP.dcmp a b = some (compare ((u : Nat) : Int) ((w : Nat) : Int)) := by
  have f1 := own_U_fits ha
  have f2 := own_U_fits hb
  show dcmp a b = _
  rw [dcmp_zval f1.2.1 f2.2.1, f1.2.2, f2.2.2]
theorem own_cl (u w : Nat) : (u < w → compare ((u : Nat) : Int) ((w : Nat) : Int) = .lt) ∧ (u = w → compare ((u : Nat) : Int) ((w : Nat) : Int) = .eq) ∧ (w < u → compare ((u : Nat) : Int) ((w : Nat) : Int) = .gt) := by
  refine ⟨fun h => ?_, fun h => ?_, fun h => ?_⟩
  · show (if ((u : Nat) : Int) < ((w : Nat) : Int) then Ordering.lt else if ((u : Nat) : Int) = ((w : Nat) : Int) then Ordering.eq else Ordering.gt) = _
    rw [if_pos (by omega)]
  · show (if ((u : Nat) : Int) < ((w : Nat) : Int) then Ordering.lt else if ((u : Nat) : Int) = ((w : Nat) : Int) then Ordering.eq else Ordering.gt) = _
    rw [if_neg (by omega), if_pos (by omega)]
  · show (if ((u : Nat) : Int) < ((w : Nat) : Int) then Ordering.lt else if ((u : Nat) : Int) = ((w : Nat) : Int) then Ordering.eq else Ordering.gt) = _
    rw [if_neg (by omega), if_neg (by omega)]
/-- the compares, by units -/
theorem own_cmp {u w : Nat} {a b : UInt64} (ha : own_U u a) (hb : own_U w b) (o : CmpOp) : (u < w → cmpValue (FP.dcmp a b) o = -1) ∧ (u = w → cmpValue (FP.dcmp a b) o = 0) ∧ (w < u → cmpValue (FP.dcmp a b) o = 1) := by
  rw [own_U_d ha hb]
  have c := own_cl u w
  refine ⟨fun h => ?_, fun h => ?_, fun h => ?_⟩
  · rw [c.1 h]; cases o <;> rfl
  · rw [c.2.1 h]; cases o <;> rfl
  · rw [c.2.2 h]; cases o <;> rfl
theorem own_pmax {u w : Nat} {a b : UInt64} (ha : own_U u a) (hb : own_U w b) : own_U (max u w) (pick64 true a b) := by
  have d := own_U_d ha hb
  have c := own_cl u w
  rcases Nat.lt_trichotomy u w with h | h | h
  · rw [c.1 h] at d
    have e : pick64 true a b = b := by
      show (match FP.dcmp a b with | some .lt => if true then b else a | some .gt => if true then a else b | _ => if (a >>> 63 == 1) == true then b else a) = b
      rw [d]; rfl
    rw [e, Nat.max_eq_right (by omega)]; exact hb
  · subst h
    rcases Jvm.Free.Fl.pick64_or true a b with e | e <;> rw [e, Nat.max_self] <;> assumption
  · rw [c.2.2 h] at d
    have e : pick64 true a b = a := by
      show (match FP.dcmp a b with | some .lt => if true then b else a | some .gt => if true then a else b | _ => if (a >>> 63 == 1) == true then b else a) = a
      rw [d]; rfl
    rw [e, Nat.max_eq_left (by omega)]; exact ha
theorem own_pmin {u w : Nat} {a b : UInt64} (ha : own_U u a) (hb : own_U w b) : own_U (min u w) (pick64 false a b) := by
  have d := own_U_d ha hb
  have c := own_cl u w
  rcases Nat.lt_trichotomy u w with h | h | h
  · rw [c.1 h] at d
    have e : pick64 false a b = a := by
      show (match FP.dcmp a b with | some .lt => if false then b else a | some .gt => if false then a else b | _ => if (a >>> 63 == 1) == false then b else a) = a
      rw [d]; rfl
    rw [e, Nat.min_eq_left (by omega)]; exact ha
  · subst h
    rcases Jvm.Free.Fl.pick64_or false a b with e | e <;> rw [e, Nat.min_self] <;> assumption
  · rw [c.2.2 h] at d
    have e : pick64 false a b = b := by
      show (match FP.dcmp a b with | some .lt => if false then b else a | some .gt => if false then a else b | _ => if (a >>> 63 == 1) == false then b else a) = b
      rw [d]; rfl
    rw [e, Nat.min_eq_right (by omega)]; exact hb
/-- units of l2d -/
def own_ul (n : Nat) : Nat := zmag b64 (own_P (n * 2 ^ 1074) 1)
theorem own_l2dP {k : Int64} (h : 0 ≤ k.toInt) : val64 (FP.l2d k) = own_P (k.toInt.toNat * 2 ^ 1074) 1 := by
  show val64 (l2d k) = _
  rw [val64_l2d]
  show roundRatio b64 (decide (k.toInt < 0)) k.toInt.natAbs 1 0 = roundRatio b64 false (k.toInt.toNat * 2 ^ 1074) 1 b64.qmin
  rw [decide_eq_false (by omega)]
  refine roundRatio_congr (by decide) (by decide) ?_
  rw [own_qmin, show (0 - -1074 : Int).toNat = 1074 by decide, show (-1074 - 0 : Int).toNat = 0 by decide, show k.toInt.natAbs = k.toInt.toNat by omega]
  simp
theorem own_lfin {n : Nat} (h : n ≤ 2 ^ 63) : n * 2 ^ 1074 ≤ 2 ^ 2000 * 1 := by
  calc n * 2 ^ 1074 ≤ 2 ^ 63 * 2 ^ 1074 := Nat.mul_le_mul_right _ h
    _ = 2 ^ 1137 := by rw [← Nat.pow_add]
    _ ≤ 2 ^ 2000 * 1 := by rw [Nat.mul_one]; exact Nat.pow_le_pow_right (by decide) (by decide)
theorem own_n63 (k : Int64) : k.toInt.toNat ≤ 2 ^ 63 := by have := k.toInt_lt; omega
theorem own_lU {k : Int64} (h : 0 ≤ k.toInt) : own_U (own_ul k.toInt.toNat) (FP.l2d k) := own_U_P (by decide) (own_lfin (own_n63 k)) (own_l2dP h)
theorem own_lmono {n m : Nat} (h : n ≤ m) (h2 : m ≤ 2 ^ 63) : own_ul n ≤ own_ul m := own_P_mono (by decide) (by decide) (own_lfin (by omega)) (own_lfin h2) (Nat.mul_le_mul_right _ (Nat.mul_le_mul_right _ h))
theorem own_ul0 : own_ul 0 = 0 := by
  have e : own_P (0 * 2 ^ 1074) 1 = .fin false 0 b64.qmin := by rw [Nat.zero_mul]; rfl
  show zmag b64 (own_P (0 * 2 ^ 1074) 1) = 0
  rw [e]; show 0 * _ = 0; rw [Nat.zero_mul]
theorem own_llo {n : Nat} (h : 1 ≤ n) : 2 ^ 1074 ≤ own_ul n := by
  have f : Jvm.FP.Core.fits b64 (.fin false (2 ^ 52) (-52)) := ⟨by decide +kernel, by decide +kernel, by decide +kernel, Or.inr (by decide +kernel)⟩
  have z : zmag b64 (.fin false (2 ^ 52) (-52)) = 2 ^ 1074 := by decide +kernel
  have g := own_P_ge (N := n * 2 ^ 1074) (B := 1) (by decide) f (by rw [z, Nat.mul_one]; exact Nat.le_mul_of_pos_left _ h)
  rw [z] at g; exact g
theorem own_lhi {n : Nat} (h : n ≤ 2 ^ 63) : own_ul n ≤ 2 ^ 1137 := by
  have f : Jvm.FP.Core.fits b64 (.fin false (2 ^ 52) 11) := ⟨by decide +kernel, by decide +kernel, by decide +kernel, Or.inr (by decide +kernel)⟩
  have z : zmag b64 (.fin false (2 ^ 52) 11) = 2 ^ 1137 := by decide +kernel
  have g := own_P_le (N := n * 2 ^ 1074) (B := 1) (by decide) f Datum.noConfusion (by
    rw [z, Nat.mul_one, show (2 : Nat) ^ 1137 = 2 ^ 63 * 2 ^ 1074 by rw [← Nat.pow_add]]
    exact Nat.mul_le_mul_right _ h)
  rw [z] at g; exact g
theorem own_lex {k : Int64} (h0 : 1 ≤ k.toInt) (h : k.toInt ≤ 9007199254740992) : own_ul k.toInt.toNat = k.toInt.toNat * 2 ^ 1074 := by
  have a := own_U_V (own_V_l2d k (by omega)) (by omega) (by decide)
  have b := own_lU (k := k) (by omega)
  exact (own_U_fits b).1.symm.trans (own_U_fits a).1
theorem own_ldbl {m : Nat} (h0 : 1 ≤ m) (h : m < 2 ^ 62) : own_ul (2 * m) = 2 * own_ul m := by
  have c0 : own_P (m * 2 ^ 1074) 1 = roundRatio b64 false m 1 0 := by
    refine roundRatio_congr (by decide) (by decide) ?_
    rw [own_qmin, show (-1074 - 0 : Int).toNat = 0 by decide, show (0 - -1074 : Int).toNat = 1074 by decide]; simp
  have c1 : own_P (2 * m * 2 ^ 1074) 1 = roundRatio b64 false m 1 1 := by
    refine roundRatio_congr (by decide) (by decide) ?_
    rw [own_qmin, show (-1074 - 1 : Int).toNat = 0 by decide, show (1 - -1074 : Int).toNat = 1075 by decide, Nat.pow_zero, Nat.mul_one, Nat.mul_one, Nat.mul_one, show (2 : Nat) ^ 1075 = 2 ^ 1074 * 2 by rw [← Nat.pow_succ]]
    generalize 2 ^ 1074 = Y
    ac_rfl
  have hl := leading_spec (A := m) (B := 1) h0 (by decide)
  have l0 : 0 < leading m 1 + 1 := lt_of_below (a := 0) (fun z => by
    have z' : m * 2 ^ (-(0 : Int)).toNat < 1 * 2 ^ (0 : Int).toNat := z
    simp at z'; omega) hl.2
  have l1 : leading m 1 < 63 := lt_of_below hl.1 (show m * 2 ^ (-(63 : Int)).toNat < 1 * 2 ^ (63 : Int).toNat by
    rw [show (-(63 : Int)).toNat = 0 by decide, show (63 : Int).toNat = 63 by decide]; omega)
  have e1 : b64.p = 53 := by decide +kernel
  have e3 : b64.qmax = 971 := by decide +kernel
  have key : ∀ (c : Nat) (q : Int), -1000 ≤ q → q ≤ 100 → zmag b64 (settle b64 false c (q + 1)) = 2 * zmag b64 (settle b64 false c q) := by
    intro c q h1 h2
    have fin : ∀ (c : Nat), zmag b64 (.fin false c (q + 1)) = 2 * zmag b64 (.fin false c q) := fun c => by
      show c * 2 ^ (q + 1 - b64.qmin).toNat = 2 * (c * 2 ^ (q - b64.qmin).toNat)
      rw [own_qmin, show (q + 1 - -1074).toNat = (q - -1074).toNat + 1 by omega, Nat.pow_succ]
      generalize 2 ^ (q - -1074).toNat = E
      ac_rfl
    have fin2 : ∀ (c : Nat), zmag b64 (.fin false c (q + 1 + 1)) = 2 * zmag b64 (.fin false c (q + 1)) := fun c => by
      show c * 2 ^ (q + 1 + 1 - b64.qmin).toNat = 2 * (c * 2 ^ (q + 1 - b64.qmin).toNat)
      rw [own_qmin, show (q + 1 + 1 - -1074).toNat = (q + 1 - -1074).toNat + 1 by omega, Nat.pow_succ]
      generalize 2 ^ (q + 1 - -1074).toNat = E
      ac_rfl
    show zmag b64 (if c < 2 ^ b64.p then (if q + 1 ≤ b64.qmax then Datum.fin false c (q + 1) else .inf false) else (if q + 1 + 1 ≤ b64.qmax then Datum.fin false b64.tails (q + 1 + 1) else .inf false)) = 2 * zmag b64 (if c < 2 ^ b64.p then (if q ≤ b64.qmax then Datum.fin false c q else .inf false) else (if q + 1 ≤ b64.qmax then Datum.fin false b64.tails (q + 1) else .inf false))
    rw [e3]
    by_cases hc : c < 2 ^ b64.p
    · rw [if_pos hc, if_pos hc, if_pos (by omega), if_pos (by omega)]; exact fin c
    · rw [if_neg hc, if_neg hc, if_pos (by omega), if_pos (by omega)]; exact fin2 _
  show zmag b64 (own_P (2 * m * 2 ^ 1074) 1) = 2 * zmag b64 (own_P (m * 2 ^ 1074) 1)
  rw [c0, c1]
  have r0 : roundRatio b64 false m 1 0 = settle b64 false (nearest (m * 2 ^ (52 - leading m 1).toNat) (1 * 2 ^ (leading m 1 - 52).toNat)) (leading m 1 - 52) := by
    show (if m = 0 then Datum.fin false 0 b64.qmin else settle b64 false (nearest (m * 2 ^ (0 - max b64.qmin (leading m 1 + 0 - ((b64.p : Int) - 1))).toNat) (1 * 2 ^ (max b64.qmin (leading m 1 + 0 - ((b64.p : Int) - 1)) - 0).toNat)) (max b64.qmin (leading m 1 + 0 - ((b64.p : Int) - 1)))) = _
    rw [if_neg (by omega), show max b64.qmin (leading m 1 + 0 - ((b64.p : Int) - 1)) = leading m 1 - 52 by rw [own_qmin, e1]; omega, show (0 - (leading m 1 - 52)).toNat = (52 - leading m 1).toNat by omega, show (leading m 1 - 52 - 0).toNat = (leading m 1 - 52).toNat by omega]
  have r1 : roundRatio b64 false m 1 1 = settle b64 false (nearest (m * 2 ^ (52 - leading m 1).toNat) (1 * 2 ^ (leading m 1 - 52).toNat)) (leading m 1 - 52 + 1) := by
    show (if m = 0 then Datum.fin false 0 b64.qmin else settle b64 false (nearest (m * 2 ^ (1 - max b64.qmin (leading m 1 + 1 - ((b64.p : Int) - 1))).toNat) (1 * 2 ^ (max b64.qmin (leading m 1 + 1 - ((b64.p : Int) - 1)) - 1).toNat)) (max b64.qmin (leading m 1 + 1 - ((b64.p : Int) - 1)))) = _
    rw [if_neg (by omega), show max b64.qmin (leading m 1 + 1 - ((b64.p : Int) - 1)) = leading m 1 - 52 + 1 by rw [own_qmin, e1]; omega, show (1 - (leading m 1 - 52 + 1)).toNat = (52 - leading m 1).toNat by omega, show (leading m 1 - 52 + 1 - 1).toNat = (leading m 1 - 52).toNat by omega]
  rw [r0, r1]
  exact key _ _ (by omega) (by omega)
/-- units of the quotient c / L -/
def own_uq (c L : Nat) : Nat := zmag b64 (own_P (own_ul c * 2 ^ 1074) (own_ul L))
theorem own_lpos {n : Nat} (h : 1 ≤ n) : 0 < own_ul n := Nat.lt_of_lt_of_le (Nat.two_pow_pos _) (own_llo h)
theorem own_qfin {c L : Nat} (hc : c ≤ 2 ^ 63) (hL : 1 ≤ L) : own_ul c * 2 ^ 1074 ≤ 2 ^ 2000 * own_ul L := by
  calc own_ul c * 2 ^ 1074 ≤ 2 ^ 1137 * 2 ^ 1074 := Nat.mul_le_mul_right _ (own_lhi hc)
    _ ≤ 2 ^ 2000 * own_ul L := Nat.mul_le_mul (Nat.pow_le_pow_right (by decide) (by decide)) (own_llo hL)
theorem own_qU {c L : Int64} (hc : 0 ≤ c.toInt) (hL : 1 ≤ L.toInt) : own_U (own_uq c.toInt.toNat L.toInt.toNat) (FP.ddiv (FP.l2d c) (FP.l2d L)) :=
  own_U_P (own_lpos (by omega)) (own_qfin (own_n63 c) (by omega)) (own_U_div (own_lU hc) (own_lU (by omega)) (own_lpos (by omega)))
theorem own_qmono {c d L : Nat} (h : c ≤ d) (hd : d ≤ 2 ^ 63) (hL : 1 ≤ L) : own_uq c L ≤ own_uq d L :=
  own_P_mono (own_lpos hL) (own_lpos hL) (own_qfin (by omega) hL) (own_qfin hd hL) (Nat.mul_le_mul_right _ (Nat.mul_le_mul_right _ (own_lmono h hd)))
theorem own_f1 : Jvm.FP.Core.fits b64 (.fin false (2 ^ 52) (-52)) ∧ zmag b64 (.fin false (2 ^ 52) (-52)) = 2 ^ 1074 := ⟨⟨by decide +kernel, by decide +kernel, by decide +kernel, Or.inr (by decide +kernel)⟩, by decide +kernel⟩
theorem own_fh : Jvm.FP.Core.fits b64 (.fin false (2 ^ 52) (-53)) ∧ zmag b64 (.fin false (2 ^ 52) (-53)) = 2 ^ 1073 := ⟨⟨by decide +kernel, by decide +kernel, by decide +kernel, Or.inr (by decide +kernel)⟩, by decide +kernel⟩
theorem own_q0 {L : Nat} (hL : 1 ≤ L) : own_uq 0 L = 0 := by
  have e : own_P (own_ul 0 * 2 ^ 1074) (own_ul L) = .fin false 0 b64.qmin := by rw [own_ul0, Nat.zero_mul]; rfl
  show zmag b64 (own_P (own_ul 0 * 2 ^ 1074) (own_ul L)) = 0
  rw [e]; show 0 * _ = 0; rw [Nat.zero_mul]
theorem own_qge {c L : Nat} (h : L ≤ c) (hc : c ≤ 2 ^ 63) (hL : 1 ≤ L) : 2 ^ 1074 ≤ own_uq c L := by
  have g := own_P_ge (N := own_ul c * 2 ^ 1074) (own_lpos hL) own_f1.1 (by rw [own_f1.2, Nat.mul_comm]; exact Nat.mul_le_mul_right _ (own_lmono h hc))
  rw [own_f1.2] at g; exact g
theorem own_qhalf {m : Nat} (h0 : 1 ≤ m) (h : m < 2 ^ 62) : own_uq m (2 * m) = 2 ^ 1073 := by
  have d := own_ldbl h0 h
  have e : own_ul m * 2 ^ 1074 = 2 ^ 1073 * own_ul (2 * m) := by
    rw [d, show (2 : Nat) ^ 1074 = 2 ^ 1073 * 2 by rw [← Nat.pow_succ]]
    generalize own_ul m = u
    rw [Nat.mul_left_comm, Nat.mul_comm u 2]
  refine Nat.le_antisymm ?_ ?_
  · have g := own_P_le (N := own_ul m * 2 ^ 1074) (own_lpos (n := 2 * m) (by omega)) own_fh.1 Datum.noConfusion (by rw [own_fh.2, e]; exact Nat.le_refl _)
    rw [own_fh.2] at g; exact g
  · have g := own_P_ge (N := own_ul m * 2 ^ 1074) (own_lpos (n := 2 * m) (by omega)) own_fh.1 (by rw [own_fh.2, e]; exact Nat.le_refl _)
    rw [own_fh.2] at g; exact g
theorem own_qpos {c L : Nat} (hc : 1 ≤ c) (hL : 1 ≤ L) (h : L ≤ 2 ^ 63) : 0 < own_uq c L := by
  have f : Jvm.FP.Core.fits b64 (.fin false 1 b64.qmin) := ⟨by decide +kernel, Int.le_refl _, by decide +kernel, Or.inl rfl⟩
  have z : zmag b64 (.fin false 1 b64.qmin) = 1 := by show 1 * 2 ^ (b64.qmin - b64.qmin).toNat = 1; rw [Int.sub_self]; rfl
  have g := own_P_ge (N := own_ul c * 2 ^ 1074) (own_lpos hL) f (by
    rw [z, Nat.one_mul]
    calc own_ul L ≤ 2 ^ 1137 := own_lhi h
      _ ≤ 2 ^ 1074 * 2 ^ 1074 := by rw [← Nat.pow_add]; exact Nat.pow_le_pow_right (by decide) (by decide)
      _ ≤ own_ul c * 2 ^ 1074 := Nat.mul_le_mul_right _ (own_llo hc))
  rw [z] at g; exact g
theorem own_qlt {c L : Int64} (h0 : 0 ≤ c.toInt) (h : c.toInt < L.toInt) (hL : L.toInt ≤ 9007199254740992) : own_uq c.toInt.toNat L.toInt.toNat < 2 ^ 1074 := by
  by_cases hz : c.toInt = 0
  · rw [hz, show (0 : Int).toNat = 0 from rfl, own_q0 (by omega)]; exact Nat.two_pow_pos _
  have f : Jvm.FP.Core.fits b64 (.fin false 9007199254740991 (-53)) := ⟨by decide +kernel, by decide +kernel, by decide +kernel, Or.inr (by decide +kernel)⟩
  have z : zmag b64 (.fin false 9007199254740991 (-53)) = 9007199254740991 * 2 ^ 1021 := by decide +kernel
  have g := own_P_le (N := own_ul c.toInt.toNat * 2 ^ 1074) (own_lpos (n := L.toInt.toNat) (by omega)) f Datum.noConfusion (by
    rw [z, own_lex (k := c) (by omega) (by omega), own_lex (k := L) (by omega) hL]
    have e : (2 : Nat) ^ 1074 = 2 ^ 1021 * 9007199254740992 := by rw [show (9007199254740992 : Nat) = 2 ^ 53 by decide, ← Nat.pow_add]
    generalize hY : (2 : Nat) ^ 1074 = Y at e ⊢
    generalize (2 : Nat) ^ 1021 = X at e ⊢
    calc c.toInt.toNat * Y * Y = (c.toInt.toNat * 9007199254740992) * (X * Y) := by
          conv => lhs; rw [e]
          rw [← e]; rw [e]; ac_rfl
      _ ≤ (9007199254740991 * L.toInt.toNat) * (X * Y) := Nat.mul_le_mul_right _ (by omega)
      _ = 9007199254740991 * X * (L.toInt.toNat * Y) := by ac_rfl)
  rw [z] at g
  refine Nat.lt_of_le_of_lt g ?_
  rw [show (2 : Nat) ^ 1074 = 2 ^ 1021 * 9007199254740992 by rw [show (9007199254740992 : Nat) = 2 ^ 53 by decide, ← Nat.pow_add], Nat.mul_comm]
  exact Nat.mul_lt_mul_of_pos_left (by decide) (Nat.two_pow_pos _)

def own_uu (c L : Int64) : Nat := if L = 9223372036854775807 then 0 else own_uq c.toInt.toNat L.toInt.toNat
theorem own_max63 {E : Int64} (h : ¬ E = 9223372036854775807) : E.toInt < 9223372036854775807 := by
  have := E.toInt_lt
  rw [← Int64.toInt_inj, show (9223372036854775807 : Int64).toInt = 9223372036854775807 from rfl] at h
  omega
theorem own_uu0 {L : Int64} (h : 1 ≤ L.toInt) : own_uu 0 L = 0 := by
  unfold own_uu
  split
  · rfl
  · exact own_q0 (by omega)
theorem own_a1 {E : Int64} (hE : ¬ E = 9223372036854775807) (he : 1 ≤ E.toInt) : min (2 ^ 1074) (own_uu E E) = 2 ^ 1074 := by
  rw [own_uu, if_neg hE]; exact Nat.min_eq_left (own_qge (Nat.le_refl _) (own_n63 E) (by omega))
theorem own_a2 {E : Int64} (hE : ¬ E = 9223372036854775807) (he : 1 ≤ E.toInt) (hev : (E &&& (1 : Int64)) = 0) : min (2 ^ 1074) (own_uu (E >>> ((1 : Int32) &&& 0x3f).toInt64) E) = 2 ^ 1073 := by
  have e1 : (E &&& (1 : Int64)).toInt = E.toInt % 2 ^ 1 := Jvm.Kit.i64_mask E 1 (k := 1) (by decide) (by decide)
  rw [hev, show (0 : Int64).toInt = 0 from rfl] at e1
  have e2 : (E >>> ((1 : Int32) &&& 0x3f).toInt64).toInt = E.toInt / 2 ^ 1 := Jvm.Kit.i64_shr E _ (k := 1) (by decide)
  have hl := E.toInt_lt
  rw [own_uu, if_neg hE, e2, show E.toInt.toNat = 2 * (E.toInt / 2 ^ 1).toNat by omega, own_qhalf (by omega) (by omega)]
  exact Nat.min_eq_right (Nat.pow_le_pow_right (by decide) (by decide))
theorem own_a3 {c d E : Int64} (h0 : 0 ≤ c.toInt) (h : c.toInt ≤ d.toInt) (he : 1 ≤ E.toInt) : min (2 ^ 1074) (own_uu c E) ≤ min (2 ^ 1074) (own_uu d E) := by
  have : own_uu c E ≤ own_uu d E := by
    unfold own_uu
    split
    · exact Nat.le_refl _
    · exact own_qmono (by omega) (own_n63 d) (by omega)
  generalize 2 ^ 1074 = Y
  omega
theorem own_a4 {c E : Int64} (hE : ¬ E = 9223372036854775807) (he : 1 ≤ E.toInt) (h : E.toInt ≤ c.toInt) : min (2 ^ 1074) (own_uu c E) = 2 ^ 1074 := by
  rw [own_uu, if_neg hE]; exact Nat.min_eq_left (own_qge (by omega) (own_n63 c) (by omega))
theorem own_a5 {c E : Int64} (hE : ¬ E = 9223372036854775807) (he : 1 ≤ E.toInt) (h : 0 < c.toInt) : 0 < min (2 ^ 1074) (own_uu c E) := by
  rw [own_uu, if_neg hE]
  have p := own_qpos (c := c.toInt.toNat) (L := E.toInt.toNat) (by omega) (by omega) (own_n63 E)
  have q : 0 < 2 ^ 1074 := Nat.two_pow_pos _
  generalize 2 ^ 1074 = Y at *
  omega
theorem own_a6 {c E : Int64} (he : 1 ≤ E.toInt) (h : c.toInt = 0) : min (2 ^ 1074) (own_uu c E) = 0 := by
  rw [show c = 0 from Int64.toInt_inj.mp h, own_uu0 he, Nat.min_zero]
theorem own_a7 {c E : Int64} (hE : ¬ E = 9223372036854775807) (h0 : 0 ≤ c.toInt) (h : c.toInt < E.toInt) (h2 : E.toInt ≤ 9007199254740992) : min (2 ^ 1074) (own_uu c E) < 2 ^ 1074 := by
  rw [own_uu, if_neg hE]
  have := own_qlt h0 h h2
  generalize 2 ^ 1074 = Y at *
  omega
theorem own_a8 {c E : Int64} (hE : E = 9223372036854775807) : min (2 ^ 1074) (own_uu c E) = 0 := by rw [own_uu, if_pos hE, Nat.min_zero]
theorem own_mm (Y a b : Nat) : min Y (max a b) = max (min Y a) (min Y b) := by omega
theorem own_le1 (Y a : Nat) : min Y a ≤ Y := Nat.min_le_left _ _
/-- not greater, not less, alike, by units -/
theorem own_ngt {u w : Nat} {a b : UInt64} (ha : own_U u a) (hb : own_U w b) (h : u ≤ w) (o : CmpOp) : ¬ 0 < cmpValue (FP.dcmp a b) o := by
  rcases Nat.lt_or_eq_of_le h with z | z
  · rw [(own_cmp ha hb o).1 z]; decide
  · rw [(own_cmp ha hb o).2.1 z]; decide
theorem own_nlt {u w : Nat} {a b : UInt64} (ha : own_U u a) (hb : own_U w b) (h : w ≤ u) (o : CmpOp) : ¬ cmpValue (FP.dcmp a b) o < 0 := by
  rcases Nat.lt_or_eq_of_le h with z | z
  · rw [(own_cmp ha hb o).2.2 z]; decide
  · rw [(own_cmp ha hb o).2.1 z.symm]; decide
theorem own_eq {u w : Nat} {a b : UInt64} (ha : own_U u a) (hb : own_U w b) (h : u = w) (o : CmpOp) : cmpValue (FP.dcmp a b) o = 0 := (own_cmp ha hb o).2.1 h
theorem own_gt {u w : Nat} {a b : UInt64} (ha : own_U u a) (hb : own_U w b) (h : w < u) (o : CmpOp) : 0 < cmpValue (FP.dcmp a b) o := by rw [(own_cmp ha hb o).2.2 h]; decide
theorem own_lt {u w : Nat} {a b : UInt64} (ha : own_U u a) (hb : own_U w b) (h : u < w) (o : CmpOp) : cmpValue (FP.dcmp a b) o < 0 := by rw [(own_cmp ha hb o).1 h]; decide
open Jvm.Free.Fl
theorem own_maxB {p : Program} {l : Launch} {e : Env} {R : Room} {s : State} {args : Array Value} {below : List Frame} {W : Nat} {Z : State} {a0 : Array Value} {h : Heap} {a b : UInt64} (hZ : Z.Warmed39 s.vm) (w : (Jvm.Cond.code ⟨"java/lang/Math", "max", "(DD)D"⟩ jdk_29_method_68_code 4 (some .double)).before a0 Z = true) (hf : 1 ≤ R.frames) (hl : W + 15 ≤ R.locals) (ha : NoNaN64 a) (hb : NoNaN64 b) :
    OBack l R p e below s args ⟨"java/lang/Math", "max", "(DD)D"⟩ 3 W #[.double a, .double b] h 0 0 (fun v h' L => v = some (.double (pick64 true a b)) ∧ L = [] ∧ h' = h) :=
  Back.mono (Jvm.Free.Fl.Abs.maxD_pays a b (mvT hZ w) hf hl) (fun A x q => ⟨q.2.2.1, q.2.2.2, q.1, ha, hb⟩) (fun A x v B q r => by obtain ⟨r1, rfl⟩ := r; exact ⟨[], ⟨r1, rfl, q.2.1⟩, (List.append_nil _).symm, rfl, rfl⟩)
theorem own_minB {p : Program} {l : Launch} {e : Env} {R : Room} {s : State} {args : Array Value} {below : List Frame} {W : Nat} {Z : State} {a0 : Array Value} {h : Heap} {a b : UInt64} (hZ : Z.Warmed39 s.vm) (w : (Jvm.Cond.code ⟨"java/lang/Math", "min", "(DD)D"⟩ jdk_29_method_72_code 4 (some .double)).before a0 Z = true) (hf : 1 ≤ R.frames) (hl : W + 15 ≤ R.locals) (ha : NoNaN64 a) (hb : NoNaN64 b) :
    OBack l R p e below s args ⟨"java/lang/Math", "min", "(DD)D"⟩ 3 W #[.double a, .double b] h 0 0 (fun v h' L => v = some (.double (pick64 false a b)) ∧ L = [] ∧ h' = h) :=
  Back.mono (Jvm.Free.Fl.Abs.minD_pays a b (mvT hZ w) hf hl) (fun A x q => ⟨q.2.2.1, q.2.2.2, q.1, ha, hb⟩) (fun A x v B q r => by obtain ⟨r1, rfl⟩ := r; exact ⟨[], ⟨r1, rfl, q.2.1⟩, (List.append_nil _).symm, rfl, rfl⟩)

end OwnD
open Native.java_lang_Math.nans (pick64)
theorem own_ge {n : Int64} (h : ¬ n < 1) : 1 ≤ n.toInt := by
  rw [Int64.lt_iff_toInt_lt] at h
  have z : (1 : Int64).toInt = 1 := rfl
  omega
theorem own_ge0 {n : Int64} (h : ¬ n < 0) : 0 ≤ n.toInt := by
  rw [Int64.lt_iff_toInt_lt] at h
  have z : (0 : Int64).toInt = 0 := rfl
  omega
theorem own_msk (x : Int64) : 0 ≤ (x &&& (9223372036854775807 : Int64)).toInt := by
  have e1 : (x &&& 9223372036854775807).toInt = x.toInt % 2 ^ 63 := Jvm.Kit.i64_mask x 9223372036854775807 (k := 63) (by decide) (by decide)
  omega
theorem own_mx (x : Int64) : ¬ (if (1 : Int64) < x then x else 1) < 1 := by
  split
  · rename_i h
    rw [Int64.lt_iff_toInt_lt] at h ⊢
    omega
  · decide
theorem own_shr0 {E : Int64} (h : 1 ≤ E.toInt) : 0 ≤ (E >>> ((1 : Int32) &&& 0x3f).toInt64).toInt := by
  rw [Jvm.Kit.i64_shr E _ (k := 1) (by decide)]; omega
theorem own_nar1 : nar .boolean (1 : Int32) = 1 := by decide
theorem own_lle {a b : Int64} (h : ¬ 0 < lcmpW a b) : a.toInt ≤ b.toInt := by
  have : ¬ b < a := fun z => h ((lw_gt _ _).mpr z)
  rw [Int64.lt_iff_toInt_lt] at this; omega
theorem own_lgt {a b : Int64} (h : 0 < lcmpW a b) : b.toInt < a.toInt := Int64.lt_iff_toInt_lt.mp ((lw_gt _ _).mp h)
theorem own_llt {a b : Int64} (h : lcmpW a b < 0) : a.toInt < b.toInt := Int64.lt_iff_toInt_lt.mp ((lw_lt _ _).mp h)
theorem own_lge {a b : Int64} (h : ¬ lcmpW a b < 0) : b.toInt ≤ a.toInt := by
  have : ¬ a < b := fun z => h ((lw_lt _ _).mpr z)
  rw [Int64.lt_iff_toInt_lt] at this; omega

set_option maxRecDepth 65536 in
set_option maxHeartbeats 40000000 in
theorem own_rec (l : Launch) (Z : State) (a0 : Array Value) (hw : ∀ d ∈ tables_1, d.before a0 Z = true) (ws : List Jvm.Cond) (a : Addr) (h0 : Heap) (n0 : Nat) (Z0 : n0 ≤ h0.size)  :
    OMet l Z (⟨"java/lang/Record", "<init>", "()V"⟩ : MethodName) jdk_30_method_1_code 1 none ws ({ frames := 1, cells := 0, slots := 0, locals := 12 } : Room) #[(.ref a)] h0 (fun v h L => v = none ∧ Fr n0 L ∧ h = h0) := by
  refine OMet.body (plainFor_of_name own_pn0) ?_
  intro p e s m below meth c s₁ hx hby hml hown hnm hret hlk hZ X0 e0
  refine OGo.step (fun _ kk => castTop (show entryFrame m #[(.ref a)] 1 = (mkF m 0 #[.val (.ref a)] []) from by first | (simp [entryFrame, mkF, argsToLocals, Value.category]; done) | rfl) kk) ?_
  show OGo p e below (s₁.setTop (mkF m 0 #[.val (.ref a)] [])) _
  refine OGo.step (fun _ kk => XS.aloadN X0.here hx rfl (hb hby own_d_jdk_30_method_1_code_0) rfl rfl kk) ?_
  show OGo p e below (s₁.setTop (mkF m 1 #[.val (.ref a)] [(.ref a)])) _
  obtain ⟨T1, X1, e1, st1⟩ := initO X0 hx hZ hown (hw _ (List.mem_of_getElem? (i := 16) rfl)) (hw _ (List.mem_of_getElem? (i := 17) rfl)) (hw _ (List.mem_of_getElem? (i := 18) rfl)) e0 (g := (mkF m 1 #[.val (.ref a)] [(.ref a)])) rfl (by rw [hml]; rfl) rfl (hb hby own_d_jdk_30_method_1_code_1) (by decide) (W := 0) (by show 2 * 0 + _ ≤ _; exact Nat.le_of_eq rfl) (by decide)
  refine OGo.step st1 ?_
  show OGo p e below (T1.setTop (mkF m 4 #[.val (.ref a)] [])) _
  exact own_ret0 X1 hx hlk hret (hb hby own_d_jdk_30_method_1_code_4) ⟨rfl, Fr.nil n0, e1⟩ (by decide) (by decide)

set_option maxRecDepth 65536 in
set_option maxHeartbeats 40000000 in
theorem own_binit (l : Launch) (Z : State) (a0 : Array Value) (hw : ∀ d ∈ tables_1, d.before a0 Z = true) (ws : List Jvm.Cond) (a : Addr) (e1_ n1_ : Int64) (fl : Int32) (h0 : Heap) (n0 : Nat) (Z0 : n0 ≤ h0.size) (E1 : Exa Z h0 a "com/example/slotwise/slotwise/search/Budget") (F_evaluations : Fld Z h0 a "com/example/slotwise/slotwise/search/Budget" "evaluations" "J" (.long (0 : Int64))) (F_nanos : Fld Z h0 a "com/example/slotwise/slotwise/search/Budget" "nanos" "J" (.long (0 : Int64))) (F_stopWhenFeasible : Fld Z h0 a "com/example/slotwise/slotwise/search/Budget" "stopWhenFeasible" "Z" (.int (0 : Int32))) (ga : n0 ≤ a) (he : ¬ e1_ < 1) (hn : ¬ n1_ < 1) (hb_ : ¬ (e1_ = (9223372036854775807 : Int64) ∧ n1_ = (9223372036854775807 : Int64))) :
    OMet l Z (⟨"com/example/slotwise/slotwise/search/Budget", "<init>", "(JJZ)V"⟩ : MethodName) prog_44_method_1_code 6 none ws ({ frames := 2, cells := 0, slots := 0, locals := 24 } : Room) #[(.ref a), (.long e1_), (.long n1_), (.int fl)] h0 (fun v h L => v = none ∧ Fr n0 L ∧ Keep h0 h [a] ∧ Exa Z h a "com/example/slotwise/slotwise/search/Budget" ∧ Fld Z h a "com/example/slotwise/slotwise/search/Budget" "evaluations" "J" (.long e1_) ∧ Fld Z h a "com/example/slotwise/slotwise/search/Budget" "nanos" "J" (.long n1_)) := by
  refine OMet.body (plainFor_of_name own_pn1) ?_
  intro p e s m below meth c s₁ hx hby hml hown hnm hret hlk hZ X0 e0
  refine OGo.step (fun _ kk => castTop (show entryFrame m #[(.ref a), (.long e1_), (.long n1_), (.int fl)] 6 = (mkF m 0 #[.val (.ref a), .val (.long e1_), .second, .val (.long n1_), .second, .val (.int fl)] []) from by first | (simp [entryFrame, mkF, argsToLocals, Value.category]; done) | rfl) kk) ?_
  show OGo p e below (s₁.setTop (mkF m 0 #[.val (.ref a), .val (.long e1_), .second, .val (.long n1_), .second, .val (.int fl)] [])) _
  refine OGo.step (fun _ kk => XS.aloadN X0.here hx rfl (hb hby own_d_prog_44_method_1_code_0) rfl rfl kk) ?_
  show OGo p e below (s₁.setTop (mkF m 1 #[.val (.ref a), .val (.long e1_), .second, .val (.long n1_), .second, .val (.int fl)] [(.ref a)])) _
  refine own_special X0 hx hZ (y := (⟨"java/lang/Record", "<init>", "()V"⟩ : MethodName)) rfl hown (hw _ (List.mem_of_getElem? (i := 11) rfl)) (hw _ (List.mem_of_getElem? (i := 12) rfl)) (hw _ (List.mem_of_getElem? (i := 15) rfl)) (hw _ (List.mem_of_getElem? (i := 14) rfl)) (by decide) (a := a) (W := 0) (own_rec l Z a0 hw [] a h0 n0 Z0) e0  (pc := 1) (Ls := #[.val (.ref a), .val (.long e1_), .second, .val (.long n1_), .second, .val (.int fl)]) (argsL := []) (rest := []) (by rw [hml]; rfl) (lenOf own_pd0 rfl) rfl (hb hby own_d_prog_44_method_1_code_1) (by decide) (by decide) (by decide) (by decide) ?_
  intro v2 T2 L2 X2 hQ2
  obtain ⟨rfl, N2, e2⟩ := hQ2
  show OGo p e below (T2.setTop (mkF m 4 #[.val (.ref a), .val (.long e1_), .second, .val (.long n1_), .second, .val (.int fl)] [])) _
  have Nc2 := Fr.app (Fr.nil n0) N2
  refine OGo.step (fun _ kk => XS.lloadN X2.here hx rfl (hb hby own_d_prog_44_method_1_code_4) rfl kk) ?_
  refine OGo.step (fun _ kk => XS.lconst X2.here hx rfl (hb hby own_d_prog_44_method_1_code_5) kk) ?_
  refine OGo.step (fun _ kk => XS.lcmp X2.here hx rfl (hb hby own_d_prog_44_method_1_code_6) rfl kk) ?_
  show OGo p e below (T2.setTop (mkF m 7 #[.val (.ref a), .val (.long e1_), .second, .val (.long n1_), .second, .val (.int fl)] [(.int (lcmpW e1_ (1 : Int64)))])) _
  refine OGo.step (fun _ kk => XS.ifNo X2.here hx rfl (hb hby own_d_prog_44_method_1_code_7) rfl ((if0 _ _).trans (flt (fun z => he ((lw_lt _ _).mp z))).1) kk) ?_
  show OGo p e below (T2.setTop (mkF m 10 #[.val (.ref a), .val (.long e1_), .second, .val (.long n1_), .second, .val (.int fl)] [])) _
  refine OGo.step (fun _ kk => XS.lloadN X2.here hx rfl (hb hby own_d_prog_44_method_1_code_10) rfl kk) ?_
  refine OGo.step (fun _ kk => XS.lconst X2.here hx rfl (hb hby own_d_prog_44_method_1_code_11) kk) ?_
  refine OGo.step (fun _ kk => XS.lcmp X2.here hx rfl (hb hby own_d_prog_44_method_1_code_12) rfl kk) ?_
  show OGo p e below (T2.setTop (mkF m 13 #[.val (.ref a), .val (.long e1_), .second, .val (.long n1_), .second, .val (.int fl)] [(.int (lcmpW n1_ (1 : Int64)))])) _
  refine OGo.step (fun _ kk => XS.ifYes X2.here hx rfl (pc0 := 13) (pc' := 31) rfl (hb hby own_d_prog_44_method_1_code_13) rfl ((if0 _ _).trans (flt (fun z => hn ((lw_lt _ _).mp z))).2.1) (by decide) (by decide) kk) ?_
  show OGo p e below (T2.setTop (mkF m 31 #[.val (.ref a), .val (.long e1_), .second, .val (.long n1_), .second, .val (.int fl)] [])) _
  refine OGo.step (fun _ kk => XS.lloadN X2.here hx rfl (hb hby own_d_prog_44_method_1_code_31) rfl kk) ?_
  refine OGo.step (fun _ kk => X2.ldc2Long hx hown (mvT hZ (hw _ (List.mem_of_getElem? (i := 19) rfl))) (g := (mkF m 32 #[.val (.ref a), .val (.long e1_), .second, .val (.long n1_), .second, .val (.int fl)] [(.long e1_)])) rfl (hb hby own_d_prog_44_method_1_code_32) _ kk) ?_
  refine OGo.step (fun _ kk => XS.lcmp X2.here hx rfl (hb hby own_d_prog_44_method_1_code_35) rfl kk) ?_
  show OGo p e below (T2.setTop (mkF m 36 #[.val (.ref a), .val (.long e1_), .second, .val (.long n1_), .second, .val (.int fl)] [(.int (lcmpW e1_ (9223372036854775807 : Int64)))])) _
  by_cases hh : (lcmpW e1_ (9223372036854775807 : Int64)) = (0 : Int32)
  · refine OGo.step (fun _ kk => XS.ifNo X2.here hx rfl (hb hby own_d_prog_44_method_1_code_36) rfl ((if0 _ _).trans (teq hh).2) kk) ?_
    show OGo p e below (T2.setTop (mkF m 39 #[.val (.ref a), .val (.long e1_), .second, .val (.long n1_), .second, .val (.int fl)] [])) _
    refine OGo.step (fun _ kk => XS.lloadN X2.here hx rfl (hb hby own_d_prog_44_method_1_code_39) rfl kk) ?_
    refine OGo.step (fun _ kk => X2.ldc2Long hx hown (mvT hZ (hw _ (List.mem_of_getElem? (i := 19) rfl))) (g := (mkF m 40 #[.val (.ref a), .val (.long e1_), .second, .val (.long n1_), .second, .val (.int fl)] [(.long n1_)])) rfl (hb hby own_d_prog_44_method_1_code_40) _ kk) ?_
    refine OGo.step (fun _ kk => XS.lcmp X2.here hx rfl (hb hby own_d_prog_44_method_1_code_43) rfl kk) ?_
    show OGo p e below (T2.setTop (mkF m 44 #[.val (.ref a), .val (.long e1_), .second, .val (.long n1_), .second, .val (.int fl)] [(.int (lcmpW n1_ (9223372036854775807 : Int64)))])) _
    refine OGo.step (fun _ kk => XS.ifYes X2.here hx rfl (pc0 := 44) (pc' := 57) rfl (hb hby own_d_prog_44_method_1_code_44) rfl ((if0 _ _).trans (feq (fun z => hb_ ⟨(lw_eq _ _).mp hh, (lw_eq _ _).mp z⟩)).2) (by decide) (by decide) kk) ?_
    show OGo p e below (T2.setTop (mkF m 57 #[.val (.ref a), .val (.long e1_), .second, .val (.long n1_), .second, .val (.int fl)] [])) _
    refine OGo.step (fun _ kk => XS.aloadN X2.here hx rfl (hb hby own_d_prog_44_method_1_code_57) rfl rfl kk) ?_
    refine OGo.step (fun _ kk => XS.lloadN X2.here hx rfl (hb hby own_d_prog_44_method_1_code_58) rfl kk) ?_
    show OGo p e below (T2.setTop (mkF m 59 #[.val (.ref a), .val (.long e1_), .second, .val (.long n1_), .second, .val (.int fl)] [(.long e1_), (.ref a)])) _
    obtain ⟨T3, h3, X3, e3, W3, st3⟩ := putF X2 hx hZ hown (host := "") (Or.inl (hw _ (List.mem_of_getElem? (i := 20) rfl))) Via.refl e2 F_evaluations E1 (Or.inr ⟨(hw _ (List.mem_of_getElem? (i := 21) rfl)), rfl, hnm⟩) (hw _ (List.mem_of_getElem? (i := 6) rfl)) (ty := .long) (by decide) rfl rfl (g := (mkF m 59 #[.val (.ref a), .val (.long e1_), .second, .val (.long n1_), .second, .val (.int fl)] [(.long e1_), (.ref a)])) rfl rfl (hb hby own_d_prog_44_method_1_code_59)
    refine OGo.step st3 ?_
    show OGo p e below (T3.setTop (mkF m 62 #[.val (.ref a), .val (.long e1_), .second, .val (.long n1_), .second, .val (.int fl)] [])) _
    have Fw3 := F_evaluations.same W3
    have Nf3 := Fr.snoc X3 Nc2 ga
    have sz3 : n0 ≤ h3.size := by rw [W3.size]; exact Z0
    refine OGo.step (fun _ kk => XS.aloadN X3.here hx rfl (hb hby own_d_prog_44_method_1_code_62) rfl rfl kk) ?_
    refine OGo.step (fun _ kk => XS.lloadN X3.here hx rfl (hb hby own_d_prog_44_method_1_code_63) rfl kk) ?_
    show OGo p e below (T3.setTop (mkF m 64 #[.val (.ref a), .val (.long e1_), .second, .val (.long n1_), .second, .val (.int fl)] [(.long n1_), (.ref a)])) _
    have fc4 := (F_nanos.other W3 (Or.inr (slot_ne (Or.inr (hw _ (List.mem_of_getElem? (i := 23) rfl))) (Or.inr (hw _ (List.mem_of_getElem? (i := 21) rfl))) (by decide) (t := .long) (t' := .long) (by decide) (by decide))))
    have fc5 := (E1.wr W3)
    obtain ⟨T6, h6, X6, e6, W6, st6⟩ := putF X3 hx hZ hown (host := "") (Or.inl (hw _ (List.mem_of_getElem? (i := 22) rfl))) Via.refl e3 fc4 fc5 (Or.inr ⟨(hw _ (List.mem_of_getElem? (i := 23) rfl)), rfl, hnm⟩) (hw _ (List.mem_of_getElem? (i := 6) rfl)) (ty := .long) (by decide) rfl rfl (g := (mkF m 64 #[.val (.ref a), .val (.long e1_), .second, .val (.long n1_), .second, .val (.int fl)] [(.long n1_), (.ref a)])) rfl rfl (hb hby own_d_prog_44_method_1_code_64)
    refine OGo.step st6 ?_
    show OGo p e below (T6.setTop (mkF m 67 #[.val (.ref a), .val (.long e1_), .second, .val (.long n1_), .second, .val (.int fl)] [])) _
    have Fw6 := fc4.same W6
    have Nf6 := Fr.snoc X6 Nf3 ga
    have sz6 : n0 ≤ h6.size := by rw [W6.size]; exact sz3
    refine OGo.step (fun _ kk => XS.aloadN X6.here hx rfl (hb hby own_d_prog_44_method_1_code_67) rfl rfl kk) ?_
    refine OGo.step (fun _ kk => XS.iload X6.here hx rfl (hb hby own_d_prog_44_method_1_code_68) rfl kk) ?_
    show OGo p e below (T6.setTop (mkF m 70 #[.val (.ref a), .val (.long e1_), .second, .val (.long n1_), .second, .val (.int fl)] [(.int fl), (.ref a)])) _
    have fc7 := ((F_stopWhenFeasible.other W3 (Or.inr (slot_ne (Or.inr (hw _ (List.mem_of_getElem? (i := 25) rfl))) (Or.inr (hw _ (List.mem_of_getElem? (i := 21) rfl))) (by decide) (t := .boolean) (t' := .long) (by decide) (by decide)))).other W6 (Or.inr (slot_ne (Or.inr (hw _ (List.mem_of_getElem? (i := 25) rfl))) (Or.inr (hw _ (List.mem_of_getElem? (i := 23) rfl))) (by decide) (t := .boolean) (t' := .long) (by decide) (by decide))))
    have fc8 := (fc5.wr W6)
    obtain ⟨T9, h9, X9, e9, W9, st9⟩ := putFN X6 hx hZ hown (hw _ (List.mem_of_getElem? (i := 24) rfl)) Via.refl e6 fc7 fc8 (Or.inr ⟨(hw _ (List.mem_of_getElem? (i := 25) rfl)), rfl, hnm⟩) (hw _ (List.mem_of_getElem? (i := 6) rfl)) (ty := .boolean) (v' := (.int (nar .boolean fl))) (by decide) rfl (fits_nar_bool fl) (g := (mkF m 70 #[.val (.ref a), .val (.long e1_), .second, .val (.long n1_), .second, .val (.int fl)] [(.int fl), (.ref a)])) rfl rfl (hb hby own_d_prog_44_method_1_code_70)
    refine OGo.step st9 ?_
    show OGo p e below (T9.setTop (mkF m 73 #[.val (.ref a), .val (.long e1_), .second, .val (.long n1_), .second, .val (.int fl)] [])) _
    have Fw9 := fc7.same W9
    have Nf9 := Fr.snoc X9 Nf6 ga
    have sz9 : n0 ≤ h9.size := by rw [W9.size]; exact sz6
    have fc10 := (fc8.wr W9)
    have fc11 := ((Fw3.other W6 (Or.inr (slot_ne (Or.inr (hw _ (List.mem_of_getElem? (i := 21) rfl))) (Or.inr (hw _ (List.mem_of_getElem? (i := 23) rfl))) (by decide) (t := .long) (t' := .long) (by decide) (by decide)))).other W9 (Or.inr (slot_ne (Or.inr (hw _ (List.mem_of_getElem? (i := 21) rfl))) (Or.inr (hw _ (List.mem_of_getElem? (i := 25) rfl))) (by decide) (t := .long) (t' := .boolean) (by decide) (by decide))))
    have fc12 := (Fw6.other W9 (Or.inr (slot_ne (Or.inr (hw _ (List.mem_of_getElem? (i := 23) rfl))) (Or.inr (hw _ (List.mem_of_getElem? (i := 25) rfl))) (by decide) (t := .long) (t' := .boolean) (by decide) (by decide))))
    have HK := ((((Keep.refl h0 [a]).wr W3 (Or.inl (List.mem_of_getElem? (i := 0) rfl))).wr W6 (Or.inl (List.mem_of_getElem? (i := 0) rfl))).wr W9 (Or.inl (List.mem_of_getElem? (i := 0) rfl)))
    exact own_ret0 X9 hx hlk hret (hb hby own_d_prog_44_method_1_code_73) (by rw [e9]; exact ⟨rfl, Nf9, HK, fc10, fc11, fc12⟩) (by decide) (by decide)
  · refine OGo.step (fun _ kk => XS.ifYes X2.here hx rfl (pc0 := 36) (pc' := 57) rfl (hb hby own_d_prog_44_method_1_code_36) rfl ((if0 _ _).trans (feq hh).2) (by decide) (by decide) kk) ?_
    show OGo p e below (T2.setTop (mkF m 57 #[.val (.ref a), .val (.long e1_), .second, .val (.long n1_), .second, .val (.int fl)] [])) _
    refine OGo.step (fun _ kk => XS.aloadN X2.here hx rfl (hb hby own_d_prog_44_method_1_code_57) rfl rfl kk) ?_
    refine OGo.step (fun _ kk => XS.lloadN X2.here hx rfl (hb hby own_d_prog_44_method_1_code_58) rfl kk) ?_
    show OGo p e below (T2.setTop (mkF m 59 #[.val (.ref a), .val (.long e1_), .second, .val (.long n1_), .second, .val (.int fl)] [(.long e1_), (.ref a)])) _
    obtain ⟨T13, h13, X13, e13, W13, st13⟩ := putF X2 hx hZ hown (host := "") (Or.inl (hw _ (List.mem_of_getElem? (i := 20) rfl))) Via.refl e2 F_evaluations E1 (Or.inr ⟨(hw _ (List.mem_of_getElem? (i := 21) rfl)), rfl, hnm⟩) (hw _ (List.mem_of_getElem? (i := 6) rfl)) (ty := .long) (by decide) rfl rfl (g := (mkF m 59 #[.val (.ref a), .val (.long e1_), .second, .val (.long n1_), .second, .val (.int fl)] [(.long e1_), (.ref a)])) rfl rfl (hb hby own_d_prog_44_method_1_code_59)
    refine OGo.step st13 ?_
    show OGo p e below (T13.setTop (mkF m 62 #[.val (.ref a), .val (.long e1_), .second, .val (.long n1_), .second, .val (.int fl)] [])) _
    have Fw13 := F_evaluations.same W13
    have Nf13 := Fr.snoc X13 Nc2 ga
    have sz13 : n0 ≤ h13.size := by rw [W13.size]; exact Z0
    refine OGo.step (fun _ kk => XS.aloadN X13.here hx rfl (hb hby own_d_prog_44_method_1_code_62) rfl rfl kk) ?_
    refine OGo.step (fun _ kk => XS.lloadN X13.here hx rfl (hb hby own_d_prog_44_method_1_code_63) rfl kk) ?_
    show OGo p e below (T13.setTop (mkF m 64 #[.val (.ref a), .val (.long e1_), .second, .val (.long n1_), .second, .val (.int fl)] [(.long n1_), (.ref a)])) _
    have fc14 := (F_nanos.other W13 (Or.inr (slot_ne (Or.inr (hw _ (List.mem_of_getElem? (i := 23) rfl))) (Or.inr (hw _ (List.mem_of_getElem? (i := 21) rfl))) (by decide) (t := .long) (t' := .long) (by decide) (by decide))))
    have fc15 := (E1.wr W13)
    obtain ⟨T16, h16, X16, e16, W16, st16⟩ := putF X13 hx hZ hown (host := "") (Or.inl (hw _ (List.mem_of_getElem? (i := 22) rfl))) Via.refl e13 fc14 fc15 (Or.inr ⟨(hw _ (List.mem_of_getElem? (i := 23) rfl)), rfl, hnm⟩) (hw _ (List.mem_of_getElem? (i := 6) rfl)) (ty := .long) (by decide) rfl rfl (g := (mkF m 64 #[.val (.ref a), .val (.long e1_), .second, .val (.long n1_), .second, .val (.int fl)] [(.long n1_), (.ref a)])) rfl rfl (hb hby own_d_prog_44_method_1_code_64)
    refine OGo.step st16 ?_
    show OGo p e below (T16.setTop (mkF m 67 #[.val (.ref a), .val (.long e1_), .second, .val (.long n1_), .second, .val (.int fl)] [])) _
    have Fw16 := fc14.same W16
    have Nf16 := Fr.snoc X16 Nf13 ga
    have sz16 : n0 ≤ h16.size := by rw [W16.size]; exact sz13
    refine OGo.step (fun _ kk => XS.aloadN X16.here hx rfl (hb hby own_d_prog_44_method_1_code_67) rfl rfl kk) ?_
    refine OGo.step (fun _ kk => XS.iload X16.here hx rfl (hb hby own_d_prog_44_method_1_code_68) rfl kk) ?_
    show OGo p e below (T16.setTop (mkF m 70 #[.val (.ref a), .val (.long e1_), .second, .val (.long n1_), .second, .val (.int fl)] [(.int fl), (.ref a)])) _
    have fc17 := ((F_stopWhenFeasible.other W13 (Or.inr (slot_ne (Or.inr (hw _ (List.mem_of_getElem? (i := 25) rfl))) (Or.inr (hw _ (List.mem_of_getElem? (i := 21) rfl))) (by decide) (t := .boolean) (t' := .long) (by decide) (by decide)))).other W16 (Or.inr (slot_ne (Or.inr (hw _ (List.mem_of_getElem? (i := 25) rfl))) (Or.inr (hw _ (List.mem_of_getElem? (i := 23) rfl))) (by decide) (t := .boolean) (t' := .long) (by decide) (by decide))))
    have fc18 := (fc15.wr W16)
    obtain ⟨T19, h19, X19, e19, W19, st19⟩ := putFN X16 hx hZ hown (hw _ (List.mem_of_getElem? (i := 24) rfl)) Via.refl e16 fc17 fc18 (Or.inr ⟨(hw _ (List.mem_of_getElem? (i := 25) rfl)), rfl, hnm⟩) (hw _ (List.mem_of_getElem? (i := 6) rfl)) (ty := .boolean) (v' := (.int (nar .boolean fl))) (by decide) rfl (fits_nar_bool fl) (g := (mkF m 70 #[.val (.ref a), .val (.long e1_), .second, .val (.long n1_), .second, .val (.int fl)] [(.int fl), (.ref a)])) rfl rfl (hb hby own_d_prog_44_method_1_code_70)
    refine OGo.step st19 ?_
    show OGo p e below (T19.setTop (mkF m 73 #[.val (.ref a), .val (.long e1_), .second, .val (.long n1_), .second, .val (.int fl)] [])) _
    have Fw19 := fc17.same W19
    have Nf19 := Fr.snoc X19 Nf16 ga
    have sz19 : n0 ≤ h19.size := by rw [W19.size]; exact sz16
    have fc20 := (fc18.wr W19)
    have fc21 := ((Fw13.other W16 (Or.inr (slot_ne (Or.inr (hw _ (List.mem_of_getElem? (i := 21) rfl))) (Or.inr (hw _ (List.mem_of_getElem? (i := 23) rfl))) (by decide) (t := .long) (t' := .long) (by decide) (by decide)))).other W19 (Or.inr (slot_ne (Or.inr (hw _ (List.mem_of_getElem? (i := 21) rfl))) (Or.inr (hw _ (List.mem_of_getElem? (i := 25) rfl))) (by decide) (t := .long) (t' := .boolean) (by decide) (by decide))))
    have fc22 := (Fw16.other W19 (Or.inr (slot_ne (Or.inr (hw _ (List.mem_of_getElem? (i := 23) rfl))) (Or.inr (hw _ (List.mem_of_getElem? (i := 25) rfl))) (by decide) (t := .long) (t' := .boolean) (by decide) (by decide))))
    have HK := ((((Keep.refl h0 [a]).wr W13 (Or.inl (List.mem_of_getElem? (i := 0) rfl))).wr W16 (Or.inl (List.mem_of_getElem? (i := 0) rfl))).wr W19 (Or.inl (List.mem_of_getElem? (i := 0) rfl)))
    exact own_ret0 X19 hx hlk hret (hb hby own_d_prog_44_method_1_code_73) (by rw [e19]; exact ⟨rfl, Nf19, HK, fc20, fc21, fc22⟩) (by decide) (by decide)

set_option maxRecDepth 65536 in
set_option maxHeartbeats 40000000 in
theorem own_maxJ (l : Launch) (Z : State) (a0 : Array Value) (hw : ∀ d ∈ tables_1, d.before a0 Z = true) (ws : List Jvm.Cond) (x1 x2 : Int64) (h0 : Heap) (n0 : Nat) (Z0 : n0 ≤ h0.size)  :
    OMet l Z (⟨"java/lang/Math", "max", "(JJ)J"⟩ : MethodName) jdk_29_method_66_code 4 (some .long) ws ({ frames := 0, cells := 0, slots := 0, locals := 0 } : Room) #[(.long x1), (.long x2)] h0 (fun v h L => v = some (.long (if x1 < x2 then x2 else x1)) ∧ Fr n0 L ∧ h = h0) := by
  refine OMet.body (Jvm.Free.JP.mathPlain rfl (by decide +kernel)) ?_
  intro p e s m below meth c s₁ hx hby hml hown hnm hret hlk hZ X0 e0
  refine OGo.step (fun _ kk => castTop (show entryFrame m #[(.long x1), (.long x2)] 4 = (mkF m 0 #[.val (.long x1), .second, .val (.long x2), .second] []) from by first | (simp [entryFrame, mkF, argsToLocals, Value.category]; done) | rfl) kk) ?_
  show OGo p e below (s₁.setTop (mkF m 0 #[.val (.long x1), .second, .val (.long x2), .second] [])) _
  refine OGo.step (fun _ kk => XS.lloadN X0.here hx rfl (hb hby own_d_jdk_29_method_66_code_0) rfl kk) ?_
  refine OGo.step (fun _ kk => XS.lloadN X0.here hx rfl (hb hby own_d_jdk_29_method_66_code_1) rfl kk) ?_
  refine OGo.step (fun _ kk => XS.lcmp X0.here hx rfl (hb hby own_d_jdk_29_method_66_code_2) rfl kk) ?_
  show OGo p e below (s₁.setTop (mkF m 3 #[.val (.long x1), .second, .val (.long x2), .second] [(.int (lcmpW x1 x2))])) _
  by_cases hh : (lcmpW x1 x2) < (0 : Int32)
  · refine OGo.step (fun _ kk => XS.ifYes X0.here hx rfl (pc0 := 3) (pc' := 10) rfl (hb hby own_d_jdk_29_method_66_code_3) rfl ((if0 _ _).trans (tlt hh).1) (by decide) (by decide) kk) ?_
    show OGo p e below (s₁.setTop (mkF m 10 #[.val (.long x1), .second, .val (.long x2), .second] [])) _
    refine OGo.step (fun _ kk => XS.lloadN X0.here hx rfl (hb hby own_d_jdk_29_method_66_code_10) rfl kk) ?_
    show OGo p e below (s₁.setTop (mkF m 11 #[.val (.long x1), .second, .val (.long x2), .second] [(.long x2)])) _
    exact own_ret X0 hx hlk hret rfl (Or.inr (Or.inl ⟨rfl, rfl, _, rfl⟩)) (hb hby own_d_jdk_29_method_66_code_11) ⟨by rw [if_pos ((lw_lt _ _).mp hh)], Fr.nil n0, e0⟩ (by decide) (by decide)
  · refine OGo.step (fun _ kk => XS.ifNo X0.here hx rfl (hb hby own_d_jdk_29_method_66_code_3) rfl ((if0 _ _).trans (flt hh).1) kk) ?_
    show OGo p e below (s₁.setTop (mkF m 6 #[.val (.long x1), .second, .val (.long x2), .second] [])) _
    refine OGo.step (fun _ kk => XS.lloadN X0.here hx rfl (hb hby own_d_jdk_29_method_66_code_6) rfl kk) ?_
    refine OGo.step (fun _ kk => XS.goto X0.here hx rfl (pc0 := 7) (pc' := 11) rfl (hb hby own_d_jdk_29_method_66_code_7) (by decide) (by decide) kk) ?_
    show OGo p e below (s₁.setTop (mkF m 11 #[.val (.long x1), .second, .val (.long x2), .second] [(.long x1)])) _
    exact own_ret X0 hx hlk hret rfl (Or.inr (Or.inl ⟨rfl, rfl, _, rfl⟩)) (hb hby own_d_jdk_29_method_66_code_11) ⟨by rw [if_neg (fun z => hh ((lw_lt _ _).mpr z))], Fr.nil n0, e0⟩ (by decide) (by decide)

set_option maxRecDepth 65536 in
set_option maxHeartbeats 40000000 in
theorem own_near (l : Launch) (Z : State) (a0 : Array Value) (hw : ∀ d ∈ tables_1, d.before a0 Z = true) (ws : List Jvm.Cond) (lim x1 x2 : Int64) (fl : Int32) (h0 : Heap) (n0 : Nat) (Z0 : n0 ≤ h0.size) (hv : 0 ≤ x1.toInt) :
    OMet l Z (⟨"com/example/slotwise/slotwise/search/BudgetUsedPinLaw", "near", "(JJJZ)J"⟩ : MethodName) method_3_code 13 (some .long) ws ({ frames := 0, cells := 0, slots := 0, locals := 0 } : Room) #[(.long lim), (.long x1), (.long x2), (.int fl)] h0 (fun v h L => ∃ r : Int64, v = some (.long r) ∧ Fr n0 L ∧ h = h0 ∧ 0 ≤ r.toInt) := by
  refine OMet.body (plainFor_of_name own_pn2) ?_
  intro p e s m below meth c s₁ hx hby hml hown hnm hret hlk hZ X0 e0
  refine OGo.step (fun _ kk => castTop (show entryFrame m #[(.long lim), (.long x1), (.long x2), (.int fl)] 13 = (mkF m 0 #[.val (.long lim), .second, .val (.long x1), .second, .val (.long x2), .second, .val (.int fl), .unset, .unset, .unset, .unset, .unset, .unset] []) from by first | (simp [entryFrame, mkF, argsToLocals, Value.category]; done) | rfl) kk) ?_
  show OGo p e below (s₁.setTop (mkF m 0 #[.val (.long lim), .second, .val (.long x1), .second, .val (.long x2), .second, .val (.int fl), .unset, .unset, .unset, .unset, .unset, .unset] [])) _
  refine OGo.step (fun _ kk => X0.ldc2Long hx hown (mvT hZ (hw _ (List.mem_of_getElem? (i := 0) rfl))) (g := (mkF m 0 #[.val (.long lim), .second, .val (.long x1), .second, .val (.long x2), .second, .val (.int fl), .unset, .unset, .unset, .unset, .unset, .unset] [])) rfl (hb hby own_d_method_3_code_0) _ kk) ?_
  refine OGo.step (fun _ kk => XS.lstore X0.here hx rfl (hb hby own_d_method_3_code_3) rfl (l' := #[.val (.long lim), .second, .val (.long x1), .second, .val (.long x2), .second, .val (.int fl), .val (.long (9223372036854775807 : Int64)), .second, .unset, .unset, .unset, .unset]) rfl kk) ?_
  refine OGo.step (fun _ kk => XS.iload X0.here hx rfl (hb hby own_d_method_3_code_5) rfl kk) ?_
  show OGo p e below (s₁.setTop (mkF m 7 #[.val (.long lim), .second, .val (.long x1), .second, .val (.long x2), .second, .val (.int fl), .val (.long (9223372036854775807 : Int64)), .second, .unset, .unset, .unset, .unset] [(.int fl)])) _
  by_cases hf : fl = (0 : Int32)
  · refine OGo.step (fun _ kk => XS.ifNo X0.here hx rfl (hb hby own_d_method_3_code_7) rfl ((if0 _ _).trans (teq hf).2) kk) ?_
    show OGo p e below (s₁.setTop (mkF m 10 #[.val (.long lim), .second, .val (.long x1), .second, .val (.long x2), .second, .val (.int fl), .val (.long (9223372036854775807 : Int64)), .second, .unset, .unset, .unset, .unset] [])) _
    refine OGo.step (fun _ kk => XS.lloadN X0.here hx rfl (hb hby own_d_method_3_code_10) rfl kk) ?_
    show OGo p e below (s₁.setTop (mkF m 11 #[.val (.long lim), .second, .val (.long x1), .second, .val (.long x2), .second, .val (.int fl), .val (.long (9223372036854775807 : Int64)), .second, .unset, .unset, .unset, .unset] [(.long x1)])) _
    exact own_ret X0 hx hlk hret rfl (Or.inr (Or.inl ⟨rfl, rfl, _, rfl⟩)) (hb hby own_d_method_3_code_11) ⟨_, rfl, Fr.nil n0, e0, hv⟩ (by decide) (by decide)
  · refine OGo.step (fun _ kk => XS.ifYes X0.here hx rfl (pc0 := 7) (pc' := 12) rfl (hb hby own_d_method_3_code_7) rfl ((if0 _ _).trans (feq hf).2) (by decide) (by decide) kk) ?_
    show OGo p e below (s₁.setTop (mkF m 12 #[.val (.long lim), .second, .val (.long x1), .second, .val (.long x2), .second, .val (.int fl), .val (.long (9223372036854775807 : Int64)), .second, .unset, .unset, .unset, .unset] [])) _
    refine OGo.step (fun _ kk => XS.lload X0.here hx rfl (hb hby own_d_method_3_code_12) rfl kk) ?_
    refine OGo.step (fun _ kk => X0.ldc2Long hx hown (mvT hZ (hw _ (List.mem_of_getElem? (i := 45) rfl))) (g := (mkF m 14 #[.val (.long lim), .second, .val (.long x1), .second, .val (.long x2), .second, .val (.int fl), .val (.long (9223372036854775807 : Int64)), .second, .unset, .unset, .unset, .unset] [(.long x2)])) rfl (hb hby own_d_method_3_code_14) _ kk) ?_
    refine OGo.step (fun _ kk => XS.land X0.here hx rfl (hb hby own_d_method_3_code_17) rfl kk) ?_
    refine OGo.step (fun _ kk => XS.lstore X0.here hx rfl (hb hby own_d_method_3_code_18) rfl (l' := #[.val (.long lim), .second, .val (.long x1), .second, .val (.long x2), .second, .val (.int fl), .val (.long (9223372036854775807 : Int64)), .second, .val (.long (x2 &&& (3 : Int64))), .second, .unset, .unset]) rfl kk) ?_
    refine OGo.step (fun _ kk => XS.lloadN X0.here hx rfl (hb hby own_d_method_3_code_20) rfl kk) ?_
    refine OGo.step (fun _ kk => XS.lload X0.here hx rfl (hb hby own_d_method_3_code_21) rfl kk) ?_
    refine OGo.step (fun _ kk => XS.lcmp X0.here hx rfl (hb hby own_d_method_3_code_23) rfl kk) ?_
    show OGo p e below (s₁.setTop (mkF m 24 #[.val (.long lim), .second, .val (.long x1), .second, .val (.long x2), .second, .val (.int fl), .val (.long (9223372036854775807 : Int64)), .second, .val (.long (x2 &&& (3 : Int64))), .second, .unset, .unset] [(.int (lcmpW lim (9223372036854775807 : Int64)))])) _
    have K45 : ∀ r_ : Int64, OGo p e below (s₁.setTop (mkF m 45 #[.val (.long lim), .second, .val (.long x1), .second, .val (.long x2), .second, .val (.int fl), .val (.long (9223372036854775807 : Int64)), .second, .val (.long (x2 &&& (3 : Int64))), .second, .val (.long r_), .second] [])) (OEnd s (fun v h L => ∃ r : Int64, v = some (.long r) ∧ Fr n0 L ∧ h = h0 ∧ 0 ≤ r.toInt) ({ frames := 0, cells := 0, slots := 0, locals := 0 } : Room).cells ({ frames := 0, cells := 0, slots := 0, locals := 0 } : Room).slots) := by
      intro r_
      show OGo p e below (s₁.setTop (mkF m 45 #[.val (.long lim), .second, .val (.long x1), .second, .val (.long x2), .second, .val (.int fl), .val (.long (9223372036854775807 : Int64)), .second, .val (.long (x2 &&& (3 : Int64))), .second, .val (.long r_), .second] [])) _
      refine OGo.step (fun _ kk => XS.lload X0.here hx rfl (hb hby own_d_method_3_code_45) rfl kk) ?_
      refine OGo.step (fun _ kk => XS.lconst X0.here hx rfl (hb hby own_d_method_3_code_47) kk) ?_
      refine OGo.step (fun _ kk => XS.lcmp X0.here hx rfl (hb hby own_d_method_3_code_48) rfl kk) ?_
      show OGo p e below (s₁.setTop (mkF m 49 #[.val (.long lim), .second, .val (.long x1), .second, .val (.long x2), .second, .val (.int fl), .val (.long (9223372036854775807 : Int64)), .second, .val (.long (x2 &&& (3 : Int64))), .second, .val (.long r_), .second] [(.int (lcmpW r_ (0 : Int64)))])) _
      by_cases hr : (lcmpW r_ (0 : Int64)) < (0 : Int32)
      · refine OGo.step (fun _ kk => XS.ifNo X0.here hx rfl (hb hby own_d_method_3_code_49) rfl ((if0 _ _).trans (tlt hr).2.1) kk) ?_
        show OGo p e below (s₁.setTop (mkF m 52 #[.val (.long lim), .second, .val (.long x1), .second, .val (.long x2), .second, .val (.int fl), .val (.long (9223372036854775807 : Int64)), .second, .val (.long (x2 &&& (3 : Int64))), .second, .val (.long r_), .second] [])) _
        refine OGo.step (fun _ kk => XS.lconst X0.here hx rfl (hb hby own_d_method_3_code_52) kk) ?_
        refine OGo.step (fun _ kk => XS.lstore X0.here hx rfl (hb hby own_d_method_3_code_53) rfl (l' := #[.val (.long lim), .second, .val (.long x1), .second, .val (.long x2), .second, .val (.int fl), .val (.long (9223372036854775807 : Int64)), .second, .val (.long (x2 &&& (3 : Int64))), .second, .val (.long (0 : Int64)), .second]) rfl kk) ?_
        refine OGo.step (fun _ kk => XS.lload X0.here hx rfl (hb hby own_d_method_3_code_55) rfl kk) ?_
        show OGo p e below (s₁.setTop (mkF m 57 #[.val (.long lim), .second, .val (.long x1), .second, .val (.long x2), .second, .val (.int fl), .val (.long (9223372036854775807 : Int64)), .second, .val (.long (x2 &&& (3 : Int64))), .second, .val (.long (0 : Int64)), .second] [(.long (0 : Int64))])) _
        exact own_ret X0 hx hlk hret rfl (Or.inr (Or.inl ⟨rfl, rfl, _, rfl⟩)) (hb hby own_d_method_3_code_57) ⟨_, rfl, Fr.nil n0, e0, by decide⟩ (by decide) (by decide)
      · refine OGo.step (fun _ kk => XS.ifYes X0.here hx rfl (pc0 := 49) (pc' := 55) rfl (hb hby own_d_method_3_code_49) rfl ((if0 _ _).trans (flt hr).2.1) (by decide) (by decide) kk) ?_
        show OGo p e below (s₁.setTop (mkF m 55 #[.val (.long lim), .second, .val (.long x1), .second, .val (.long x2), .second, .val (.int fl), .val (.long (9223372036854775807 : Int64)), .second, .val (.long (x2 &&& (3 : Int64))), .second, .val (.long r_), .second] [])) _
        refine OGo.step (fun _ kk => XS.lload X0.here hx rfl (hb hby own_d_method_3_code_55) rfl kk) ?_
        show OGo p e below (s₁.setTop (mkF m 57 #[.val (.long lim), .second, .val (.long x1), .second, .val (.long x2), .second, .val (.int fl), .val (.long (9223372036854775807 : Int64)), .second, .val (.long (x2 &&& (3 : Int64))), .second, .val (.long r_), .second] [(.long r_)])) _
        exact own_ret X0 hx hlk hret rfl (Or.inr (Or.inl ⟨rfl, rfl, _, rfl⟩)) (hb hby own_d_method_3_code_57) ⟨_, rfl, Fr.nil n0, e0, own_ge0 (fun z => hr ((lw_lt _ _).mpr z))⟩ (by decide) (by decide)
    by_cases hl : (lcmpW lim (9223372036854775807 : Int64)) = (0 : Int32)
    · refine OGo.step (fun _ kk => XS.ifNo X0.here hx rfl (hb hby own_d_method_3_code_24) rfl ((if0 _ _).trans (teq hl).2) kk) ?_
      show OGo p e below (s₁.setTop (mkF m 27 #[.val (.long lim), .second, .val (.long x1), .second, .val (.long x2), .second, .val (.int fl), .val (.long (9223372036854775807 : Int64)), .second, .val (.long (x2 &&& (3 : Int64))), .second, .unset, .unset] [])) _
      refine OGo.step (fun _ kk => XS.lload X0.here hx rfl (hb hby own_d_method_3_code_27) rfl kk) ?_
      refine OGo.step (fun _ kk => XS.lload X0.here hx rfl (hb hby own_d_method_3_code_29) rfl kk) ?_
      refine OGo.step (fun _ kk => XS.lsub X0.here hx rfl (hb hby own_d_method_3_code_31) rfl kk) ?_
      refine OGo.step (fun _ kk => XS.goto X0.here hx rfl (pc0 := 32) (pc' := 43) rfl (hb hby own_d_method_3_code_32) (by decide) (by decide) kk) ?_
      refine OGo.step (fun _ kk => XS.lstore X0.here hx rfl (hb hby own_d_method_3_code_43) rfl (l' := #[.val (.long lim), .second, .val (.long x1), .second, .val (.long x2), .second, .val (.int fl), .val (.long (9223372036854775807 : Int64)), .second, .val (.long (x2 &&& (3 : Int64))), .second, .val (.long ((9223372036854775807 : Int64) - (x2 &&& (3 : Int64)))), .second]) rfl kk) ?_
      show OGo p e below (s₁.setTop (mkF m 45 #[.val (.long lim), .second, .val (.long x1), .second, .val (.long x2), .second, .val (.int fl), .val (.long (9223372036854775807 : Int64)), .second, .val (.long (x2 &&& (3 : Int64))), .second, .val (.long ((9223372036854775807 : Int64) - (x2 &&& (3 : Int64)))), .second] [])) _
      exact K45 _
    · refine OGo.step (fun _ kk => XS.ifYes X0.here hx rfl (pc0 := 24) (pc' := 35) rfl (hb hby own_d_method_3_code_24) rfl ((if0 _ _).trans (feq hl).2) (by decide) (by decide) kk) ?_
      show OGo p e below (s₁.setTop (mkF m 35 #[.val (.long lim), .second, .val (.long x1), .second, .val (.long x2), .second, .val (.int fl), .val (.long (9223372036854775807 : Int64)), .second, .val (.long (x2 &&& (3 : Int64))), .second, .unset, .unset] [])) _
      refine OGo.step (fun _ kk => XS.lloadN X0.here hx rfl (hb hby own_d_method_3_code_35) rfl kk) ?_
      refine OGo.step (fun _ kk => X0.ldc2Long hx hown (mvT hZ (hw _ (List.mem_of_getElem? (i := 46) rfl))) (g := (mkF m 36 #[.val (.long lim), .second, .val (.long x1), .second, .val (.long x2), .second, .val (.int fl), .val (.long (9223372036854775807 : Int64)), .second, .val (.long (x2 &&& (3 : Int64))), .second, .unset, .unset] [(.long lim)])) rfl (hb hby own_d_method_3_code_36) _ kk) ?_
      refine OGo.step (fun _ kk => XS.lsub X0.here hx rfl (hb hby own_d_method_3_code_39) rfl kk) ?_
      refine OGo.step (fun _ kk => XS.lload X0.here hx rfl (hb hby own_d_method_3_code_40) rfl kk) ?_
      refine OGo.step (fun _ kk => XS.ladd X0.here hx rfl (hb hby own_d_method_3_code_42) rfl kk) ?_
      refine OGo.step (fun _ kk => XS.lstore X0.here hx rfl (hb hby own_d_method_3_code_43) rfl (l' := #[.val (.long lim), .second, .val (.long x1), .second, .val (.long x2), .second, .val (.int fl), .val (.long (9223372036854775807 : Int64)), .second, .val (.long (x2 &&& (3 : Int64))), .second, .val (.long ((lim - (2 : Int64)) + (x2 &&& (3 : Int64)))), .second]) rfl kk) ?_
      show OGo p e below (s₁.setTop (mkF m 45 #[.val (.long lim), .second, .val (.long x1), .second, .val (.long x2), .second, .val (.int fl), .val (.long (9223372036854775807 : Int64)), .second, .val (.long (x2 &&& (3 : Int64))), .second, .val (.long ((lim - (2 : Int64)) + (x2 &&& (3 : Int64)))), .second] [])) _
      exact K45 _

set_option maxRecDepth 65536 in
set_option maxHeartbeats 40000000 in
theorem own_maxD (l : Launch) (Z : State) (a0 : Array Value) (hw : ∀ d ∈ tables_1, d.before a0 Z = true) (ws : List Jvm.Cond) (x1 x2 : UInt64) (u1 u2 : Nat) (h0 : Heap) (n0 : Nat) (Z0 : n0 ≤ h0.size) (hA : own_U u1 x1) (hB : own_U u2 x2) :
    OMet l Z (⟨"com/example/slotwise/slotwise/search/BudgetUsedPinLaw", "maxD", "(DD)D"⟩ : MethodName) method_2_code 4 (some .double) ws ({ frames := 0, cells := 0, slots := 0, locals := 0 } : Room) #[(.double x1), (.double x2)] h0 (fun v h L => ∃ r : UInt64, v = some (.double r) ∧ Fr n0 L ∧ h = h0 ∧ own_U (max u1 u2) r) := by
  refine OMet.body (plainFor_of_name own_pn2) ?_
  intro p e s m below meth c s₁ hx hby hml hown hnm hret hlk hZ X0 e0
  refine OGo.step (fun _ kk => castTop (show entryFrame m #[(.double x1), (.double x2)] 4 = (mkF m 0 #[.val (.double x1), .second, .val (.double x2), .second] []) from by first | (simp [entryFrame, mkF, argsToLocals, Value.category]; done) | rfl) kk) ?_
  show OGo p e below (s₁.setTop (mkF m 0 #[.val (.double x1), .second, .val (.double x2), .second] [])) _
  refine OGo.step (fun _ kk => XS.dloadN X0.here hx rfl (hb hby own_d_method_2_code_0) rfl kk) ?_
  refine OGo.step (fun _ kk => XS.dloadN X0.here hx rfl (hb hby own_d_method_2_code_1) rfl kk) ?_
  refine OGo.step (fun _ kk => XS.dcmpS X0.here hx rfl (hb hby own_d_method_2_code_2) rfl rfl kk) ?_
  show OGo p e below (s₁.setTop (mkF m 3 #[.val (.double x1), .second, .val (.double x2), .second] [(.int (cmpValue (FP.dcmp x1 x2) .g))])) _
  by_cases hh : (cmpValue (FP.dcmp x1 x2) .g) < (0 : Int32)
  · refine OGo.step (fun _ kk => XS.ifNo X0.here hx rfl (hb hby own_d_method_2_code_3) rfl ((if0 _ _).trans (tlt hh).2.1) kk) ?_
    show OGo p e below (s₁.setTop (mkF m 6 #[.val (.double x1), .second, .val (.double x2), .second] [])) _
    refine OGo.step (fun _ kk => XS.dloadN X0.here hx rfl (hb hby own_d_method_2_code_6) rfl kk) ?_
    refine OGo.step (fun _ kk => XS.goto X0.here hx rfl (pc0 := 7) (pc' := 11) rfl (hb hby own_d_method_2_code_7) (by decide) (by decide) kk) ?_
    show OGo p e below (s₁.setTop (mkF m 11 #[.val (.double x1), .second, .val (.double x2), .second] [(.double x2)])) _
    exact own_ret X0 hx hlk hret rfl (Or.inr (Or.inr (Or.inl ⟨rfl, rfl, _, rfl⟩))) (hb hby own_d_method_2_code_11) ⟨_, rfl, Fr.nil n0, e0, by rw [Nat.max_eq_right (Nat.le_of_not_lt fun z => own_nlt hA hB (Nat.le_of_lt z) _ hh)]; exact hB⟩ (by decide) (by decide)
  · refine OGo.step (fun _ kk => XS.ifYes X0.here hx rfl (pc0 := 3) (pc' := 10) rfl (hb hby own_d_method_2_code_3) rfl ((if0 _ _).trans (flt hh).2.1) (by decide) (by decide) kk) ?_
    show OGo p e below (s₁.setTop (mkF m 10 #[.val (.double x1), .second, .val (.double x2), .second] [])) _
    refine OGo.step (fun _ kk => XS.dloadN X0.here hx rfl (hb hby own_d_method_2_code_10) rfl kk) ?_
    show OGo p e below (s₁.setTop (mkF m 11 #[.val (.double x1), .second, .val (.double x2), .second] [(.double x1)])) _
    exact own_ret X0 hx hlk hret rfl (Or.inr (Or.inr (Or.inl ⟨rfl, rfl, _, rfl⟩))) (hb hby own_d_method_2_code_11) ⟨_, rfl, Fr.nil n0, e0, by rw [Nat.max_eq_left (Nat.le_of_not_lt fun z => hh (own_lt hA hB z _))]; exact hA⟩ (by decide) (by decide)

set_option maxRecDepth 65536 in
set_option maxHeartbeats 40000000 in
theorem own_used (l : Launch) (Z : State) (a0 : Array Value) (hw : ∀ d ∈ tables_1, d.before a0 Z = true) (ws : List Jvm.Cond) (a : Addr) (e1_ n1_ c1 c2 : Int64) (h0 : Heap) (n0 : Nat) (Z0 : n0 ≤ h0.size) (Fe : Fld Z h0 a "com/example/slotwise/slotwise/search/Budget" "evaluations" "J" (.long e1_)) (Fn : Fld Z h0 a "com/example/slotwise/slotwise/search/Budget" "nanos" "J" (.long n1_)) (he : ¬ e1_ < 1) (hn : ¬ n1_ < 1) (hc1 : 0 ≤ c1.toInt) (hc2 : 0 ≤ c2.toInt) :
    OMet l Z (⟨"com/example/slotwise/slotwise/search/Budget", "used", "(JJ)D"⟩ : MethodName) prog_44_method_4_code 9 (some .double) ws ({ frames := 1, cells := 0, slots := 0, locals := 19 } : Room) #[(.ref a), (.long c1), (.long c2)] h0 (fun v h L => ∃ r : UInt64, v = some (.double r) ∧ Fr n0 L ∧ h = h0 ∧ own_U (min (2 ^ 1074) (max (own_uu c1 e1_) (own_uu c2 n1_))) r) := by
  refine OMet.body (plainFor_of_name own_pn1) ?_
  intro p e s m below meth c s₁ hx hby hml hown hnm hret hlk hZ X0 e0
  refine OGo.step (fun _ kk => castTop (show entryFrame m #[(.ref a), (.long c1), (.long c2)] 9 = (mkF m 0 #[.val (.ref a), .val (.long c1), .second, .val (.long c2), .second, .unset, .unset, .unset, .unset] []) from by first | (simp [entryFrame, mkF, argsToLocals, Value.category]; done) | rfl) kk) ?_
  show OGo p e below (s₁.setTop (mkF m 0 #[.val (.ref a), .val (.long c1), .second, .val (.long c2), .second, .unset, .unset, .unset, .unset] [])) _
  refine OGo.step (fun _ kk => XS.aloadN X0.here hx rfl (hb hby own_d_prog_44_method_4_code_0) rfl rfl kk) ?_
  show OGo p e below (s₁.setTop (mkF m 1 #[.val (.ref a), .val (.long c1), .second, .val (.long c2), .second, .unset, .unset, .unset, .unset] [(.ref a)])) _
  obtain ⟨T23, X23, e23, st23⟩ := getF X0 hx hZ hown (host := "") (Or.inl (hw _ (List.mem_of_getElem? (i := 20) rfl))) Via.refl e0 Fe (g := (mkF m 1 #[.val (.ref a), .val (.long c1), .second, .val (.long c2), .second, .unset, .unset, .unset, .unset] [(.ref a)])) rfl rfl (hb hby own_d_prog_44_method_4_code_1)
  refine OGo.step st23 ?_
  show OGo p e below (T23.setTop (mkF m 4 #[.val (.ref a), .val (.long c1), .second, .val (.long c2), .second, .unset, .unset, .unset, .unset] [(.long e1_)])) _
  refine OGo.step (fun _ kk => X23.ldc2Long hx hown (mvT hZ (hw _ (List.mem_of_getElem? (i := 19) rfl))) (g := (mkF m 4 #[.val (.ref a), .val (.long c1), .second, .val (.long c2), .second, .unset, .unset, .unset, .unset] [(.long e1_)])) rfl (hb hby own_d_prog_44_method_4_code_4) _ kk) ?_
  refine OGo.step (fun _ kk => XS.lcmp X23.here hx rfl (hb hby own_d_prog_44_method_4_code_7) rfl kk) ?_
  show OGo p e below (T23.setTop (mkF m 8 #[.val (.ref a), .val (.long c1), .second, .val (.long c2), .second, .unset, .unset, .unset, .unset] [(.int (lcmpW e1_ (9223372036854775807 : Int64)))])) _
  have K23 : ∀ (T : State) (X_ : UInt64), own_U (own_uu c1 e1_) X_ → Stand p l e ({ frames := 1, cells := 0, slots := 0, locals := 19 } : Room) s m #[.ref a, .long c1, .long c2] below meth c T [] 0 0 → T.heap = h0 → OGo p e below (T.setTop (mkF m 23 #[.val (.ref a), .val (.long c1), .second, .val (.long c2), .second, .unset, .unset, .unset, .unset] [(.double X_)])) (OEnd s (fun v h L => ∃ r : UInt64, v = some (.double r) ∧ Fr n0 L ∧ h = h0 ∧ own_U (min (2 ^ 1074) (max (own_uu c1 e1_) (own_uu c2 n1_))) r) ({ frames := 1, cells := 0, slots := 0, locals := 19 } : Room).cells ({ frames := 1, cells := 0, slots := 0, locals := 19 } : Room).slots) := by
    intro T X_ hX XT eT
    show OGo p e below (T.setTop (mkF m 23 #[.val (.ref a), .val (.long c1), .second, .val (.long c2), .second, .unset, .unset, .unset, .unset] [(.double X_)])) _
    refine OGo.step (fun _ kk => XS.dstore XT.here hx rfl (hb hby own_d_prog_44_method_4_code_23) rfl (l' := #[.val (.ref a), .val (.long c1), .second, .val (.long c2), .second, .val (.double X_), .second, .unset, .unset]) rfl kk) ?_
    refine OGo.step (fun _ kk => XS.aloadN XT.here hx rfl (hb hby own_d_prog_44_method_4_code_25) rfl rfl kk) ?_
    show OGo p e below (T.setTop (mkF m 26 #[.val (.ref a), .val (.long c1), .second, .val (.long c2), .second, .val (.double X_), .second, .unset, .unset] [(.ref a)])) _
    obtain ⟨T24, X24, e24, st24⟩ := getF XT hx hZ hown (host := "") (Or.inl (hw _ (List.mem_of_getElem? (i := 22) rfl))) Via.refl eT Fn (g := (mkF m 26 #[.val (.ref a), .val (.long c1), .second, .val (.long c2), .second, .val (.double X_), .second, .unset, .unset] [(.ref a)])) rfl rfl (hb hby own_d_prog_44_method_4_code_26)
    refine OGo.step st24 ?_
    show OGo p e below (T24.setTop (mkF m 29 #[.val (.ref a), .val (.long c1), .second, .val (.long c2), .second, .val (.double X_), .second, .unset, .unset] [(.long n1_)])) _
    refine OGo.step (fun _ kk => X24.ldc2Long hx hown (mvT hZ (hw _ (List.mem_of_getElem? (i := 19) rfl))) (g := (mkF m 29 #[.val (.ref a), .val (.long c1), .second, .val (.long c2), .second, .val (.double X_), .second, .unset, .unset] [(.long n1_)])) rfl (hb hby own_d_prog_44_method_4_code_29) _ kk) ?_
    refine OGo.step (fun _ kk => XS.lcmp X24.here hx rfl (hb hby own_d_prog_44_method_4_code_32) rfl kk) ?_
    show OGo p e below (T24.setTop (mkF m 33 #[.val (.ref a), .val (.long c1), .second, .val (.long c2), .second, .val (.double X_), .second, .unset, .unset] [(.int (lcmpW n1_ (9223372036854775807 : Int64)))])) _
    by_cases hk : (lcmpW n1_ (9223372036854775807 : Int64)) = (0 : Int32)
    · refine OGo.step (fun _ kk => XS.ifNo X24.here hx rfl (hb hby own_d_prog_44_method_4_code_33) rfl ((if0 _ _).trans (teq hk).2) kk) ?_
      show OGo p e below (T24.setTop (mkF m 36 #[.val (.ref a), .val (.long c1), .second, .val (.long c2), .second, .val (.double X_), .second, .unset, .unset] [])) _
      refine OGo.step (fun _ kk => XS.dconst0 X24.here hx rfl (hb hby own_d_prog_44_method_4_code_36) rfl kk) ?_
      refine OGo.step (fun _ kk => XS.goto X24.here hx rfl (pc0 := 37) (pc' := 48) rfl (hb hby own_d_prog_44_method_4_code_37) (by decide) (by decide) kk) ?_
      show OGo p e below (T24.setTop (mkF m 48 #[.val (.ref a), .val (.long c1), .second, .val (.long c2), .second, .val (.double X_), .second, .unset, .unset] [(.double FP.dconst0)])) _
      have hY := (show own_U (own_uu c2 n1_) FP.dconst0 by rw [own_uu, if_pos ((lw_eq _ _).mp hk)]; exact own_U0)
      have nX := own_nn (own_U_fits hX).2.1
      have nY := own_nn (own_U_fits hY).2.1
      refine OGo.step (fun _ kk => XS.dstore X24.here hx rfl (hb hby own_d_prog_44_method_4_code_48) rfl (l' := #[.val (.ref a), .val (.long c1), .second, .val (.long c2), .second, .val (.double X_), .second, .val (.double FP.dconst0), .second]) rfl kk) ?_
      refine OGo.step (fun _ kk => XS.dconst1 X24.here hx rfl (hb hby own_d_prog_44_method_4_code_50) rfl kk) ?_
      refine OGo.step (fun _ kk => XS.dload X24.here hx rfl (hb hby own_d_prog_44_method_4_code_51) rfl kk) ?_
      refine OGo.step (fun _ kk => XS.dload X24.here hx rfl (hb hby own_d_prog_44_method_4_code_53) rfl kk) ?_
      show OGo p e below (T24.setTop (mkF m 55 #[.val (.ref a), .val (.long c1), .second, .val (.long c2), .second, .val (.double X_), .second, .val (.double FP.dconst0), .second] [(.double FP.dconst0), (.double X_), (.double FP.dconst1)])) _
      refine own_callSK X24 hx hZ (y := (⟨"java/lang/Math", "max", "(DD)D"⟩ : MethodName)) hown (hw _ (List.mem_of_getElem? (i := 35) rfl)) (hw _ (List.mem_of_getElem? (i := 36) rfl)) (hw _ (List.mem_of_getElem? (i := 3) rfl)) (hw _ (List.mem_of_getElem? (i := 37) rfl)) (by decide) (W := 2) (own_maxB (W := 2) hZ (hw _ (List.mem_of_getElem? (i := 37) rfl)) (by decide) (by decide) nX nY) e24 (pc := 55) (Ls := #[.val (.ref a), .val (.long c1), .second, .val (.long c2), .second, .val (.double X_), .second, .val (.double FP.dconst0), .second]) (argsL := [(.double X_), (.double FP.dconst0)]) (rest := [(.double FP.dconst1)]) (by rw [hml]; rfl) (lenOf own_pd1 rfl) rfl (hb hby own_d_prog_44_method_4_code_55) (by decide) (by decide) ?_
      intro v25 T25 L25 X25 hQ25
      obtain ⟨rfl, l25, e25⟩ := hQ25
      show OGo p e below (T25.setTop (mkF m 58 #[.val (.ref a), .val (.long c1), .second, .val (.long c2), .second, .val (.double X_), .second, .val (.double FP.dconst0), .second] [(.double (pick64 true X_ FP.dconst0)), (.double FP.dconst1)])) _
      subst l25
      refine own_callSK X25 hx hZ (y := (⟨"java/lang/Math", "min", "(DD)D"⟩ : MethodName)) hown (hw _ (List.mem_of_getElem? (i := 38) rfl)) (hw _ (List.mem_of_getElem? (i := 39) rfl)) (hw _ (List.mem_of_getElem? (i := 3) rfl)) (hw _ (List.mem_of_getElem? (i := 40) rfl)) (by decide) (W := 0) (own_minB (W := 0) hZ (hw _ (List.mem_of_getElem? (i := 40) rfl)) (by decide) (by decide) (own_nn (own_U_fits own_U1).2.1) (own_nn (own_U_fits (own_pmax hX hY)).2.1)) e25 (pc := 58) (Ls := #[.val (.ref a), .val (.long c1), .second, .val (.long c2), .second, .val (.double X_), .second, .val (.double FP.dconst0), .second]) (argsL := [(.double FP.dconst1), (.double (pick64 true X_ FP.dconst0))]) (rest := []) (by rw [hml]; rfl) (lenOf own_pd1 rfl) rfl (hb hby own_d_prog_44_method_4_code_58) (by decide) (by decide) ?_
      intro v26 T26 L26 X26 hQ26
      obtain ⟨rfl, l26, e26⟩ := hQ26
      show OGo p e below (T26.setTop (mkF m 61 #[.val (.ref a), .val (.long c1), .second, .val (.long c2), .second, .val (.double X_), .second, .val (.double FP.dconst0), .second] [(.double (pick64 false FP.dconst1 (pick64 true X_ FP.dconst0)))])) _
      subst l26
      exact own_ret X26 hx hlk hret rfl (Or.inr (Or.inr (Or.inl ⟨rfl, rfl, _, rfl⟩))) (hb hby own_d_prog_44_method_4_code_61) ⟨_, rfl, Fr.nil n0, e26, own_pmin own_U1 (own_pmax hX hY)⟩ (by decide) (by decide)
    · refine OGo.step (fun _ kk => XS.ifYes X24.here hx rfl (pc0 := 33) (pc' := 40) rfl (hb hby own_d_prog_44_method_4_code_33) rfl ((if0 _ _).trans (feq hk).2) (by decide) (by decide) kk) ?_
      show OGo p e below (T24.setTop (mkF m 40 #[.val (.ref a), .val (.long c1), .second, .val (.long c2), .second, .val (.double X_), .second, .unset, .unset] [])) _
      refine OGo.step (fun _ kk => XS.lloadN X24.here hx rfl (hb hby own_d_prog_44_method_4_code_40) rfl kk) ?_
      refine OGo.step (fun _ kk => XS.l2dS X24.here hx rfl (hb hby own_d_prog_44_method_4_code_41) rfl rfl kk) ?_
      refine OGo.step (fun _ kk => XS.aloadN X24.here hx rfl (hb hby own_d_prog_44_method_4_code_42) rfl rfl kk) ?_
      show OGo p e below (T24.setTop (mkF m 43 #[.val (.ref a), .val (.long c1), .second, .val (.long c2), .second, .val (.double X_), .second, .unset, .unset] [(.ref a), (.double (FP.l2d c2))])) _
      obtain ⟨T27, X27, e27, st27⟩ := getF X24 hx hZ hown (host := "") (Or.inl (hw _ (List.mem_of_getElem? (i := 22) rfl))) Via.refl e24 Fn (g := (mkF m 43 #[.val (.ref a), .val (.long c1), .second, .val (.long c2), .second, .val (.double X_), .second, .unset, .unset] [(.ref a), (.double (FP.l2d c2))])) rfl rfl (hb hby own_d_prog_44_method_4_code_43)
      refine OGo.step st27 ?_
      show OGo p e below (T27.setTop (mkF m 46 #[.val (.ref a), .val (.long c1), .second, .val (.long c2), .second, .val (.double X_), .second, .unset, .unset] [(.long n1_), (.double (FP.l2d c2))])) _
      refine OGo.step (fun _ kk => XS.l2dS X27.here hx rfl (hb hby own_d_prog_44_method_4_code_46) rfl rfl kk) ?_
      show OGo p e below (T27.setTop (mkF m 47 #[.val (.ref a), .val (.long c1), .second, .val (.long c2), .second, .val (.double X_), .second, .unset, .unset] [(.double (FP.l2d n1_)), (.double (FP.l2d c2))])) _
      have hq := own_qU hc2 (own_ge hn)
      refine OGo.step (fun _ kk => XS.ddivS X27.here hx rfl (hb hby own_d_prog_44_method_4_code_47) rfl (own_nn (own_U_fits hq).2.1) rfl kk) ?_
      show OGo p e below (T27.setTop (mkF m 48 #[.val (.ref a), .val (.long c1), .second, .val (.long c2), .second, .val (.double X_), .second, .unset, .unset] [(.double (FP.ddiv (FP.l2d c2) (FP.l2d n1_)))])) _
      have hY := (show own_U (own_uu c2 n1_) (FP.ddiv (FP.l2d c2) (FP.l2d n1_)) by rw [own_uu, if_neg (fun z => hk ((lw_eq _ _).mpr z))]; exact hq)
      have nX := own_nn (own_U_fits hX).2.1
      have nY := own_nn (own_U_fits hY).2.1
      refine OGo.step (fun _ kk => XS.dstore X27.here hx rfl (hb hby own_d_prog_44_method_4_code_48) rfl (l' := #[.val (.ref a), .val (.long c1), .second, .val (.long c2), .second, .val (.double X_), .second, .val (.double (FP.ddiv (FP.l2d c2) (FP.l2d n1_))), .second]) rfl kk) ?_
      refine OGo.step (fun _ kk => XS.dconst1 X27.here hx rfl (hb hby own_d_prog_44_method_4_code_50) rfl kk) ?_
      refine OGo.step (fun _ kk => XS.dload X27.here hx rfl (hb hby own_d_prog_44_method_4_code_51) rfl kk) ?_
      refine OGo.step (fun _ kk => XS.dload X27.here hx rfl (hb hby own_d_prog_44_method_4_code_53) rfl kk) ?_
      show OGo p e below (T27.setTop (mkF m 55 #[.val (.ref a), .val (.long c1), .second, .val (.long c2), .second, .val (.double X_), .second, .val (.double (FP.ddiv (FP.l2d c2) (FP.l2d n1_))), .second] [(.double (FP.ddiv (FP.l2d c2) (FP.l2d n1_))), (.double X_), (.double FP.dconst1)])) _
      refine own_callSK X27 hx hZ (y := (⟨"java/lang/Math", "max", "(DD)D"⟩ : MethodName)) hown (hw _ (List.mem_of_getElem? (i := 35) rfl)) (hw _ (List.mem_of_getElem? (i := 36) rfl)) (hw _ (List.mem_of_getElem? (i := 3) rfl)) (hw _ (List.mem_of_getElem? (i := 37) rfl)) (by decide) (W := 2) (own_maxB (W := 2) hZ (hw _ (List.mem_of_getElem? (i := 37) rfl)) (by decide) (by decide) nX nY) e27 (pc := 55) (Ls := #[.val (.ref a), .val (.long c1), .second, .val (.long c2), .second, .val (.double X_), .second, .val (.double (FP.ddiv (FP.l2d c2) (FP.l2d n1_))), .second]) (argsL := [(.double X_), (.double (FP.ddiv (FP.l2d c2) (FP.l2d n1_)))]) (rest := [(.double FP.dconst1)]) (by rw [hml]; rfl) (lenOf own_pd1 rfl) rfl (hb hby own_d_prog_44_method_4_code_55) (by decide) (by decide) ?_
      intro v28 T28 L28 X28 hQ28
      obtain ⟨rfl, l28, e28⟩ := hQ28
      show OGo p e below (T28.setTop (mkF m 58 #[.val (.ref a), .val (.long c1), .second, .val (.long c2), .second, .val (.double X_), .second, .val (.double (FP.ddiv (FP.l2d c2) (FP.l2d n1_))), .second] [(.double (pick64 true X_ (FP.ddiv (FP.l2d c2) (FP.l2d n1_)))), (.double FP.dconst1)])) _
      subst l28
      refine own_callSK X28 hx hZ (y := (⟨"java/lang/Math", "min", "(DD)D"⟩ : MethodName)) hown (hw _ (List.mem_of_getElem? (i := 38) rfl)) (hw _ (List.mem_of_getElem? (i := 39) rfl)) (hw _ (List.mem_of_getElem? (i := 3) rfl)) (hw _ (List.mem_of_getElem? (i := 40) rfl)) (by decide) (W := 0) (own_minB (W := 0) hZ (hw _ (List.mem_of_getElem? (i := 40) rfl)) (by decide) (by decide) (own_nn (own_U_fits own_U1).2.1) (own_nn (own_U_fits (own_pmax hX hY)).2.1)) e28 (pc := 58) (Ls := #[.val (.ref a), .val (.long c1), .second, .val (.long c2), .second, .val (.double X_), .second, .val (.double (FP.ddiv (FP.l2d c2) (FP.l2d n1_))), .second]) (argsL := [(.double FP.dconst1), (.double (pick64 true X_ (FP.ddiv (FP.l2d c2) (FP.l2d n1_))))]) (rest := []) (by rw [hml]; rfl) (lenOf own_pd1 rfl) rfl (hb hby own_d_prog_44_method_4_code_58) (by decide) (by decide) ?_
      intro v29 T29 L29 X29 hQ29
      obtain ⟨rfl, l29, e29⟩ := hQ29
      show OGo p e below (T29.setTop (mkF m 61 #[.val (.ref a), .val (.long c1), .second, .val (.long c2), .second, .val (.double X_), .second, .val (.double (FP.ddiv (FP.l2d c2) (FP.l2d n1_))), .second] [(.double (pick64 false FP.dconst1 (pick64 true X_ (FP.ddiv (FP.l2d c2) (FP.l2d n1_)))))])) _
      subst l29
      exact own_ret X29 hx hlk hret rfl (Or.inr (Or.inr (Or.inl ⟨rfl, rfl, _, rfl⟩))) (hb hby own_d_prog_44_method_4_code_61) ⟨_, rfl, Fr.nil n0, e29, own_pmin own_U1 (own_pmax hX hY)⟩ (by decide) (by decide)
  by_cases hh : (lcmpW e1_ (9223372036854775807 : Int64)) = (0 : Int32)
  · refine OGo.step (fun _ kk => XS.ifNo X23.here hx rfl (hb hby own_d_prog_44_method_4_code_8) rfl ((if0 _ _).trans (teq hh).2) kk) ?_
    show OGo p e below (T23.setTop (mkF m 11 #[.val (.ref a), .val (.long c1), .second, .val (.long c2), .second, .unset, .unset, .unset, .unset] [])) _
    refine OGo.step (fun _ kk => XS.dconst0 X23.here hx rfl (hb hby own_d_prog_44_method_4_code_11) rfl kk) ?_
    refine OGo.step (fun _ kk => XS.goto X23.here hx rfl (pc0 := 12) (pc' := 23) rfl (hb hby own_d_prog_44_method_4_code_12) (by decide) (by decide) kk) ?_
    show OGo p e below (T23.setTop (mkF m 23 #[.val (.ref a), .val (.long c1), .second, .val (.long c2), .second, .unset, .unset, .unset, .unset] [(.double FP.dconst0)])) _
    exact K23 _ _ (by rw [own_uu, if_pos ((lw_eq _ _).mp hh)]; exact own_U0) X23 e23
  · refine OGo.step (fun _ kk => XS.ifYes X23.here hx rfl (pc0 := 8) (pc' := 15) rfl (hb hby own_d_prog_44_method_4_code_8) rfl ((if0 _ _).trans (feq hh).2) (by decide) (by decide) kk) ?_
    show OGo p e below (T23.setTop (mkF m 15 #[.val (.ref a), .val (.long c1), .second, .val (.long c2), .second, .unset, .unset, .unset, .unset] [])) _
    refine OGo.step (fun _ kk => XS.lloadN X23.here hx rfl (hb hby own_d_prog_44_method_4_code_15) rfl kk) ?_
    refine OGo.step (fun _ kk => XS.l2dS X23.here hx rfl (hb hby own_d_prog_44_method_4_code_16) rfl rfl kk) ?_
    refine OGo.step (fun _ kk => XS.aloadN X23.here hx rfl (hb hby own_d_prog_44_method_4_code_17) rfl rfl kk) ?_
    show OGo p e below (T23.setTop (mkF m 18 #[.val (.ref a), .val (.long c1), .second, .val (.long c2), .second, .unset, .unset, .unset, .unset] [(.ref a), (.double (FP.l2d c1))])) _
    obtain ⟨T30, X30, e30, st30⟩ := getF X23 hx hZ hown (host := "") (Or.inl (hw _ (List.mem_of_getElem? (i := 20) rfl))) Via.refl e23 Fe (g := (mkF m 18 #[.val (.ref a), .val (.long c1), .second, .val (.long c2), .second, .unset, .unset, .unset, .unset] [(.ref a), (.double (FP.l2d c1))])) rfl rfl (hb hby own_d_prog_44_method_4_code_18)
    refine OGo.step st30 ?_
    show OGo p e below (T30.setTop (mkF m 21 #[.val (.ref a), .val (.long c1), .second, .val (.long c2), .second, .unset, .unset, .unset, .unset] [(.long e1_), (.double (FP.l2d c1))])) _
    refine OGo.step (fun _ kk => XS.l2dS X30.here hx rfl (hb hby own_d_prog_44_method_4_code_21) rfl rfl kk) ?_
    show OGo p e below (T30.setTop (mkF m 22 #[.val (.ref a), .val (.long c1), .second, .val (.long c2), .second, .unset, .unset, .unset, .unset] [(.double (FP.l2d e1_)), (.double (FP.l2d c1))])) _
    have hq := own_qU hc1 (own_ge he)
    refine OGo.step (fun _ kk => XS.ddivS X30.here hx rfl (hb hby own_d_prog_44_method_4_code_22) rfl (own_nn (own_U_fits hq).2.1) rfl kk) ?_
    show OGo p e below (T30.setTop (mkF m 23 #[.val (.ref a), .val (.long c1), .second, .val (.long c2), .second, .unset, .unset, .unset, .unset] [(.double (FP.ddiv (FP.l2d c1) (FP.l2d e1_)))])) _
    exact K23 _ _ (by rw [own_uu, if_neg (fun z => hh ((lw_eq _ _).mpr z))]; exact hq) X30 e30

set_option maxRecDepth 65536 in
set_option maxHeartbeats 40000000 in
theorem own_rm0 (l : Launch) (Z : State) (a0 : Array Value) (hw : ∀ d ∈ tables_1, d.before a0 Z = true) (ws : List Jvm.Cond) (q1 q2 q3 q4 : Int64) (p1 : Int32) (h0 : Heap) (n0 : Nat) (Z0 : n0 ≤ h0.size)  :
    OMet l Z x code maxLocals ret ws room_1 #[(.long q1), (.long q2), (.long q3), (.long q4), (.int p1)] h0 (fun v h L => v = some (.int (1 : Int32)) ∧ Fr n0 L) := by
  refine OMet.body (plainFor_of_name own_pn2) ?_
  intro p e s m below meth c s₁ hx hby hml hown hnm hret hlk hZ X0 e0
  have hml : c.maxLocals = 41 := hml
  refine OGo.step (fun _ kk => castTop (show entryFrame m #[(.long q1), (.long q2), (.long q3), (.long q4), (.int p1)] maxLocals = (mkF m 0 #[.val (.long q1), .second, .val (.long q2), .second, .val (.long q3), .second, .val (.long q4), .second, .val (.int p1), .unset, .unset, .unset, .unset, .unset, .unset, .unset, .unset, .unset, .unset, .unset, .unset, .unset, .unset, .unset, .unset, .unset, .unset, .unset, .unset, .unset, .unset, .unset, .unset, .unset, .unset, .unset, .unset, .unset, .unset, .unset, .unset] []) from by first | (simp [entryFrame, mkF, argsToLocals, Value.category, maxLocals]; done) | rfl) kk) ?_
  show OGo p e below (s₁.setTop (mkF m 0 #[.val (.long q1), .second, .val (.long q2), .second, .val (.long q3), .second, .val (.long q4), .second, .val (.int p1), .unset, .unset, .unset, .unset, .unset, .unset, .unset, .unset, .unset, .unset, .unset, .unset, .unset, .unset, .unset, .unset, .unset, .unset, .unset, .unset, .unset, .unset, .unset, .unset, .unset, .unset, .unset, .unset, .unset, .unset, .unset, .unset] [])) _
  refine OGo.step (fun _ kk => X0.ldc2Long hx hown (mvT hZ (hw _ (List.mem_of_getElem? (i := 0) rfl))) (g := (mkF m 0 #[.val (.long q1), .second, .val (.long q2), .second, .val (.long q3), .second, .val (.long q4), .second, .val (.int p1), .unset, .unset, .unset, .unset, .unset, .unset, .unset, .unset, .unset, .unset, .unset, .unset, .unset, .unset, .unset, .unset, .unset, .unset, .unset, .unset, .unset, .unset, .unset, .unset, .unset, .unset, .unset, .unset, .unset, .unset, .unset, .unset] [])) rfl (hb hby at_0) _ kk) ?_
  refine OGo.step (fun _ kk => XS.lstore X0.here hx rfl (hb hby at_3) rfl (l' := #[.val (.long q1), .second, .val (.long q2), .second, .val (.long q3), .second, .val (.long q4), .second, .val (.int p1), .val (.long (9223372036854775807 : Int64)), .second, .unset, .unset, .unset, .unset, .unset, .unset, .unset, .unset, .unset, .unset, .unset, .unset, .unset, .unset, .unset, .unset, .unset, .unset, .unset, .unset, .unset, .unset, .unset, .unset, .unset, .unset, .unset, .unset, .unset, .unset]) rfl kk) ?_
  refine OGo.step (fun _ kk => XS.lconst X0.here hx rfl (hb hby at_5) kk) ?_
  refine OGo.step (fun _ kk => XS.lloadN X0.here hx rfl (hb hby at_6) rfl kk) ?_
  refine OGo.step (fun _ kk => XS.lload X0.here hx rfl (hb hby at_7) rfl kk) ?_
  refine OGo.step (fun _ kk => XS.land X0.here hx rfl (hb hby at_9) rfl kk) ?_
  show OGo p e below (s₁.setTop (mkF m 10 #[.val (.long q1), .second, .val (.long q2), .second, .val (.long q3), .second, .val (.long q4), .second, .val (.int p1), .val (.long (9223372036854775807 : Int64)), .second, .unset, .unset, .unset, .unset, .unset, .unset, .unset, .unset, .unset, .unset, .unset, .unset, .unset, .unset, .unset, .unset, .unset, .unset, .unset, .unset, .unset, .unset, .unset, .unset, .unset, .unset, .unset, .unset, .unset, .unset] [(.long (q1 &&& (9223372036854775807 : Int64))), (.long (1 : Int64))])) _
  refine own_callS X0 hx hZ (y := (⟨"java/lang/Math", "max", "(JJ)J"⟩ : MethodName)) hown (hw _ (List.mem_of_getElem? (i := 1) rfl)) (hw _ (List.mem_of_getElem? (i := 2) rfl)) (hw _ (List.mem_of_getElem? (i := 3) rfl)) (hw _ (List.mem_of_getElem? (i := 4) rfl)) (by decide) (W := 0) (own_maxJ l Z a0 hw [] (1 : Int64) (q1 &&& (9223372036854775807 : Int64)) h0 n0 Z0) e0  (pc := 10) (Ls := #[.val (.long q1), .second, .val (.long q2), .second, .val (.long q3), .second, .val (.long q4), .second, .val (.int p1), .val (.long (9223372036854775807 : Int64)), .second, .unset, .unset, .unset, .unset, .unset, .unset, .unset, .unset, .unset, .unset, .unset, .unset, .unset, .unset, .unset, .unset, .unset, .unset, .unset, .unset, .unset, .unset, .unset, .unset, .unset, .unset, .unset, .unset, .unset, .unset]) (argsL := [(.long (1 : Int64)), (.long (q1 &&& (9223372036854775807 : Int64)))]) (rest := []) (by rw [hml]; rfl) (lenOf own_pd2 rfl) rfl (hb hby at_10) (by decide) (by decide) (by decide) (by decide) ?_
  intro v31 T31 L31 X31 hQ31
  obtain ⟨rfl, N31, e31⟩ := hQ31
  show OGo p e below (T31.setTop (mkF m 13 #[.val (.long q1), .second, .val (.long q2), .second, .val (.long q3), .second, .val (.long q4), .second, .val (.int p1), .val (.long (9223372036854775807 : Int64)), .second, .unset, .unset, .unset, .unset, .unset, .unset, .unset, .unset, .unset, .unset, .unset, .unset, .unset, .unset, .unset, .unset, .unset, .unset, .unset, .unset, .unset, .unset, .unset, .unset, .unset, .unset, .unset, .unset, .unset, .unset] [(.long (if (1 : Int64) < (q1 &&& (9223372036854775807 : Int64)) then (q1 &&& (9223372036854775807 : Int64)) else 1))])) _
  have Nc31 := Fr.app (Fr.nil n0) N31
  have hE_ := own_mx (q1 &&& (9223372036854775807 : Int64))
  obtain ⟨E_0, eE_⟩ : ∃ z, z = (if (1 : Int64) < (q1 &&& (9223372036854775807 : Int64)) then (q1 &&& (9223372036854775807 : Int64)) else 1) := ⟨_, rfl⟩
  rw [← eE_] at hE_
  rw [← eE_]
  show OGo p e below (T31.setTop (mkF m 13 #[.val (.long q1), .second, .val (.long q2), .second, .val (.long q3), .second, .val (.long q4), .second, .val (.int p1), .val (.long (9223372036854775807 : Int64)), .second, .unset, .unset, .unset, .unset, .unset, .unset, .unset, .unset, .unset, .unset, .unset, .unset, .unset, .unset, .unset, .unset, .unset, .unset, .unset, .unset, .unset, .unset, .unset, .unset, .unset, .unset, .unset, .unset, .unset, .unset] [(.long E_0)])) _
  refine OGo.step (fun _ kk => XS.lstore X31.here hx rfl (hb hby at_13) rfl (l' := #[.val (.long q1), .second, .val (.long q2), .second, .val (.long q3), .second, .val (.long q4), .second, .val (.int p1), .val (.long (9223372036854775807 : Int64)), .second, .val (.long E_0), .second, .unset, .unset, .unset, .unset, .unset, .unset, .unset, .unset, .unset, .unset, .unset, .unset, .unset, .unset, .unset, .unset, .unset, .unset, .unset, .unset, .unset, .unset, .unset, .unset, .unset, .unset, .unset, .unset]) rfl kk) ?_
  refine OGo.step (fun _ kk => XS.lconst X31.here hx rfl (hb hby at_15) kk) ?_
  refine OGo.step (fun _ kk => XS.lloadN X31.here hx rfl (hb hby at_16) rfl kk) ?_
  refine OGo.step (fun _ kk => XS.lload X31.here hx rfl (hb hby at_17) rfl kk) ?_
  refine OGo.step (fun _ kk => XS.land X31.here hx rfl (hb hby at_19) rfl kk) ?_
  show OGo p e below (T31.setTop (mkF m 20 #[.val (.long q1), .second, .val (.long q2), .second, .val (.long q3), .second, .val (.long q4), .second, .val (.int p1), .val (.long (9223372036854775807 : Int64)), .second, .val (.long E_0), .second, .unset, .unset, .unset, .unset, .unset, .unset, .unset, .unset, .unset, .unset, .unset, .unset, .unset, .unset, .unset, .unset, .unset, .unset, .unset, .unset, .unset, .unset, .unset, .unset, .unset, .unset, .unset, .unset] [(.long (q2 &&& (9223372036854775807 : Int64))), (.long (1 : Int64))])) _
  refine own_callS X31 hx hZ (y := (⟨"java/lang/Math", "max", "(JJ)J"⟩ : MethodName)) hown (hw _ (List.mem_of_getElem? (i := 1) rfl)) (hw _ (List.mem_of_getElem? (i := 2) rfl)) (hw _ (List.mem_of_getElem? (i := 3) rfl)) (hw _ (List.mem_of_getElem? (i := 4) rfl)) (by decide) (W := 0) (own_maxJ l Z a0 hw [] (1 : Int64) (q2 &&& (9223372036854775807 : Int64)) h0 n0 Z0) e31  (pc := 20) (Ls := #[.val (.long q1), .second, .val (.long q2), .second, .val (.long q3), .second, .val (.long q4), .second, .val (.int p1), .val (.long (9223372036854775807 : Int64)), .second, .val (.long E_0), .second, .unset, .unset, .unset, .unset, .unset, .unset, .unset, .unset, .unset, .unset, .unset, .unset, .unset, .unset, .unset, .unset, .unset, .unset, .unset, .unset, .unset, .unset, .unset, .unset, .unset, .unset, .unset, .unset]) (argsL := [(.long (1 : Int64)), (.long (q2 &&& (9223372036854775807 : Int64)))]) (rest := []) (by rw [hml]; rfl) (lenOf own_pd2 rfl) rfl (hb hby at_20) (by decide) (by decide) (by decide) (by decide) ?_
  intro v32 T32 L32 X32 hQ32
  obtain ⟨rfl, N32, e32⟩ := hQ32
  show OGo p e below (T32.setTop (mkF m 23 #[.val (.long q1), .second, .val (.long q2), .second, .val (.long q3), .second, .val (.long q4), .second, .val (.int p1), .val (.long (9223372036854775807 : Int64)), .second, .val (.long E_0), .second, .unset, .unset, .unset, .unset, .unset, .unset, .unset, .unset, .unset, .unset, .unset, .unset, .unset, .unset, .unset, .unset, .unset, .unset, .unset, .unset, .unset, .unset, .unset, .unset, .unset, .unset, .unset, .unset] [(.long (if (1 : Int64) < (q2 &&& (9223372036854775807 : Int64)) then (q2 &&& (9223372036854775807 : Int64)) else 1))])) _
  have Nc32 := Fr.app Nc31 N32
  have hN_ := own_mx (q2 &&& (9223372036854775807 : Int64))
  obtain ⟨N_0, eN_⟩ : ∃ z, z = (if (1 : Int64) < (q2 &&& (9223372036854775807 : Int64)) then (q2 &&& (9223372036854775807 : Int64)) else 1) := ⟨_, rfl⟩
  rw [← eN_] at hN_
  rw [← eN_]
  show OGo p e below (T32.setTop (mkF m 23 #[.val (.long q1), .second, .val (.long q2), .second, .val (.long q3), .second, .val (.long q4), .second, .val (.int p1), .val (.long (9223372036854775807 : Int64)), .second, .val (.long E_0), .second, .unset, .unset, .unset, .unset, .unset, .unset, .unset, .unset, .unset, .unset, .unset, .unset, .unset, .unset, .unset, .unset, .unset, .unset, .unset, .unset, .unset, .unset, .unset, .unset, .unset, .unset, .unset, .unset] [(.long N_0)])) _
  refine OGo.step (fun _ kk => XS.lstore X32.here hx rfl (hb hby at_23) rfl (l' := #[.val (.long q1), .second, .val (.long q2), .second, .val (.long q3), .second, .val (.long q4), .second, .val (.int p1), .val (.long (9223372036854775807 : Int64)), .second, .val (.long E_0), .second, .val (.long N_0), .second, .unset, .unset, .unset, .unset, .unset, .unset, .unset, .unset, .unset, .unset, .unset, .unset, .unset, .unset, .unset, .unset, .unset, .unset, .unset, .unset, .unset, .unset, .unset, .unset, .unset, .unset]) rfl kk) ?_
  refine OGo.step (fun _ kk => XS.iload X32.here hx rfl (hb hby at_25) rfl kk) ?_
  refine OGo.step (fun _ kk => XS.iconst X32.here hx rfl (hb hby at_27) kk) ?_
  refine OGo.step (fun _ kk => XS.iand X32.here hx rfl (hb hby at_28) rfl kk) ?_
  show OGo p e below (T32.setTop (mkF m 29 #[.val (.long q1), .second, .val (.long q2), .second, .val (.long q3), .second, .val (.long q4), .second, .val (.int p1), .val (.long (9223372036854775807 : Int64)), .second, .val (.long E_0), .second, .val (.long N_0), .second, .unset, .unset, .unset, .unset, .unset, .unset, .unset, .unset, .unset, .unset, .unset, .unset, .unset, .unset, .unset, .unset, .unset, .unset, .unset, .unset, .unset, .unset, .unset, .unset, .unset, .unset] [(.int (p1 &&& (1 : Int32)))])) _
  have K50 : ∀ E1_ N1_ : Int64, ¬ E1_ < 1 → ¬ N1_ < 1 → OGo p e below (T32.setTop (mkF m 50 #[.val (.long q1), .second, .val (.long q2), .second, .val (.long q3), .second, .val (.long q4), .second, .val (.int p1), .val (.long (9223372036854775807 : Int64)), .second, .val (.long E1_), .second, .val (.long N1_), .second, .unset, .unset, .unset, .unset, .unset, .unset, .unset, .unset, .unset, .unset, .unset, .unset, .unset, .unset, .unset, .unset, .unset, .unset, .unset, .unset, .unset, .unset, .unset, .unset, .unset, .unset] [])) (OEnd s (fun v h L => v = some (.int (1 : Int32)) ∧ Fr n0 L) room_1.cells room_1.slots) := by
    intro E1_ N1_ he hn
    show OGo p e below (T32.setTop (mkF m 50 #[.val (.long q1), .second, .val (.long q2), .second, .val (.long q3), .second, .val (.long q4), .second, .val (.int p1), .val (.long (9223372036854775807 : Int64)), .second, .val (.long E1_), .second, .val (.long N1_), .second, .unset, .unset, .unset, .unset, .unset, .unset, .unset, .unset, .unset, .unset, .unset, .unset, .unset, .unset, .unset, .unset, .unset, .unset, .unset, .unset, .unset, .unset, .unset, .unset, .unset, .unset] [])) _
    have K72 : ∀ N2_ : Int64, ¬ N2_ < 1 → ¬ (E1_ = (9223372036854775807 : Int64) ∧ N2_ = (9223372036854775807 : Int64)) → OGo p e below (T32.setTop (mkF m 72 #[.val (.long q1), .second, .val (.long q2), .second, .val (.long q3), .second, .val (.long q4), .second, .val (.int p1), .val (.long (9223372036854775807 : Int64)), .second, .val (.long E1_), .second, .val (.long N2_), .second, .unset, .unset, .unset, .unset, .unset, .unset, .unset, .unset, .unset, .unset, .unset, .unset, .unset, .unset, .unset, .unset, .unset, .unset, .unset, .unset, .unset, .unset, .unset, .unset, .unset, .unset] [])) (OEnd s (fun v h L => v = some (.int (1 : Int32)) ∧ Fr n0 L) room_1.cells room_1.slots) := by
      intro N2_ hn2 hb_
      show OGo p e below (T32.setTop (mkF m 72 #[.val (.long q1), .second, .val (.long q2), .second, .val (.long q3), .second, .val (.long q4), .second, .val (.int p1), .val (.long (9223372036854775807 : Int64)), .second, .val (.long E1_), .second, .val (.long N2_), .second, .unset, .unset, .unset, .unset, .unset, .unset, .unset, .unset, .unset, .unset, .unset, .unset, .unset, .unset, .unset, .unset, .unset, .unset, .unset, .unset, .unset, .unset, .unset, .unset, .unset, .unset] [])) _
      obtain ⟨T33, h33, X33, e33, E33, A33, D33, U33, st33⟩ := newO X32 hx hZ hown (hw _ (List.mem_of_getElem? (i := 5) rfl)) (hw _ (List.mem_of_getElem? (i := 6) rfl)) (hw _ (List.mem_of_getElem? (i := 7) rfl)) e32 (g := (mkF m 72 #[.val (.long q1), .second, .val (.long q2), .second, .val (.long q3), .second, .val (.long q4), .second, .val (.int p1), .val (.long (9223372036854775807 : Int64)), .second, .val (.long E1_), .second, .val (.long N2_), .second, .unset, .unset, .unset, .unset, .unset, .unset, .unset, .unset, .unset, .unset, .unset, .unset, .unset, .unset, .unset, .unset, .unset, .unset, .unset, .unset, .unset, .unset, .unset, .unset, .unset, .unset] [])) rfl (hb hby at_72) (by decide) (by decide)
      obtain ⟨b, g33⟩ : ∃ z, z = h0.size := ⟨_, rfl⟩
      rw [← g33] at A33 D33 U33 st33
      refine OGo.step st33 ?_
      show OGo p e below (T33.setTop (mkF m 75 #[.val (.long q1), .second, .val (.long q2), .second, .val (.long q3), .second, .val (.long q4), .second, .val (.int p1), .val (.long (9223372036854775807 : Int64)), .second, .val (.long E1_), .second, .val (.long N2_), .second, .unset, .unset, .unset, .unset, .unset, .unset, .unset, .unset, .unset, .unset, .unset, .unset, .unset, .unset, .unset, .unset, .unset, .unset, .unset, .unset, .unset, .unset, .unset, .unset, .unset, .unset] [(.ref b)])) _
      have gf_b : n0 ≤ b := Nat.le_trans Z0 (Nat.le_of_eq g33.symm)
      have sz33 : n0 ≤ h33.size := Nat.le_trans Z0 E33.1
      have F33_evaluations : Fld Z h33 b "com/example/slotwise/slotwise/search/Budget" "evaluations" "J" (.long (0 : Int64)) := D33 (Or.inr (hw _ (List.mem_of_getElem? (i := 21) rfl))) (ty := .long) (by decide)
      have F33_nanos : Fld Z h33 b "com/example/slotwise/slotwise/search/Budget" "nanos" "J" (.long (0 : Int64)) := D33 (Or.inr (hw _ (List.mem_of_getElem? (i := 23) rfl))) (ty := .long) (by decide)
      have F33_stopWhenFeasible : Fld Z h33 b "com/example/slotwise/slotwise/search/Budget" "stopWhenFeasible" "Z" (.int (0 : Int32)) := D33 (Or.inr (hw _ (List.mem_of_getElem? (i := 25) rfl))) (ty := .boolean) (by decide)
      refine OGo.step (fun _ kk => XS.dup X33.here hx rfl (hb hby at_75) rfl rfl kk) ?_
      refine OGo.step (fun _ kk => XS.lload X33.here hx rfl (hb hby at_76) rfl kk) ?_
      refine OGo.step (fun _ kk => XS.lload X33.here hx rfl (hb hby at_78) rfl kk) ?_
      refine OGo.step (fun _ kk => XS.iload X33.here hx rfl (hb hby at_80) rfl kk) ?_
      refine OGo.step (fun _ kk => XS.iconst X33.here hx rfl (hb hby at_82) kk) ?_
      refine OGo.step (fun _ kk => XS.iand X33.here hx rfl (hb hby at_83) rfl kk) ?_
      show OGo p e below (T33.setTop (mkF m 84 #[.val (.long q1), .second, .val (.long q2), .second, .val (.long q3), .second, .val (.long q4), .second, .val (.int p1), .val (.long (9223372036854775807 : Int64)), .second, .val (.long E1_), .second, .val (.long N2_), .second, .unset, .unset, .unset, .unset, .unset, .unset, .unset, .unset, .unset, .unset, .unset, .unset, .unset, .unset, .unset, .unset, .unset, .unset, .unset, .unset, .unset, .unset, .unset, .unset, .unset, .unset] [(.int (p1 &&& (4 : Int32))), (.long N2_), (.long E1_), (.ref b), (.ref b)])) _
      have K92 : ∀ fl : Int32, OGo p e below (T33.setTop (mkF m 92 #[.val (.long q1), .second, .val (.long q2), .second, .val (.long q3), .second, .val (.long q4), .second, .val (.int p1), .val (.long (9223372036854775807 : Int64)), .second, .val (.long E1_), .second, .val (.long N2_), .second, .unset, .unset, .unset, .unset, .unset, .unset, .unset, .unset, .unset, .unset, .unset, .unset, .unset, .unset, .unset, .unset, .unset, .unset, .unset, .unset, .unset, .unset, .unset, .unset, .unset, .unset] [(.int fl), (.long N2_), (.long E1_), (.ref b), (.ref b)])) (OEnd s (fun v h L => v = some (.int (1 : Int32)) ∧ Fr n0 L) room_1.cells room_1.slots) := by
        intro fl
        show OGo p e below (T33.setTop (mkF m 92 #[.val (.long q1), .second, .val (.long q2), .second, .val (.long q3), .second, .val (.long q4), .second, .val (.int p1), .val (.long (9223372036854775807 : Int64)), .second, .val (.long E1_), .second, .val (.long N2_), .second, .unset, .unset, .unset, .unset, .unset, .unset, .unset, .unset, .unset, .unset, .unset, .unset, .unset, .unset, .unset, .unset, .unset, .unset, .unset, .unset, .unset, .unset, .unset, .unset, .unset, .unset] [(.int fl), (.long N2_), (.long E1_), (.ref b), (.ref b)])) _
        refine own_special X33 hx hZ (y := (⟨"com/example/slotwise/slotwise/search/Budget", "<init>", "(JJZ)V"⟩ : MethodName)) rfl hown (hw _ (List.mem_of_getElem? (i := 8) rfl)) (hw _ (List.mem_of_getElem? (i := 9) rfl)) (hw _ (List.mem_of_getElem? (i := 10) rfl)) (hw _ (List.mem_of_getElem? (i := 7) rfl)) (by decide) (a := b) (W := 1) (own_binit l Z a0 hw [] b E1_ N2_ fl h33 n0 sz33 A33 F33_evaluations F33_nanos F33_stopWhenFeasible gf_b he hn2 hb_) e33  (pc := 92) (Ls := #[.val (.long q1), .second, .val (.long q2), .second, .val (.long q3), .second, .val (.long q4), .second, .val (.int p1), .val (.long (9223372036854775807 : Int64)), .second, .val (.long E1_), .second, .val (.long N2_), .second, .unset, .unset, .unset, .unset, .unset, .unset, .unset, .unset, .unset, .unset, .unset, .unset, .unset, .unset, .unset, .unset, .unset, .unset, .unset, .unset, .unset, .unset, .unset, .unset, .unset, .unset]) (argsL := [(.long E1_), (.long N2_), (.int fl)]) (rest := [(.ref b)]) (by rw [hml]; rfl) (lenOf own_pd3 rfl) rfl (hb hby at_92) (by decide) (by decide) (by decide) (by decide) ?_
        intro v34 T34 L34 X34 hQ34
        obtain ⟨rfl, N34, K34, Eb, Fe, Fn⟩ := hQ34
        show OGo p e below (T34.setTop (mkF m 95 #[.val (.long q1), .second, .val (.long q2), .second, .val (.long q3), .second, .val (.long q4), .second, .val (.int p1), .val (.long (9223372036854775807 : Int64)), .second, .val (.long E1_), .second, .val (.long N2_), .second, .unset, .unset, .unset, .unset, .unset, .unset, .unset, .unset, .unset, .unset, .unset, .unset, .unset, .unset, .unset, .unset, .unset, .unset, .unset, .unset, .unset, .unset, .unset, .unset, .unset, .unset] [(.ref b)])) _
        have Nc34 := Fr.app Nc32 N34
        have sz34 : n0 ≤ T34.heap.size := Nat.le_trans sz33 K34.1
        refine OGo.step (fun _ kk => XS.astore X34.here hx rfl (hb hby at_95) rfl rfl (l' := #[.val (.long q1), .second, .val (.long q2), .second, .val (.long q3), .second, .val (.long q4), .second, .val (.int p1), .val (.long (9223372036854775807 : Int64)), .second, .val (.long E1_), .second, .val (.long N2_), .second, .val (.ref b), .unset, .unset, .unset, .unset, .unset, .unset, .unset, .unset, .unset, .unset, .unset, .unset, .unset, .unset, .unset, .unset, .unset, .unset, .unset, .unset, .unset, .unset, .unset, .unset, .unset]) rfl kk) ?_
        refine OGo.step (fun _ kk => XS.lload X34.here hx rfl (hb hby at_97) rfl kk) ?_
        refine OGo.step (fun _ kk => XS.lload X34.here hx rfl (hb hby at_99) rfl kk) ?_
        refine OGo.step (fun _ kk => XS.lload X34.here hx rfl (hb hby at_101) rfl kk) ?_
        refine OGo.step (fun _ kk => XS.land X34.here hx rfl (hb hby at_103) rfl kk) ?_
        refine OGo.step (fun _ kk => XS.lload X34.here hx rfl (hb hby at_104) rfl kk) ?_
        refine OGo.step (fun _ kk => XS.iload X34.here hx rfl (hb hby at_106) rfl kk) ?_
        refine OGo.step (fun _ kk => XS.bipush X34.here hx rfl (hb hby at_108) kk) ?_
        refine OGo.step (fun _ kk => XS.iand X34.here hx rfl (hb hby at_110) rfl kk) ?_
        show OGo p e below (T34.setTop (mkF m 111 #[.val (.long q1), .second, .val (.long q2), .second, .val (.long q3), .second, .val (.long q4), .second, .val (.int p1), .val (.long (9223372036854775807 : Int64)), .second, .val (.long E1_), .second, .val (.long N2_), .second, .val (.ref b), .unset, .unset, .unset, .unset, .unset, .unset, .unset, .unset, .unset, .unset, .unset, .unset, .unset, .unset, .unset, .unset, .unset, .unset, .unset, .unset, .unset, .unset, .unset, .unset, .unset] [(.int (p1 &&& (8 : Int32))), (.long q3), (.long (q3 &&& (9223372036854775807 : Int64))), (.long E1_)])) _
        have K119 : ∀ f2 : Int32, OGo p e below (T34.setTop (mkF m 119 #[.val (.long q1), .second, .val (.long q2), .second, .val (.long q3), .second, .val (.long q4), .second, .val (.int p1), .val (.long (9223372036854775807 : Int64)), .second, .val (.long E1_), .second, .val (.long N2_), .second, .val (.ref b), .unset, .unset, .unset, .unset, .unset, .unset, .unset, .unset, .unset, .unset, .unset, .unset, .unset, .unset, .unset, .unset, .unset, .unset, .unset, .unset, .unset, .unset, .unset, .unset, .unset] [(.int f2), (.long q3), (.long (q3 &&& (9223372036854775807 : Int64))), (.long E1_)])) (OEnd s (fun v h L => v = some (.int (1 : Int32)) ∧ Fr n0 L) room_1.cells room_1.slots) := by
          intro f2
          show OGo p e below (T34.setTop (mkF m 119 #[.val (.long q1), .second, .val (.long q2), .second, .val (.long q3), .second, .val (.long q4), .second, .val (.int p1), .val (.long (9223372036854775807 : Int64)), .second, .val (.long E1_), .second, .val (.long N2_), .second, .val (.ref b), .unset, .unset, .unset, .unset, .unset, .unset, .unset, .unset, .unset, .unset, .unset, .unset, .unset, .unset, .unset, .unset, .unset, .unset, .unset, .unset, .unset, .unset, .unset, .unset, .unset] [(.int f2), (.long q3), (.long (q3 &&& (9223372036854775807 : Int64))), (.long E1_)])) _
          refine own_callS X34 hx hZ (y := (⟨"com/example/slotwise/slotwise/search/BudgetUsedPinLaw", "near", "(JJJZ)J"⟩ : MethodName)) hown (hw _ (List.mem_of_getElem? (i := 26) rfl)) (hw _ (List.mem_of_getElem? (i := 27) rfl)) (hw _ (List.mem_of_getElem? (i := 28) rfl)) (hw _ (List.mem_of_getElem? (i := 29) rfl)) (by decide) (W := 0) (own_near l Z a0 hw [] E1_ (q3 &&& (9223372036854775807 : Int64)) q3 f2 T34.heap n0 sz34 (own_msk _)) rfl  (pc := 119) (Ls := #[.val (.long q1), .second, .val (.long q2), .second, .val (.long q3), .second, .val (.long q4), .second, .val (.int p1), .val (.long (9223372036854775807 : Int64)), .second, .val (.long E1_), .second, .val (.long N2_), .second, .val (.ref b), .unset, .unset, .unset, .unset, .unset, .unset, .unset, .unset, .unset, .unset, .unset, .unset, .unset, .unset, .unset, .unset, .unset, .unset, .unset, .unset, .unset, .unset, .unset, .unset, .unset]) (argsL := [(.long E1_), (.long (q3 &&& (9223372036854775807 : Int64))), (.long q3), (.int f2)]) (rest := []) (by rw [hml]; rfl) (lenOf own_pd4 rfl) rfl (hb hby at_119) (by decide) (by decide) (by decide) (by decide) ?_
          intro v35 T35 L35 X35 hQ35
          obtain ⟨ec, rfl, N35, e35, hec⟩ := hQ35
          show OGo p e below (T35.setTop (mkF m 122 #[.val (.long q1), .second, .val (.long q2), .second, .val (.long q3), .second, .val (.long q4), .second, .val (.int p1), .val (.long (9223372036854775807 : Int64)), .second, .val (.long E1_), .second, .val (.long N2_), .second, .val (.ref b), .unset, .unset, .unset, .unset, .unset, .unset, .unset, .unset, .unset, .unset, .unset, .unset, .unset, .unset, .unset, .unset, .unset, .unset, .unset, .unset, .unset, .unset, .unset, .unset, .unset] [(.long ec)])) _
          have Nc35 := Fr.app Nc34 N35
          refine OGo.step (fun _ kk => XS.lstore X35.here hx rfl (hb hby at_122) rfl (l' := #[.val (.long q1), .second, .val (.long q2), .second, .val (.long q3), .second, .val (.long q4), .second, .val (.int p1), .val (.long (9223372036854775807 : Int64)), .second, .val (.long E1_), .second, .val (.long N2_), .second, .val (.ref b), .val (.long ec), .second, .unset, .unset, .unset, .unset, .unset, .unset, .unset, .unset, .unset, .unset, .unset, .unset, .unset, .unset, .unset, .unset, .unset, .unset, .unset, .unset, .unset, .unset, .unset]) rfl kk) ?_
          refine OGo.step (fun _ kk => XS.lload X35.here hx rfl (hb hby at_124) rfl kk) ?_
          refine OGo.step (fun _ kk => XS.lload X35.here hx rfl (hb hby at_126) rfl kk) ?_
          refine OGo.step (fun _ kk => XS.lload X35.here hx rfl (hb hby at_128) rfl kk) ?_
          refine OGo.step (fun _ kk => XS.land X35.here hx rfl (hb hby at_130) rfl kk) ?_
          refine OGo.step (fun _ kk => XS.lload X35.here hx rfl (hb hby at_131) rfl kk) ?_
          refine OGo.step (fun _ kk => XS.iload X35.here hx rfl (hb hby at_133) rfl kk) ?_
          refine OGo.step (fun _ kk => XS.bipush X35.here hx rfl (hb hby at_135) kk) ?_
          refine OGo.step (fun _ kk => XS.iand X35.here hx rfl (hb hby at_137) rfl kk) ?_
          show OGo p e below (T35.setTop (mkF m 138 #[.val (.long q1), .second, .val (.long q2), .second, .val (.long q3), .second, .val (.long q4), .second, .val (.int p1), .val (.long (9223372036854775807 : Int64)), .second, .val (.long E1_), .second, .val (.long N2_), .second, .val (.ref b), .val (.long ec), .second, .unset, .unset, .unset, .unset, .unset, .unset, .unset, .unset, .unset, .unset, .unset, .unset, .unset, .unset, .unset, .unset, .unset, .unset, .unset, .unset, .unset, .unset, .unset] [(.int (p1 &&& (16 : Int32))), (.long q4), (.long (q4 &&& (9223372036854775807 : Int64))), (.long N2_)])) _
          have K146 : ∀ f3 : Int32, OGo p e below (T35.setTop (mkF m 146 #[.val (.long q1), .second, .val (.long q2), .second, .val (.long q3), .second, .val (.long q4), .second, .val (.int p1), .val (.long (9223372036854775807 : Int64)), .second, .val (.long E1_), .second, .val (.long N2_), .second, .val (.ref b), .val (.long ec), .second, .unset, .unset, .unset, .unset, .unset, .unset, .unset, .unset, .unset, .unset, .unset, .unset, .unset, .unset, .unset, .unset, .unset, .unset, .unset, .unset, .unset, .unset, .unset] [(.int f3), (.long q4), (.long (q4 &&& (9223372036854775807 : Int64))), (.long N2_)])) (OEnd s (fun v h L => v = some (.int (1 : Int32)) ∧ Fr n0 L) room_1.cells room_1.slots) := by
            intro f3
            show OGo p e below (T35.setTop (mkF m 146 #[.val (.long q1), .second, .val (.long q2), .second, .val (.long q3), .second, .val (.long q4), .second, .val (.int p1), .val (.long (9223372036854775807 : Int64)), .second, .val (.long E1_), .second, .val (.long N2_), .second, .val (.ref b), .val (.long ec), .second, .unset, .unset, .unset, .unset, .unset, .unset, .unset, .unset, .unset, .unset, .unset, .unset, .unset, .unset, .unset, .unset, .unset, .unset, .unset, .unset, .unset, .unset, .unset] [(.int f3), (.long q4), (.long (q4 &&& (9223372036854775807 : Int64))), (.long N2_)])) _
            refine own_callS X35 hx hZ (y := (⟨"com/example/slotwise/slotwise/search/BudgetUsedPinLaw", "near", "(JJJZ)J"⟩ : MethodName)) hown (hw _ (List.mem_of_getElem? (i := 26) rfl)) (hw _ (List.mem_of_getElem? (i := 27) rfl)) (hw _ (List.mem_of_getElem? (i := 28) rfl)) (hw _ (List.mem_of_getElem? (i := 29) rfl)) (by decide) (W := 0) (own_near l Z a0 hw [] N2_ (q4 &&& (9223372036854775807 : Int64)) q4 f3 T34.heap n0 sz34 (own_msk _)) e35  (pc := 146) (Ls := #[.val (.long q1), .second, .val (.long q2), .second, .val (.long q3), .second, .val (.long q4), .second, .val (.int p1), .val (.long (9223372036854775807 : Int64)), .second, .val (.long E1_), .second, .val (.long N2_), .second, .val (.ref b), .val (.long ec), .second, .unset, .unset, .unset, .unset, .unset, .unset, .unset, .unset, .unset, .unset, .unset, .unset, .unset, .unset, .unset, .unset, .unset, .unset, .unset, .unset, .unset, .unset, .unset]) (argsL := [(.long N2_), (.long (q4 &&& (9223372036854775807 : Int64))), (.long q4), (.int f3)]) (rest := []) (by rw [hml]; rfl) (lenOf own_pd4 rfl) rfl (hb hby at_146) (by decide) (by decide) (by decide) (by decide) ?_
            intro v36 T36 L36 X36 hQ36
            obtain ⟨nc, rfl, N36, e36, hnc⟩ := hQ36
            show OGo p e below (T36.setTop (mkF m 149 #[.val (.long q1), .second, .val (.long q2), .second, .val (.long q3), .second, .val (.long q4), .second, .val (.int p1), .val (.long (9223372036854775807 : Int64)), .second, .val (.long E1_), .second, .val (.long N2_), .second, .val (.ref b), .val (.long ec), .second, .unset, .unset, .unset, .unset, .unset, .unset, .unset, .unset, .unset, .unset, .unset, .unset, .unset, .unset, .unset, .unset, .unset, .unset, .unset, .unset, .unset, .unset, .unset] [(.long nc)])) _
            have Nc36 := Fr.app Nc35 N36
            refine OGo.step (fun _ kk => XS.lstore X36.here hx rfl (hb hby at_149) rfl (l' := #[.val (.long q1), .second, .val (.long q2), .second, .val (.long q3), .second, .val (.long q4), .second, .val (.int p1), .val (.long (9223372036854775807 : Int64)), .second, .val (.long E1_), .second, .val (.long N2_), .second, .val (.ref b), .val (.long ec), .second, .val (.long nc), .second, .unset, .unset, .unset, .unset, .unset, .unset, .unset, .unset, .unset, .unset, .unset, .unset, .unset, .unset, .unset, .unset, .unset, .unset, .unset, .unset, .unset]) rfl kk) ?_
            refine OGo.step (fun _ kk => XS.lload X36.here hx rfl (hb hby at_151) rfl kk) ?_
            refine OGo.step (fun _ kk => XS.iconst X36.here hx rfl (hb hby at_153) kk) ?_
            refine OGo.step (fun _ kk => XS.lshr X36.here hx rfl (hb hby at_154) rfl kk) ?_
            refine OGo.step (fun _ kk => XS.lstore X36.here hx rfl (hb hby at_155) rfl (l' := #[.val (.long q1), .second, .val (.long q2), .second, .val (.long q3), .second, .val (.long q4), .second, .val (.int p1), .val (.long (9223372036854775807 : Int64)), .second, .val (.long E1_), .second, .val (.long N2_), .second, .val (.ref b), .val (.long ec), .second, .val (.long nc), .second, .val (.long (E1_ >>> ((1 : Int32) &&& 0x3f).toInt64)), .second, .unset, .unset, .unset, .unset, .unset, .unset, .unset, .unset, .unset, .unset, .unset, .unset, .unset, .unset, .unset, .unset, .unset, .unset, .unset]) rfl kk) ?_
            refine OGo.step (fun _ kk => XS.lload X36.here hx rfl (hb hby at_157) rfl kk) ?_
            refine OGo.step (fun _ kk => XS.iconst X36.here hx rfl (hb hby at_159) kk) ?_
            refine OGo.step (fun _ kk => XS.lshr X36.here hx rfl (hb hby at_160) rfl kk) ?_
            refine OGo.step (fun _ kk => XS.lstore X36.here hx rfl (hb hby at_161) rfl (l' := #[.val (.long q1), .second, .val (.long q2), .second, .val (.long q3), .second, .val (.long q4), .second, .val (.int p1), .val (.long (9223372036854775807 : Int64)), .second, .val (.long E1_), .second, .val (.long N2_), .second, .val (.ref b), .val (.long ec), .second, .val (.long nc), .second, .val (.long (E1_ >>> ((1 : Int32) &&& 0x3f).toInt64)), .second, .val (.long (N2_ >>> ((1 : Int32) &&& 0x3f).toInt64)), .second, .unset, .unset, .unset, .unset, .unset, .unset, .unset, .unset, .unset, .unset, .unset, .unset, .unset, .unset, .unset, .unset, .unset]) rfl kk) ?_
            show OGo p e below (T36.setTop (mkF m 163 #[.val (.long q1), .second, .val (.long q2), .second, .val (.long q3), .second, .val (.long q4), .second, .val (.int p1), .val (.long (9223372036854775807 : Int64)), .second, .val (.long E1_), .second, .val (.long N2_), .second, .val (.ref b), .val (.long ec), .second, .val (.long nc), .second, .val (.long (E1_ >>> ((1 : Int32) &&& 0x3f).toInt64)), .second, .val (.long (N2_ >>> ((1 : Int32) &&& 0x3f).toInt64)), .second, .unset, .unset, .unset, .unset, .unset, .unset, .unset, .unset, .unset, .unset, .unset, .unset, .unset, .unset, .unset, .unset, .unset] [])) _
            have gE := own_ge he
            have gN := own_ge hn2
            have h00 : 0 ≤ (0 : Int64).toInt := by decide
            refine OGo.step (fun _ kk => XS.aload X36.here hx rfl (hb hby at_163) rfl rfl kk) ?_
            refine OGo.step (fun _ kk => XS.lload X36.here hx rfl (hb hby at_165) rfl kk) ?_
            refine OGo.step (fun _ kk => XS.lload X36.here hx rfl (hb hby at_167) rfl kk) ?_
            show OGo p e below (T36.setTop (mkF m 169 #[.val (.long q1), .second, .val (.long q2), .second, .val (.long q3), .second, .val (.long q4), .second, .val (.int p1), .val (.long (9223372036854775807 : Int64)), .second, .val (.long E1_), .second, .val (.long N2_), .second, .val (.ref b), .val (.long ec), .second, .val (.long nc), .second, .val (.long (E1_ >>> ((1 : Int32) &&& 0x3f).toInt64)), .second, .val (.long (N2_ >>> ((1 : Int32) &&& 0x3f).toInt64)), .second, .unset, .unset, .unset, .unset, .unset, .unset, .unset, .unset, .unset, .unset, .unset, .unset, .unset, .unset, .unset, .unset, .unset] [(.long nc), (.long ec), (.ref b)])) _
            refine own_virtual X36 hx hZ (y := (⟨"com/example/slotwise/slotwise/search/Budget", "used", "(JJ)D"⟩ : MethodName)) (z := (⟨"com/example/slotwise/slotwise/search/Budget", "used", "(JJ)D"⟩ : MethodName)) hown (hw _ (List.mem_of_getElem? (i := 30) rfl)) (hw _ (List.mem_of_getElem? (i := 31) rfl)) (notFace_of_selects (args := #[]) (mvT hZ (hw _ (List.mem_of_getElem? (i := 33) rfl)))) (hw _ (List.mem_of_getElem? (i := 33) rfl)) (hw _ (List.mem_of_getElem? (i := 32) rfl)) (by decide) (hw _ (List.mem_of_getElem? (i := 34) rfl)) (hw _ (List.mem_of_getElem? (i := 7) rfl)) (b := b) Eb (W := 0) (own_used l Z a0 hw [] b E1_ N2_ ec nc T34.heap n0 sz34 Fe Fn he hn2 hec hnc) e36  (pc := 169) (Ls := #[.val (.long q1), .second, .val (.long q2), .second, .val (.long q3), .second, .val (.long q4), .second, .val (.int p1), .val (.long (9223372036854775807 : Int64)), .second, .val (.long E1_), .second, .val (.long N2_), .second, .val (.ref b), .val (.long ec), .second, .val (.long nc), .second, .val (.long (E1_ >>> ((1 : Int32) &&& 0x3f).toInt64)), .second, .val (.long (N2_ >>> ((1 : Int32) &&& 0x3f).toInt64)), .second, .unset, .unset, .unset, .unset, .unset, .unset, .unset, .unset, .unset, .unset, .unset, .unset, .unset, .unset, .unset, .unset, .unset]) (argsL := [(.long ec), (.long nc)]) (rest := []) (by rw [hml]; rfl) (lenOf own_pd5 rfl) rfl (hb hby at_169) (by decide) (by decide) (by decide) (by decide) ?_
            intro v37 T37 L37 X37 hQ37
            obtain ⟨r24, rfl, N37, e37, U24⟩ := hQ37
            show OGo p e below (T37.setTop (mkF m 172 #[.val (.long q1), .second, .val (.long q2), .second, .val (.long q3), .second, .val (.long q4), .second, .val (.int p1), .val (.long (9223372036854775807 : Int64)), .second, .val (.long E1_), .second, .val (.long N2_), .second, .val (.ref b), .val (.long ec), .second, .val (.long nc), .second, .val (.long (E1_ >>> ((1 : Int32) &&& 0x3f).toInt64)), .second, .val (.long (N2_ >>> ((1 : Int32) &&& 0x3f).toInt64)), .second, .unset, .unset, .unset, .unset, .unset, .unset, .unset, .unset, .unset, .unset, .unset, .unset, .unset, .unset, .unset, .unset, .unset] [(.double r24)])) _
            have Nc37 := Fr.app Nc36 N37
            refine OGo.step (fun _ kk => XS.dstore X37.here hx rfl (hb hby at_172) rfl (l' := #[.val (.long q1), .second, .val (.long q2), .second, .val (.long q3), .second, .val (.long q4), .second, .val (.int p1), .val (.long (9223372036854775807 : Int64)), .second, .val (.long E1_), .second, .val (.long N2_), .second, .val (.ref b), .val (.long ec), .second, .val (.long nc), .second, .val (.long (E1_ >>> ((1 : Int32) &&& 0x3f).toInt64)), .second, .val (.long (N2_ >>> ((1 : Int32) &&& 0x3f).toInt64)), .second, .val (.double r24), .second, .unset, .unset, .unset, .unset, .unset, .unset, .unset, .unset, .unset, .unset, .unset, .unset, .unset, .unset, .unset]) rfl kk) ?_
            refine OGo.step (fun _ kk => XS.aload X37.here hx rfl (hb hby at_174) rfl rfl kk) ?_
            refine OGo.step (fun _ kk => XS.lload X37.here hx rfl (hb hby at_176) rfl kk) ?_
            refine OGo.step (fun _ kk => XS.lconst X37.here hx rfl (hb hby at_178) kk) ?_
            show OGo p e below (T37.setTop (mkF m 179 #[.val (.long q1), .second, .val (.long q2), .second, .val (.long q3), .second, .val (.long q4), .second, .val (.int p1), .val (.long (9223372036854775807 : Int64)), .second, .val (.long E1_), .second, .val (.long N2_), .second, .val (.ref b), .val (.long ec), .second, .val (.long nc), .second, .val (.long (E1_ >>> ((1 : Int32) &&& 0x3f).toInt64)), .second, .val (.long (N2_ >>> ((1 : Int32) &&& 0x3f).toInt64)), .second, .val (.double r24), .second, .unset, .unset, .unset, .unset, .unset, .unset, .unset, .unset, .unset, .unset, .unset, .unset, .unset, .unset, .unset] [(.long (0 : Int64)), (.long ec), (.ref b)])) _
            refine own_virtual X37 hx hZ (y := (⟨"com/example/slotwise/slotwise/search/Budget", "used", "(JJ)D"⟩ : MethodName)) (z := (⟨"com/example/slotwise/slotwise/search/Budget", "used", "(JJ)D"⟩ : MethodName)) hown (hw _ (List.mem_of_getElem? (i := 30) rfl)) (hw _ (List.mem_of_getElem? (i := 31) rfl)) (notFace_of_selects (args := #[]) (mvT hZ (hw _ (List.mem_of_getElem? (i := 33) rfl)))) (hw _ (List.mem_of_getElem? (i := 33) rfl)) (hw _ (List.mem_of_getElem? (i := 32) rfl)) (by decide) (hw _ (List.mem_of_getElem? (i := 34) rfl)) (hw _ (List.mem_of_getElem? (i := 7) rfl)) (b := b) Eb (W := 0) (own_used l Z a0 hw [] b E1_ N2_ ec (0 : Int64) T34.heap n0 sz34 Fe Fn he hn2 hec h00) e37  (pc := 179) (Ls := #[.val (.long q1), .second, .val (.long q2), .second, .val (.long q3), .second, .val (.long q4), .second, .val (.int p1), .val (.long (9223372036854775807 : Int64)), .second, .val (.long E1_), .second, .val (.long N2_), .second, .val (.ref b), .val (.long ec), .second, .val (.long nc), .second, .val (.long (E1_ >>> ((1 : Int32) &&& 0x3f).toInt64)), .second, .val (.long (N2_ >>> ((1 : Int32) &&& 0x3f).toInt64)), .second, .val (.double r24), .second, .unset, .unset, .unset, .unset, .unset, .unset, .unset, .unset, .unset, .unset, .unset, .unset, .unset, .unset, .unset]) (argsL := [(.long ec), (.long (0 : Int64))]) (rest := []) (by rw [hml]; rfl) (lenOf own_pd5 rfl) rfl (hb hby at_179) (by decide) (by decide) (by decide) (by decide) ?_
            intro v38 T38 L38 X38 hQ38
            obtain ⟨r26, rfl, N38, e38, U26⟩ := hQ38
            show OGo p e below (T38.setTop (mkF m 182 #[.val (.long q1), .second, .val (.long q2), .second, .val (.long q3), .second, .val (.long q4), .second, .val (.int p1), .val (.long (9223372036854775807 : Int64)), .second, .val (.long E1_), .second, .val (.long N2_), .second, .val (.ref b), .val (.long ec), .second, .val (.long nc), .second, .val (.long (E1_ >>> ((1 : Int32) &&& 0x3f).toInt64)), .second, .val (.long (N2_ >>> ((1 : Int32) &&& 0x3f).toInt64)), .second, .val (.double r24), .second, .unset, .unset, .unset, .unset, .unset, .unset, .unset, .unset, .unset, .unset, .unset, .unset, .unset, .unset, .unset] [(.double r26)])) _
            have Nc38 := Fr.app Nc37 N38
            rw [own_uu0 gN, Nat.max_zero] at U26
            refine OGo.step (fun _ kk => XS.dstore X38.here hx rfl (hb hby at_182) rfl (l' := #[.val (.long q1), .second, .val (.long q2), .second, .val (.long q3), .second, .val (.long q4), .second, .val (.int p1), .val (.long (9223372036854775807 : Int64)), .second, .val (.long E1_), .second, .val (.long N2_), .second, .val (.ref b), .val (.long ec), .second, .val (.long nc), .second, .val (.long (E1_ >>> ((1 : Int32) &&& 0x3f).toInt64)), .second, .val (.long (N2_ >>> ((1 : Int32) &&& 0x3f).toInt64)), .second, .val (.double r24), .second, .val (.double r26), .second, .unset, .unset, .unset, .unset, .unset, .unset, .unset, .unset, .unset, .unset, .unset, .unset, .unset]) rfl kk) ?_
            refine OGo.step (fun _ kk => XS.aload X38.here hx rfl (hb hby at_184) rfl rfl kk) ?_
            refine OGo.step (fun _ kk => XS.lconst X38.here hx rfl (hb hby at_186) kk) ?_
            refine OGo.step (fun _ kk => XS.lload X38.here hx rfl (hb hby at_187) rfl kk) ?_
            show OGo p e below (T38.setTop (mkF m 189 #[.val (.long q1), .second, .val (.long q2), .second, .val (.long q3), .second, .val (.long q4), .second, .val (.int p1), .val (.long (9223372036854775807 : Int64)), .second, .val (.long E1_), .second, .val (.long N2_), .second, .val (.ref b), .val (.long ec), .second, .val (.long nc), .second, .val (.long (E1_ >>> ((1 : Int32) &&& 0x3f).toInt64)), .second, .val (.long (N2_ >>> ((1 : Int32) &&& 0x3f).toInt64)), .second, .val (.double r24), .second, .val (.double r26), .second, .unset, .unset, .unset, .unset, .unset, .unset, .unset, .unset, .unset, .unset, .unset, .unset, .unset] [(.long nc), (.long (0 : Int64)), (.ref b)])) _
            refine own_virtual X38 hx hZ (y := (⟨"com/example/slotwise/slotwise/search/Budget", "used", "(JJ)D"⟩ : MethodName)) (z := (⟨"com/example/slotwise/slotwise/search/Budget", "used", "(JJ)D"⟩ : MethodName)) hown (hw _ (List.mem_of_getElem? (i := 30) rfl)) (hw _ (List.mem_of_getElem? (i := 31) rfl)) (notFace_of_selects (args := #[]) (mvT hZ (hw _ (List.mem_of_getElem? (i := 33) rfl)))) (hw _ (List.mem_of_getElem? (i := 33) rfl)) (hw _ (List.mem_of_getElem? (i := 32) rfl)) (by decide) (hw _ (List.mem_of_getElem? (i := 34) rfl)) (hw _ (List.mem_of_getElem? (i := 7) rfl)) (b := b) Eb (W := 0) (own_used l Z a0 hw [] b E1_ N2_ (0 : Int64) nc T34.heap n0 sz34 Fe Fn he hn2 h00 hnc) e38  (pc := 189) (Ls := #[.val (.long q1), .second, .val (.long q2), .second, .val (.long q3), .second, .val (.long q4), .second, .val (.int p1), .val (.long (9223372036854775807 : Int64)), .second, .val (.long E1_), .second, .val (.long N2_), .second, .val (.ref b), .val (.long ec), .second, .val (.long nc), .second, .val (.long (E1_ >>> ((1 : Int32) &&& 0x3f).toInt64)), .second, .val (.long (N2_ >>> ((1 : Int32) &&& 0x3f).toInt64)), .second, .val (.double r24), .second, .val (.double r26), .second, .unset, .unset, .unset, .unset, .unset, .unset, .unset, .unset, .unset, .unset, .unset, .unset, .unset]) (argsL := [(.long (0 : Int64)), (.long nc)]) (rest := []) (by rw [hml]; rfl) (lenOf own_pd5 rfl) rfl (hb hby at_189) (by decide) (by decide) (by decide) (by decide) ?_
            intro v39 T39 L39 X39 hQ39
            obtain ⟨r28, rfl, N39, e39, U28⟩ := hQ39
            show OGo p e below (T39.setTop (mkF m 192 #[.val (.long q1), .second, .val (.long q2), .second, .val (.long q3), .second, .val (.long q4), .second, .val (.int p1), .val (.long (9223372036854775807 : Int64)), .second, .val (.long E1_), .second, .val (.long N2_), .second, .val (.ref b), .val (.long ec), .second, .val (.long nc), .second, .val (.long (E1_ >>> ((1 : Int32) &&& 0x3f).toInt64)), .second, .val (.long (N2_ >>> ((1 : Int32) &&& 0x3f).toInt64)), .second, .val (.double r24), .second, .val (.double r26), .second, .unset, .unset, .unset, .unset, .unset, .unset, .unset, .unset, .unset, .unset, .unset, .unset, .unset] [(.double r28)])) _
            have Nc39 := Fr.app Nc38 N39
            rw [own_uu0 gE, Nat.zero_max] at U28
            refine OGo.step (fun _ kk => XS.dstore X39.here hx rfl (hb hby at_192) rfl (l' := #[.val (.long q1), .second, .val (.long q2), .second, .val (.long q3), .second, .val (.long q4), .second, .val (.int p1), .val (.long (9223372036854775807 : Int64)), .second, .val (.long E1_), .second, .val (.long N2_), .second, .val (.ref b), .val (.long ec), .second, .val (.long nc), .second, .val (.long (E1_ >>> ((1 : Int32) &&& 0x3f).toInt64)), .second, .val (.long (N2_ >>> ((1 : Int32) &&& 0x3f).toInt64)), .second, .val (.double r24), .second, .val (.double r26), .second, .val (.double r28), .second, .unset, .unset, .unset, .unset, .unset, .unset, .unset, .unset, .unset, .unset, .unset]) rfl kk) ?_
            refine OGo.step (fun _ kk => XS.aload X39.here hx rfl (hb hby at_194) rfl rfl kk) ?_
            refine OGo.step (fun _ kk => XS.lload X39.here hx rfl (hb hby at_196) rfl kk) ?_
            refine OGo.step (fun _ kk => XS.lconst X39.here hx rfl (hb hby at_198) kk) ?_
            show OGo p e below (T39.setTop (mkF m 199 #[.val (.long q1), .second, .val (.long q2), .second, .val (.long q3), .second, .val (.long q4), .second, .val (.int p1), .val (.long (9223372036854775807 : Int64)), .second, .val (.long E1_), .second, .val (.long N2_), .second, .val (.ref b), .val (.long ec), .second, .val (.long nc), .second, .val (.long (E1_ >>> ((1 : Int32) &&& 0x3f).toInt64)), .second, .val (.long (N2_ >>> ((1 : Int32) &&& 0x3f).toInt64)), .second, .val (.double r24), .second, .val (.double r26), .second, .val (.double r28), .second, .unset, .unset, .unset, .unset, .unset, .unset, .unset, .unset, .unset, .unset, .unset] [(.long (0 : Int64)), (.long E1_), (.ref b)])) _
            refine own_virtual X39 hx hZ (y := (⟨"com/example/slotwise/slotwise/search/Budget", "used", "(JJ)D"⟩ : MethodName)) (z := (⟨"com/example/slotwise/slotwise/search/Budget", "used", "(JJ)D"⟩ : MethodName)) hown (hw _ (List.mem_of_getElem? (i := 30) rfl)) (hw _ (List.mem_of_getElem? (i := 31) rfl)) (notFace_of_selects (args := #[]) (mvT hZ (hw _ (List.mem_of_getElem? (i := 33) rfl)))) (hw _ (List.mem_of_getElem? (i := 33) rfl)) (hw _ (List.mem_of_getElem? (i := 32) rfl)) (by decide) (hw _ (List.mem_of_getElem? (i := 34) rfl)) (hw _ (List.mem_of_getElem? (i := 7) rfl)) (b := b) Eb (W := 0) (own_used l Z a0 hw [] b E1_ N2_ E1_ (0 : Int64) T34.heap n0 sz34 Fe Fn he hn2 (Int.le_trans (by decide) gE) h00) e39  (pc := 199) (Ls := #[.val (.long q1), .second, .val (.long q2), .second, .val (.long q3), .second, .val (.long q4), .second, .val (.int p1), .val (.long (9223372036854775807 : Int64)), .second, .val (.long E1_), .second, .val (.long N2_), .second, .val (.ref b), .val (.long ec), .second, .val (.long nc), .second, .val (.long (E1_ >>> ((1 : Int32) &&& 0x3f).toInt64)), .second, .val (.long (N2_ >>> ((1 : Int32) &&& 0x3f).toInt64)), .second, .val (.double r24), .second, .val (.double r26), .second, .val (.double r28), .second, .unset, .unset, .unset, .unset, .unset, .unset, .unset, .unset, .unset, .unset, .unset]) (argsL := [(.long E1_), (.long (0 : Int64))]) (rest := []) (by rw [hml]; rfl) (lenOf own_pd5 rfl) rfl (hb hby at_199) (by decide) (by decide) (by decide) (by decide) ?_
            intro v40 T40 L40 X40 hQ40
            obtain ⟨r30, rfl, N40, e40, U30⟩ := hQ40
            show OGo p e below (T40.setTop (mkF m 202 #[.val (.long q1), .second, .val (.long q2), .second, .val (.long q3), .second, .val (.long q4), .second, .val (.int p1), .val (.long (9223372036854775807 : Int64)), .second, .val (.long E1_), .second, .val (.long N2_), .second, .val (.ref b), .val (.long ec), .second, .val (.long nc), .second, .val (.long (E1_ >>> ((1 : Int32) &&& 0x3f).toInt64)), .second, .val (.long (N2_ >>> ((1 : Int32) &&& 0x3f).toInt64)), .second, .val (.double r24), .second, .val (.double r26), .second, .val (.double r28), .second, .unset, .unset, .unset, .unset, .unset, .unset, .unset, .unset, .unset, .unset, .unset] [(.double r30)])) _
            have Nc40 := Fr.app Nc39 N40
            rw [own_uu0 gN, Nat.max_zero] at U30
            refine OGo.step (fun _ kk => XS.dstore X40.here hx rfl (hb hby at_202) rfl (l' := #[.val (.long q1), .second, .val (.long q2), .second, .val (.long q3), .second, .val (.long q4), .second, .val (.int p1), .val (.long (9223372036854775807 : Int64)), .second, .val (.long E1_), .second, .val (.long N2_), .second, .val (.ref b), .val (.long ec), .second, .val (.long nc), .second, .val (.long (E1_ >>> ((1 : Int32) &&& 0x3f).toInt64)), .second, .val (.long (N2_ >>> ((1 : Int32) &&& 0x3f).toInt64)), .second, .val (.double r24), .second, .val (.double r26), .second, .val (.double r28), .second, .val (.double r30), .second, .unset, .unset, .unset, .unset, .unset, .unset, .unset, .unset, .unset]) rfl kk) ?_
            refine OGo.step (fun _ kk => XS.aload X40.here hx rfl (hb hby at_204) rfl rfl kk) ?_
            refine OGo.step (fun _ kk => XS.lconst X40.here hx rfl (hb hby at_206) kk) ?_
            refine OGo.step (fun _ kk => XS.lload X40.here hx rfl (hb hby at_207) rfl kk) ?_
            show OGo p e below (T40.setTop (mkF m 209 #[.val (.long q1), .second, .val (.long q2), .second, .val (.long q3), .second, .val (.long q4), .second, .val (.int p1), .val (.long (9223372036854775807 : Int64)), .second, .val (.long E1_), .second, .val (.long N2_), .second, .val (.ref b), .val (.long ec), .second, .val (.long nc), .second, .val (.long (E1_ >>> ((1 : Int32) &&& 0x3f).toInt64)), .second, .val (.long (N2_ >>> ((1 : Int32) &&& 0x3f).toInt64)), .second, .val (.double r24), .second, .val (.double r26), .second, .val (.double r28), .second, .val (.double r30), .second, .unset, .unset, .unset, .unset, .unset, .unset, .unset, .unset, .unset] [(.long N2_), (.long (0 : Int64)), (.ref b)])) _
            refine own_virtual X40 hx hZ (y := (⟨"com/example/slotwise/slotwise/search/Budget", "used", "(JJ)D"⟩ : MethodName)) (z := (⟨"com/example/slotwise/slotwise/search/Budget", "used", "(JJ)D"⟩ : MethodName)) hown (hw _ (List.mem_of_getElem? (i := 30) rfl)) (hw _ (List.mem_of_getElem? (i := 31) rfl)) (notFace_of_selects (args := #[]) (mvT hZ (hw _ (List.mem_of_getElem? (i := 33) rfl)))) (hw _ (List.mem_of_getElem? (i := 33) rfl)) (hw _ (List.mem_of_getElem? (i := 32) rfl)) (by decide) (hw _ (List.mem_of_getElem? (i := 34) rfl)) (hw _ (List.mem_of_getElem? (i := 7) rfl)) (b := b) Eb (W := 0) (own_used l Z a0 hw [] b E1_ N2_ (0 : Int64) N2_ T34.heap n0 sz34 Fe Fn he hn2 h00 (Int.le_trans (by decide) gN)) e40  (pc := 209) (Ls := #[.val (.long q1), .second, .val (.long q2), .second, .val (.long q3), .second, .val (.long q4), .second, .val (.int p1), .val (.long (9223372036854775807 : Int64)), .second, .val (.long E1_), .second, .val (.long N2_), .second, .val (.ref b), .val (.long ec), .second, .val (.long nc), .second, .val (.long (E1_ >>> ((1 : Int32) &&& 0x3f).toInt64)), .second, .val (.long (N2_ >>> ((1 : Int32) &&& 0x3f).toInt64)), .second, .val (.double r24), .second, .val (.double r26), .second, .val (.double r28), .second, .val (.double r30), .second, .unset, .unset, .unset, .unset, .unset, .unset, .unset, .unset, .unset]) (argsL := [(.long (0 : Int64)), (.long N2_)]) (rest := []) (by rw [hml]; rfl) (lenOf own_pd5 rfl) rfl (hb hby at_209) (by decide) (by decide) (by decide) (by decide) ?_
            intro v41 T41 L41 X41 hQ41
            obtain ⟨r32, rfl, N41, e41, U32⟩ := hQ41
            show OGo p e below (T41.setTop (mkF m 212 #[.val (.long q1), .second, .val (.long q2), .second, .val (.long q3), .second, .val (.long q4), .second, .val (.int p1), .val (.long (9223372036854775807 : Int64)), .second, .val (.long E1_), .second, .val (.long N2_), .second, .val (.ref b), .val (.long ec), .second, .val (.long nc), .second, .val (.long (E1_ >>> ((1 : Int32) &&& 0x3f).toInt64)), .second, .val (.long (N2_ >>> ((1 : Int32) &&& 0x3f).toInt64)), .second, .val (.double r24), .second, .val (.double r26), .second, .val (.double r28), .second, .val (.double r30), .second, .unset, .unset, .unset, .unset, .unset, .unset, .unset, .unset, .unset] [(.double r32)])) _
            have Nc41 := Fr.app Nc40 N41
            rw [own_uu0 gE, Nat.zero_max] at U32
            refine OGo.step (fun _ kk => XS.dstore X41.here hx rfl (hb hby at_212) rfl (l' := #[.val (.long q1), .second, .val (.long q2), .second, .val (.long q3), .second, .val (.long q4), .second, .val (.int p1), .val (.long (9223372036854775807 : Int64)), .second, .val (.long E1_), .second, .val (.long N2_), .second, .val (.ref b), .val (.long ec), .second, .val (.long nc), .second, .val (.long (E1_ >>> ((1 : Int32) &&& 0x3f).toInt64)), .second, .val (.long (N2_ >>> ((1 : Int32) &&& 0x3f).toInt64)), .second, .val (.double r24), .second, .val (.double r26), .second, .val (.double r28), .second, .val (.double r30), .second, .val (.double r32), .second, .unset, .unset, .unset, .unset, .unset, .unset, .unset]) rfl kk) ?_
            refine OGo.step (fun _ kk => XS.aload X41.here hx rfl (hb hby at_214) rfl rfl kk) ?_
            refine OGo.step (fun _ kk => XS.lload X41.here hx rfl (hb hby at_216) rfl kk) ?_
            refine OGo.step (fun _ kk => XS.lconst X41.here hx rfl (hb hby at_218) kk) ?_
            show OGo p e below (T41.setTop (mkF m 219 #[.val (.long q1), .second, .val (.long q2), .second, .val (.long q3), .second, .val (.long q4), .second, .val (.int p1), .val (.long (9223372036854775807 : Int64)), .second, .val (.long E1_), .second, .val (.long N2_), .second, .val (.ref b), .val (.long ec), .second, .val (.long nc), .second, .val (.long (E1_ >>> ((1 : Int32) &&& 0x3f).toInt64)), .second, .val (.long (N2_ >>> ((1 : Int32) &&& 0x3f).toInt64)), .second, .val (.double r24), .second, .val (.double r26), .second, .val (.double r28), .second, .val (.double r30), .second, .val (.double r32), .second, .unset, .unset, .unset, .unset, .unset, .unset, .unset] [(.long (0 : Int64)), (.long (E1_ >>> ((1 : Int32) &&& 0x3f).toInt64)), (.ref b)])) _
            refine own_virtual X41 hx hZ (y := (⟨"com/example/slotwise/slotwise/search/Budget", "used", "(JJ)D"⟩ : MethodName)) (z := (⟨"com/example/slotwise/slotwise/search/Budget", "used", "(JJ)D"⟩ : MethodName)) hown (hw _ (List.mem_of_getElem? (i := 30) rfl)) (hw _ (List.mem_of_getElem? (i := 31) rfl)) (notFace_of_selects (args := #[]) (mvT hZ (hw _ (List.mem_of_getElem? (i := 33) rfl)))) (hw _ (List.mem_of_getElem? (i := 33) rfl)) (hw _ (List.mem_of_getElem? (i := 32) rfl)) (by decide) (hw _ (List.mem_of_getElem? (i := 34) rfl)) (hw _ (List.mem_of_getElem? (i := 7) rfl)) (b := b) Eb (W := 0) (own_used l Z a0 hw [] b E1_ N2_ (E1_ >>> ((1 : Int32) &&& 0x3f).toInt64) (0 : Int64) T34.heap n0 sz34 Fe Fn he hn2 (own_shr0 gE) h00) e41  (pc := 219) (Ls := #[.val (.long q1), .second, .val (.long q2), .second, .val (.long q3), .second, .val (.long q4), .second, .val (.int p1), .val (.long (9223372036854775807 : Int64)), .second, .val (.long E1_), .second, .val (.long N2_), .second, .val (.ref b), .val (.long ec), .second, .val (.long nc), .second, .val (.long (E1_ >>> ((1 : Int32) &&& 0x3f).toInt64)), .second, .val (.long (N2_ >>> ((1 : Int32) &&& 0x3f).toInt64)), .second, .val (.double r24), .second, .val (.double r26), .second, .val (.double r28), .second, .val (.double r30), .second, .val (.double r32), .second, .unset, .unset, .unset, .unset, .unset, .unset, .unset]) (argsL := [(.long (E1_ >>> ((1 : Int32) &&& 0x3f).toInt64)), (.long (0 : Int64))]) (rest := []) (by rw [hml]; rfl) (lenOf own_pd5 rfl) rfl (hb hby at_219) (by decide) (by decide) (by decide) (by decide) ?_
            intro v42 T42 L42 X42 hQ42
            obtain ⟨r34, rfl, N42, e42, U34⟩ := hQ42
            show OGo p e below (T42.setTop (mkF m 222 #[.val (.long q1), .second, .val (.long q2), .second, .val (.long q3), .second, .val (.long q4), .second, .val (.int p1), .val (.long (9223372036854775807 : Int64)), .second, .val (.long E1_), .second, .val (.long N2_), .second, .val (.ref b), .val (.long ec), .second, .val (.long nc), .second, .val (.long (E1_ >>> ((1 : Int32) &&& 0x3f).toInt64)), .second, .val (.long (N2_ >>> ((1 : Int32) &&& 0x3f).toInt64)), .second, .val (.double r24), .second, .val (.double r26), .second, .val (.double r28), .second, .val (.double r30), .second, .val (.double r32), .second, .unset, .unset, .unset, .unset, .unset, .unset, .unset] [(.double r34)])) _
            have Nc42 := Fr.app Nc41 N42
            rw [own_uu0 gN, Nat.max_zero] at U34
            refine OGo.step (fun _ kk => XS.dstore X42.here hx rfl (hb hby at_222) rfl (l' := #[.val (.long q1), .second, .val (.long q2), .second, .val (.long q3), .second, .val (.long q4), .second, .val (.int p1), .val (.long (9223372036854775807 : Int64)), .second, .val (.long E1_), .second, .val (.long N2_), .second, .val (.ref b), .val (.long ec), .second, .val (.long nc), .second, .val (.long (E1_ >>> ((1 : Int32) &&& 0x3f).toInt64)), .second, .val (.long (N2_ >>> ((1 : Int32) &&& 0x3f).toInt64)), .second, .val (.double r24), .second, .val (.double r26), .second, .val (.double r28), .second, .val (.double r30), .second, .val (.double r32), .second, .val (.double r34), .second, .unset, .unset, .unset, .unset, .unset]) rfl kk) ?_
            refine OGo.step (fun _ kk => XS.aload X42.here hx rfl (hb hby at_224) rfl rfl kk) ?_
            refine OGo.step (fun _ kk => XS.lconst X42.here hx rfl (hb hby at_226) kk) ?_
            refine OGo.step (fun _ kk => XS.lload X42.here hx rfl (hb hby at_227) rfl kk) ?_
            show OGo p e below (T42.setTop (mkF m 229 #[.val (.long q1), .second, .val (.long q2), .second, .val (.long q3), .second, .val (.long q4), .second, .val (.int p1), .val (.long (9223372036854775807 : Int64)), .second, .val (.long E1_), .second, .val (.long N2_), .second, .val (.ref b), .val (.long ec), .second, .val (.long nc), .second, .val (.long (E1_ >>> ((1 : Int32) &&& 0x3f).toInt64)), .second, .val (.long (N2_ >>> ((1 : Int32) &&& 0x3f).toInt64)), .second, .val (.double r24), .second, .val (.double r26), .second, .val (.double r28), .second, .val (.double r30), .second, .val (.double r32), .second, .val (.double r34), .second, .unset, .unset, .unset, .unset, .unset] [(.long (N2_ >>> ((1 : Int32) &&& 0x3f).toInt64)), (.long (0 : Int64)), (.ref b)])) _
            refine own_virtual X42 hx hZ (y := (⟨"com/example/slotwise/slotwise/search/Budget", "used", "(JJ)D"⟩ : MethodName)) (z := (⟨"com/example/slotwise/slotwise/search/Budget", "used", "(JJ)D"⟩ : MethodName)) hown (hw _ (List.mem_of_getElem? (i := 30) rfl)) (hw _ (List.mem_of_getElem? (i := 31) rfl)) (notFace_of_selects (args := #[]) (mvT hZ (hw _ (List.mem_of_getElem? (i := 33) rfl)))) (hw _ (List.mem_of_getElem? (i := 33) rfl)) (hw _ (List.mem_of_getElem? (i := 32) rfl)) (by decide) (hw _ (List.mem_of_getElem? (i := 34) rfl)) (hw _ (List.mem_of_getElem? (i := 7) rfl)) (b := b) Eb (W := 0) (own_used l Z a0 hw [] b E1_ N2_ (0 : Int64) (N2_ >>> ((1 : Int32) &&& 0x3f).toInt64) T34.heap n0 sz34 Fe Fn he hn2 h00 (own_shr0 gN)) e42  (pc := 229) (Ls := #[.val (.long q1), .second, .val (.long q2), .second, .val (.long q3), .second, .val (.long q4), .second, .val (.int p1), .val (.long (9223372036854775807 : Int64)), .second, .val (.long E1_), .second, .val (.long N2_), .second, .val (.ref b), .val (.long ec), .second, .val (.long nc), .second, .val (.long (E1_ >>> ((1 : Int32) &&& 0x3f).toInt64)), .second, .val (.long (N2_ >>> ((1 : Int32) &&& 0x3f).toInt64)), .second, .val (.double r24), .second, .val (.double r26), .second, .val (.double r28), .second, .val (.double r30), .second, .val (.double r32), .second, .val (.double r34), .second, .unset, .unset, .unset, .unset, .unset]) (argsL := [(.long (0 : Int64)), (.long (N2_ >>> ((1 : Int32) &&& 0x3f).toInt64))]) (rest := []) (by rw [hml]; rfl) (lenOf own_pd5 rfl) rfl (hb hby at_229) (by decide) (by decide) (by decide) (by decide) ?_
            intro v43 T43 L43 X43 hQ43
            obtain ⟨r36, rfl, N43, e43, U36⟩ := hQ43
            show OGo p e below (T43.setTop (mkF m 232 #[.val (.long q1), .second, .val (.long q2), .second, .val (.long q3), .second, .val (.long q4), .second, .val (.int p1), .val (.long (9223372036854775807 : Int64)), .second, .val (.long E1_), .second, .val (.long N2_), .second, .val (.ref b), .val (.long ec), .second, .val (.long nc), .second, .val (.long (E1_ >>> ((1 : Int32) &&& 0x3f).toInt64)), .second, .val (.long (N2_ >>> ((1 : Int32) &&& 0x3f).toInt64)), .second, .val (.double r24), .second, .val (.double r26), .second, .val (.double r28), .second, .val (.double r30), .second, .val (.double r32), .second, .val (.double r34), .second, .unset, .unset, .unset, .unset, .unset] [(.double r36)])) _
            have Nc43 := Fr.app Nc42 N43
            rw [own_uu0 gE, Nat.zero_max] at U36
            refine OGo.step (fun _ kk => XS.dstore X43.here hx rfl (hb hby at_232) rfl (l' := #[.val (.long q1), .second, .val (.long q2), .second, .val (.long q3), .second, .val (.long q4), .second, .val (.int p1), .val (.long (9223372036854775807 : Int64)), .second, .val (.long E1_), .second, .val (.long N2_), .second, .val (.ref b), .val (.long ec), .second, .val (.long nc), .second, .val (.long (E1_ >>> ((1 : Int32) &&& 0x3f).toInt64)), .second, .val (.long (N2_ >>> ((1 : Int32) &&& 0x3f).toInt64)), .second, .val (.double r24), .second, .val (.double r26), .second, .val (.double r28), .second, .val (.double r30), .second, .val (.double r32), .second, .val (.double r34), .second, .val (.double r36), .second, .unset, .unset, .unset]) rfl kk) ?_
            refine OGo.step (fun _ kk => X43.ldc2Long hx hown (mvT hZ (hw _ (List.mem_of_getElem? (i := 41) rfl))) (g := (mkF m 234 #[.val (.long q1), .second, .val (.long q2), .second, .val (.long q3), .second, .val (.long q4), .second, .val (.int p1), .val (.long (9223372036854775807 : Int64)), .second, .val (.long E1_), .second, .val (.long N2_), .second, .val (.ref b), .val (.long ec), .second, .val (.long nc), .second, .val (.long (E1_ >>> ((1 : Int32) &&& 0x3f).toInt64)), .second, .val (.long (N2_ >>> ((1 : Int32) &&& 0x3f).toInt64)), .second, .val (.double r24), .second, .val (.double r26), .second, .val (.double r28), .second, .val (.double r30), .second, .val (.double r32), .second, .val (.double r34), .second, .val (.double r36), .second, .unset, .unset, .unset] [])) rfl (hb hby at_234) _ kk) ?_
            refine OGo.step (fun _ kk => XS.lstore X43.here hx rfl (hb hby at_237) rfl (l' := #[.val (.long q1), .second, .val (.long q2), .second, .val (.long q3), .second, .val (.long q4), .second, .val (.int p1), .val (.long (9223372036854775807 : Int64)), .second, .val (.long E1_), .second, .val (.long N2_), .second, .val (.ref b), .val (.long ec), .second, .val (.long nc), .second, .val (.long (E1_ >>> ((1 : Int32) &&& 0x3f).toInt64)), .second, .val (.long (N2_ >>> ((1 : Int32) &&& 0x3f).toInt64)), .second, .val (.double r24), .second, .val (.double r26), .second, .val (.double r28), .second, .val (.double r30), .second, .val (.double r32), .second, .val (.double r34), .second, .val (.double r36), .second, .val (.long (9007199254740992 : Int64)), .second, .unset]) rfl kk) ?_
            refine OGo.step (fun _ kk => XS.dconst0 X43.here hx rfl (hb hby at_239) rfl kk) ?_
            refine OGo.step (fun _ kk => XS.dload X43.here hx rfl (hb hby at_240) rfl kk) ?_
            refine OGo.step (fun _ kk => XS.dcmpS X43.here hx rfl (hb hby at_242) rfl rfl kk) ?_
            show OGo p e below (T43.setTop (mkF m 243 #[.val (.long q1), .second, .val (.long q2), .second, .val (.long q3), .second, .val (.long q4), .second, .val (.int p1), .val (.long (9223372036854775807 : Int64)), .second, .val (.long E1_), .second, .val (.long N2_), .second, .val (.ref b), .val (.long ec), .second, .val (.long nc), .second, .val (.long (E1_ >>> ((1 : Int32) &&& 0x3f).toInt64)), .second, .val (.long (N2_ >>> ((1 : Int32) &&& 0x3f).toInt64)), .second, .val (.double r24), .second, .val (.double r26), .second, .val (.double r28), .second, .val (.double r30), .second, .val (.double r32), .second, .val (.double r34), .second, .val (.double r36), .second, .val (.long (9007199254740992 : Int64)), .second, .unset] [(.int (cmpValue (FP.dcmp FP.dconst0 r24) .g))])) _
            refine OGo.step (fun _ kk => XS.ifNo X43.here hx rfl (hb hby at_243) rfl ((if0 _ _).trans (flt (own_ngt own_U0 U24 (Nat.zero_le _) _)).2.2.1) kk) ?_
            show OGo p e below (T43.setTop (mkF m 246 #[.val (.long q1), .second, .val (.long q2), .second, .val (.long q3), .second, .val (.long q4), .second, .val (.int p1), .val (.long (9223372036854775807 : Int64)), .second, .val (.long E1_), .second, .val (.long N2_), .second, .val (.ref b), .val (.long ec), .second, .val (.long nc), .second, .val (.long (E1_ >>> ((1 : Int32) &&& 0x3f).toInt64)), .second, .val (.long (N2_ >>> ((1 : Int32) &&& 0x3f).toInt64)), .second, .val (.double r24), .second, .val (.double r26), .second, .val (.double r28), .second, .val (.double r30), .second, .val (.double r32), .second, .val (.double r34), .second, .val (.double r36), .second, .val (.long (9007199254740992 : Int64)), .second, .unset] [])) _
            refine OGo.step (fun _ kk => XS.dload X43.here hx rfl (hb hby at_246) rfl kk) ?_
            refine OGo.step (fun _ kk => XS.dconst1 X43.here hx rfl (hb hby at_248) rfl kk) ?_
            refine OGo.step (fun _ kk => XS.dcmpS X43.here hx rfl (hb hby at_249) rfl rfl kk) ?_
            show OGo p e below (T43.setTop (mkF m 250 #[.val (.long q1), .second, .val (.long q2), .second, .val (.long q3), .second, .val (.long q4), .second, .val (.int p1), .val (.long (9223372036854775807 : Int64)), .second, .val (.long E1_), .second, .val (.long N2_), .second, .val (.ref b), .val (.long ec), .second, .val (.long nc), .second, .val (.long (E1_ >>> ((1 : Int32) &&& 0x3f).toInt64)), .second, .val (.long (N2_ >>> ((1 : Int32) &&& 0x3f).toInt64)), .second, .val (.double r24), .second, .val (.double r26), .second, .val (.double r28), .second, .val (.double r30), .second, .val (.double r32), .second, .val (.double r34), .second, .val (.double r36), .second, .val (.long (9007199254740992 : Int64)), .second, .unset] [(.int (cmpValue (FP.dcmp r24 FP.dconst1) .g))])) _
            refine OGo.step (fun _ kk => XS.ifNo X43.here hx rfl (hb hby at_250) rfl ((if0 _ _).trans (flt (own_ngt U24 own_U1 (own_le1 _ _) _)).2.2.1) kk) ?_
            show OGo p e below (T43.setTop (mkF m 253 #[.val (.long q1), .second, .val (.long q2), .second, .val (.long q3), .second, .val (.long q4), .second, .val (.int p1), .val (.long (9223372036854775807 : Int64)), .second, .val (.long E1_), .second, .val (.long N2_), .second, .val (.ref b), .val (.long ec), .second, .val (.long nc), .second, .val (.long (E1_ >>> ((1 : Int32) &&& 0x3f).toInt64)), .second, .val (.long (N2_ >>> ((1 : Int32) &&& 0x3f).toInt64)), .second, .val (.double r24), .second, .val (.double r26), .second, .val (.double r28), .second, .val (.double r30), .second, .val (.double r32), .second, .val (.double r34), .second, .val (.double r36), .second, .val (.long (9007199254740992 : Int64)), .second, .unset] [])) _
            refine OGo.step (fun _ kk => XS.dload X43.here hx rfl (hb hby at_253) rfl kk) ?_
            refine OGo.step (fun _ kk => XS.dload X43.here hx rfl (hb hby at_255) rfl kk) ?_
            refine OGo.step (fun _ kk => XS.dload X43.here hx rfl (hb hby at_257) rfl kk) ?_
            show OGo p e below (T43.setTop (mkF m 259 #[.val (.long q1), .second, .val (.long q2), .second, .val (.long q3), .second, .val (.long q4), .second, .val (.int p1), .val (.long (9223372036854775807 : Int64)), .second, .val (.long E1_), .second, .val (.long N2_), .second, .val (.ref b), .val (.long ec), .second, .val (.long nc), .second, .val (.long (E1_ >>> ((1 : Int32) &&& 0x3f).toInt64)), .second, .val (.long (N2_ >>> ((1 : Int32) &&& 0x3f).toInt64)), .second, .val (.double r24), .second, .val (.double r26), .second, .val (.double r28), .second, .val (.double r30), .second, .val (.double r32), .second, .val (.double r34), .second, .val (.double r36), .second, .val (.long (9007199254740992 : Int64)), .second, .unset] [(.double r28), (.double r26), (.double r24)])) _
            refine own_callS X43 hx hZ (y := (⟨"com/example/slotwise/slotwise/search/BudgetUsedPinLaw", "maxD", "(DD)D"⟩ : MethodName)) hown (hw _ (List.mem_of_getElem? (i := 42) rfl)) (hw _ (List.mem_of_getElem? (i := 43) rfl)) (hw _ (List.mem_of_getElem? (i := 28) rfl)) (hw _ (List.mem_of_getElem? (i := 44) rfl)) (by decide) (W := 2) (own_maxD l Z a0 hw [] r26 r28 _ _ T34.heap n0 sz34 U26 U28) e43  (pc := 259) (Ls := #[.val (.long q1), .second, .val (.long q2), .second, .val (.long q3), .second, .val (.long q4), .second, .val (.int p1), .val (.long (9223372036854775807 : Int64)), .second, .val (.long E1_), .second, .val (.long N2_), .second, .val (.ref b), .val (.long ec), .second, .val (.long nc), .second, .val (.long (E1_ >>> ((1 : Int32) &&& 0x3f).toInt64)), .second, .val (.long (N2_ >>> ((1 : Int32) &&& 0x3f).toInt64)), .second, .val (.double r24), .second, .val (.double r26), .second, .val (.double r28), .second, .val (.double r30), .second, .val (.double r32), .second, .val (.double r34), .second, .val (.double r36), .second, .val (.long (9007199254740992 : Int64)), .second, .unset]) (argsL := [(.double r26), (.double r28)]) (rest := [(.double r24)]) (by rw [hml]; rfl) (lenOf own_pd1 rfl) rfl (hb hby at_259) (by decide) (by decide) (by decide) (by decide) ?_
            intro v44 T44 L44 X44 hQ44
            obtain ⟨rm, rfl, N44, e44, Um⟩ := hQ44
            show OGo p e below (T44.setTop (mkF m 262 #[.val (.long q1), .second, .val (.long q2), .second, .val (.long q3), .second, .val (.long q4), .second, .val (.int p1), .val (.long (9223372036854775807 : Int64)), .second, .val (.long E1_), .second, .val (.long N2_), .second, .val (.ref b), .val (.long ec), .second, .val (.long nc), .second, .val (.long (E1_ >>> ((1 : Int32) &&& 0x3f).toInt64)), .second, .val (.long (N2_ >>> ((1 : Int32) &&& 0x3f).toInt64)), .second, .val (.double r24), .second, .val (.double r26), .second, .val (.double r28), .second, .val (.double r30), .second, .val (.double r32), .second, .val (.double r34), .second, .val (.double r36), .second, .val (.long (9007199254740992 : Int64)), .second, .unset] [(.double rm), (.double r24)])) _
            have Nc44 := Fr.app Nc43 N44
            refine OGo.step (fun _ kk => XS.dcmpS X44.here hx rfl (hb hby at_262) rfl rfl kk) ?_
            show OGo p e below (T44.setTop (mkF m 263 #[.val (.long q1), .second, .val (.long q2), .second, .val (.long q3), .second, .val (.long q4), .second, .val (.int p1), .val (.long (9223372036854775807 : Int64)), .second, .val (.long E1_), .second, .val (.long N2_), .second, .val (.ref b), .val (.long ec), .second, .val (.long nc), .second, .val (.long (E1_ >>> ((1 : Int32) &&& 0x3f).toInt64)), .second, .val (.long (N2_ >>> ((1 : Int32) &&& 0x3f).toInt64)), .second, .val (.double r24), .second, .val (.double r26), .second, .val (.double r28), .second, .val (.double r30), .second, .val (.double r32), .second, .val (.double r34), .second, .val (.double r36), .second, .val (.long (9007199254740992 : Int64)), .second, .unset] [(.int (cmpValue (FP.dcmp r24 rm) .l))])) _
            refine OGo.step (fun _ kk => XS.ifNo X44.here hx rfl (hb hby at_263) rfl ((if0 _ _).trans (teq (own_eq U24 Um (own_mm _ _ _) _)).2) kk) ?_
            show OGo p e below (T44.setTop (mkF m 266 #[.val (.long q1), .second, .val (.long q2), .second, .val (.long q3), .second, .val (.long q4), .second, .val (.int p1), .val (.long (9223372036854775807 : Int64)), .second, .val (.long E1_), .second, .val (.long N2_), .second, .val (.ref b), .val (.long ec), .second, .val (.long nc), .second, .val (.long (E1_ >>> ((1 : Int32) &&& 0x3f).toInt64)), .second, .val (.long (N2_ >>> ((1 : Int32) &&& 0x3f).toInt64)), .second, .val (.double r24), .second, .val (.double r26), .second, .val (.double r28), .second, .val (.double r30), .second, .val (.double r32), .second, .val (.double r34), .second, .val (.double r36), .second, .val (.long (9007199254740992 : Int64)), .second, .unset] [])) _
            refine OGo.step (fun _ kk => XS.iconst X44.here hx rfl (hb hby at_266) kk) ?_
            refine OGo.step (fun _ kk => XS.goto X44.here hx rfl (pc0 := 267) (pc' := 271) rfl (hb hby at_267) (by decide) (by decide) kk) ?_
            refine OGo.step (fun _ kk => XS.istore X44.here hx rfl (hb hby at_271) rfl (l' := #[.val (.long q1), .second, .val (.long q2), .second, .val (.long q3), .second, .val (.long q4), .second, .val (.int p1), .val (.long (9223372036854775807 : Int64)), .second, .val (.long E1_), .second, .val (.long N2_), .second, .val (.ref b), .val (.long ec), .second, .val (.long nc), .second, .val (.long (E1_ >>> ((1 : Int32) &&& 0x3f).toInt64)), .second, .val (.long (N2_ >>> ((1 : Int32) &&& 0x3f).toInt64)), .second, .val (.double r24), .second, .val (.double r26), .second, .val (.double r28), .second, .val (.double r30), .second, .val (.double r32), .second, .val (.double r34), .second, .val (.double r36), .second, .val (.long (9007199254740992 : Int64)), .second, .val (.int (1 : Int32))]) rfl kk) ?_
            show OGo p e below (T44.setTop (mkF m 273 #[.val (.long q1), .second, .val (.long q2), .second, .val (.long q3), .second, .val (.long q4), .second, .val (.int p1), .val (.long (9223372036854775807 : Int64)), .second, .val (.long E1_), .second, .val (.long N2_), .second, .val (.ref b), .val (.long ec), .second, .val (.long nc), .second, .val (.long (E1_ >>> ((1 : Int32) &&& 0x3f).toInt64)), .second, .val (.long (N2_ >>> ((1 : Int32) &&& 0x3f).toInt64)), .second, .val (.double r24), .second, .val (.double r26), .second, .val (.double r28), .second, .val (.double r30), .second, .val (.double r32), .second, .val (.double r34), .second, .val (.double r36), .second, .val (.long (9007199254740992 : Int64)), .second, .val (.int (1 : Int32))] [])) _
            have K757 : OGo p e below (T44.setTop (mkF m 757 #[.val (.long q1), .second, .val (.long q2), .second, .val (.long q3), .second, .val (.long q4), .second, .val (.int p1), .val (.long (9223372036854775807 : Int64)), .second, .val (.long E1_), .second, .val (.long N2_), .second, .val (.ref b), .val (.long ec), .second, .val (.long nc), .second, .val (.long (E1_ >>> ((1 : Int32) &&& 0x3f).toInt64)), .second, .val (.long (N2_ >>> ((1 : Int32) &&& 0x3f).toInt64)), .second, .val (.double r24), .second, .val (.double r26), .second, .val (.double r28), .second, .val (.double r30), .second, .val (.double r32), .second, .val (.double r34), .second, .val (.double r36), .second, .val (.long (9007199254740992 : Int64)), .second, .val (.int (1 : Int32))] [])) (OEnd s (fun v h L => v = some (.int (1 : Int32)) ∧ Fr n0 L) room_1.cells room_1.slots) := by
              show OGo p e below (T44.setTop (mkF m 757 #[.val (.long q1), .second, .val (.long q2), .second, .val (.long q3), .second, .val (.long q4), .second, .val (.int p1), .val (.long (9223372036854775807 : Int64)), .second, .val (.long E1_), .second, .val (.long N2_), .second, .val (.ref b), .val (.long ec), .second, .val (.long nc), .second, .val (.long (E1_ >>> ((1 : Int32) &&& 0x3f).toInt64)), .second, .val (.long (N2_ >>> ((1 : Int32) &&& 0x3f).toInt64)), .second, .val (.double r24), .second, .val (.double r26), .second, .val (.double r28), .second, .val (.double r30), .second, .val (.double r32), .second, .val (.double r34), .second, .val (.double r36), .second, .val (.long (9007199254740992 : Int64)), .second, .val (.int (1 : Int32))] [])) _
              refine OGo.step (fun _ kk => XS.iload X44.here hx rfl (hb hby at_757) rfl kk) ?_
              show OGo p e below (T44.setTop (mkF m 759 #[.val (.long q1), .second, .val (.long q2), .second, .val (.long q3), .second, .val (.long q4), .second, .val (.int p1), .val (.long (9223372036854775807 : Int64)), .second, .val (.long E1_), .second, .val (.long N2_), .second, .val (.ref b), .val (.long ec), .second, .val (.long nc), .second, .val (.long (E1_ >>> ((1 : Int32) &&& 0x3f).toInt64)), .second, .val (.long (N2_ >>> ((1 : Int32) &&& 0x3f).toInt64)), .second, .val (.double r24), .second, .val (.double r26), .second, .val (.double r28), .second, .val (.double r30), .second, .val (.double r32), .second, .val (.double r34), .second, .val (.double r36), .second, .val (.long (9007199254740992 : Int64)), .second, .val (.int (1 : Int32))] [(.int (1 : Int32))])) _
              exact own_retN X44 hx hlk hret (by simp) (hb hby at_759) ⟨by rw [own_nar1], Nc44⟩ (by decide) (by decide)
            have K686 : ¬ N2_ = (9223372036854775807 : Int64) → OGo p e below (T44.setTop (mkF m 686 #[.val (.long q1), .second, .val (.long q2), .second, .val (.long q3), .second, .val (.long q4), .second, .val (.int p1), .val (.long (9223372036854775807 : Int64)), .second, .val (.long E1_), .second, .val (.long N2_), .second, .val (.ref b), .val (.long ec), .second, .val (.long nc), .second, .val (.long (E1_ >>> ((1 : Int32) &&& 0x3f).toInt64)), .second, .val (.long (N2_ >>> ((1 : Int32) &&& 0x3f).toInt64)), .second, .val (.double r24), .second, .val (.double r26), .second, .val (.double r28), .second, .val (.double r30), .second, .val (.double r32), .second, .val (.double r34), .second, .val (.double r36), .second, .val (.long (9007199254740992 : Int64)), .second, .val (.int (1 : Int32))] [])) (OEnd s (fun v h L => v = some (.int (1 : Int32)) ∧ Fr n0 L) room_1.cells room_1.slots) := by
              intro hM
              show OGo p e below (T44.setTop (mkF m 686 #[.val (.long q1), .second, .val (.long q2), .second, .val (.long q3), .second, .val (.long q4), .second, .val (.int p1), .val (.long (9223372036854775807 : Int64)), .second, .val (.long E1_), .second, .val (.long N2_), .second, .val (.ref b), .val (.long ec), .second, .val (.long nc), .second, .val (.long (E1_ >>> ((1 : Int32) &&& 0x3f).toInt64)), .second, .val (.long (N2_ >>> ((1 : Int32) &&& 0x3f).toInt64)), .second, .val (.double r24), .second, .val (.double r26), .second, .val (.double r28), .second, .val (.double r30), .second, .val (.double r32), .second, .val (.double r34), .second, .val (.double r36), .second, .val (.long (9007199254740992 : Int64)), .second, .val (.int (1 : Int32))] [])) _
              refine OGo.step (fun _ kk => XS.lload X44.here hx rfl (hb hby at_686) rfl kk) ?_
              refine OGo.step (fun _ kk => XS.lload X44.here hx rfl (hb hby at_688) rfl kk) ?_
              refine OGo.step (fun _ kk => XS.lcmp X44.here hx rfl (hb hby at_690) rfl kk) ?_
              show OGo p e below (T44.setTop (mkF m 691 #[.val (.long q1), .second, .val (.long q2), .second, .val (.long q3), .second, .val (.long q4), .second, .val (.int p1), .val (.long (9223372036854775807 : Int64)), .second, .val (.long E1_), .second, .val (.long N2_), .second, .val (.ref b), .val (.long ec), .second, .val (.long nc), .second, .val (.long (E1_ >>> ((1 : Int32) &&& 0x3f).toInt64)), .second, .val (.long (N2_ >>> ((1 : Int32) &&& 0x3f).toInt64)), .second, .val (.double r24), .second, .val (.double r26), .second, .val (.double r28), .second, .val (.double r30), .second, .val (.double r32), .second, .val (.double r34), .second, .val (.double r36), .second, .val (.long (9007199254740992 : Int64)), .second, .val (.int (1 : Int32))] [(.int (lcmpW nc N2_))])) _
              by_cases hl : (lcmpW nc N2_) < (0 : Int32)
              · refine OGo.step (fun _ kk => XS.ifNo X44.here hx rfl (hb hby at_691) rfl ((if0 _ _).trans (tlt hl).2.1) kk) ?_
                show OGo p e below (T44.setTop (mkF m 694 #[.val (.long q1), .second, .val (.long q2), .second, .val (.long q3), .second, .val (.long q4), .second, .val (.int p1), .val (.long (9223372036854775807 : Int64)), .second, .val (.long E1_), .second, .val (.long N2_), .second, .val (.ref b), .val (.long ec), .second, .val (.long nc), .second, .val (.long (E1_ >>> ((1 : Int32) &&& 0x3f).toInt64)), .second, .val (.long (N2_ >>> ((1 : Int32) &&& 0x3f).toInt64)), .second, .val (.double r24), .second, .val (.double r26), .second, .val (.double r28), .second, .val (.double r30), .second, .val (.double r32), .second, .val (.double r34), .second, .val (.double r36), .second, .val (.long (9007199254740992 : Int64)), .second, .val (.int (1 : Int32))] [])) _
                refine OGo.step (fun _ kk => XS.lload X44.here hx rfl (hb hby at_694) rfl kk) ?_
                refine OGo.step (fun _ kk => XS.lload X44.here hx rfl (hb hby at_696) rfl kk) ?_
                refine OGo.step (fun _ kk => XS.lcmp X44.here hx rfl (hb hby at_698) rfl kk) ?_
                show OGo p e below (T44.setTop (mkF m 699 #[.val (.long q1), .second, .val (.long q2), .second, .val (.long q3), .second, .val (.long q4), .second, .val (.int p1), .val (.long (9223372036854775807 : Int64)), .second, .val (.long E1_), .second, .val (.long N2_), .second, .val (.ref b), .val (.long ec), .second, .val (.long nc), .second, .val (.long (E1_ >>> ((1 : Int32) &&& 0x3f).toInt64)), .second, .val (.long (N2_ >>> ((1 : Int32) &&& 0x3f).toInt64)), .second, .val (.double r24), .second, .val (.double r26), .second, .val (.double r28), .second, .val (.double r30), .second, .val (.double r32), .second, .val (.double r34), .second, .val (.double r36), .second, .val (.long (9007199254740992 : Int64)), .second, .val (.int (1 : Int32))] [(.int (lcmpW N2_ (9007199254740992 : Int64)))])) _
                by_cases hs : (0 : Int32) < (lcmpW N2_ (9007199254740992 : Int64))
                · refine OGo.step (fun _ kk => XS.ifYes X44.here hx rfl (pc0 := 699) (pc' := 757) rfl (hb hby at_699) rfl ((if0 _ _).trans (tlt hs).2.2.1) (by decide) (by decide) kk) ?_
                  show OGo p e below (T44.setTop (mkF m 757 #[.val (.long q1), .second, .val (.long q2), .second, .val (.long q3), .second, .val (.long q4), .second, .val (.int p1), .val (.long (9223372036854775807 : Int64)), .second, .val (.long E1_), .second, .val (.long N2_), .second, .val (.ref b), .val (.long ec), .second, .val (.long nc), .second, .val (.long (E1_ >>> ((1 : Int32) &&& 0x3f).toInt64)), .second, .val (.long (N2_ >>> ((1 : Int32) &&& 0x3f).toInt64)), .second, .val (.double r24), .second, .val (.double r26), .second, .val (.double r28), .second, .val (.double r30), .second, .val (.double r32), .second, .val (.double r34), .second, .val (.double r36), .second, .val (.long (9007199254740992 : Int64)), .second, .val (.int (1 : Int32))] [])) _
                  exact K757
                · refine OGo.step (fun _ kk => XS.ifNo X44.here hx rfl (hb hby at_699) rfl ((if0 _ _).trans (flt hs).2.2.1) kk) ?_
                  show OGo p e below (T44.setTop (mkF m 702 #[.val (.long q1), .second, .val (.long q2), .second, .val (.long q3), .second, .val (.long q4), .second, .val (.int p1), .val (.long (9223372036854775807 : Int64)), .second, .val (.long E1_), .second, .val (.long N2_), .second, .val (.ref b), .val (.long ec), .second, .val (.long nc), .second, .val (.long (E1_ >>> ((1 : Int32) &&& 0x3f).toInt64)), .second, .val (.long (N2_ >>> ((1 : Int32) &&& 0x3f).toInt64)), .second, .val (.double r24), .second, .val (.double r26), .second, .val (.double r28), .second, .val (.double r30), .second, .val (.double r32), .second, .val (.double r34), .second, .val (.double r36), .second, .val (.long (9007199254740992 : Int64)), .second, .val (.int (1 : Int32))] [])) _
                  refine OGo.step (fun _ kk => XS.iload X44.here hx rfl (hb hby at_702) rfl kk) ?_
                  show OGo p e below (T44.setTop (mkF m 704 #[.val (.long q1), .second, .val (.long q2), .second, .val (.long q3), .second, .val (.long q4), .second, .val (.int p1), .val (.long (9223372036854775807 : Int64)), .second, .val (.long E1_), .second, .val (.long N2_), .second, .val (.ref b), .val (.long ec), .second, .val (.long nc), .second, .val (.long (E1_ >>> ((1 : Int32) &&& 0x3f).toInt64)), .second, .val (.long (N2_ >>> ((1 : Int32) &&& 0x3f).toInt64)), .second, .val (.double r24), .second, .val (.double r26), .second, .val (.double r28), .second, .val (.double r30), .second, .val (.double r32), .second, .val (.double r34), .second, .val (.double r36), .second, .val (.long (9007199254740992 : Int64)), .second, .val (.int (1 : Int32))] [(.int (1 : Int32))])) _
                  refine OGo.step (fun _ kk => XS.ifNo X44.here hx rfl (hb hby at_704) rfl ((if0 _ _).trans (feq (by decide)).1) kk) ?_
                  show OGo p e below (T44.setTop (mkF m 707 #[.val (.long q1), .second, .val (.long q2), .second, .val (.long q3), .second, .val (.long q4), .second, .val (.int p1), .val (.long (9223372036854775807 : Int64)), .second, .val (.long E1_), .second, .val (.long N2_), .second, .val (.ref b), .val (.long ec), .second, .val (.long nc), .second, .val (.long (E1_ >>> ((1 : Int32) &&& 0x3f).toInt64)), .second, .val (.long (N2_ >>> ((1 : Int32) &&& 0x3f).toInt64)), .second, .val (.double r24), .second, .val (.double r26), .second, .val (.double r28), .second, .val (.double r30), .second, .val (.double r32), .second, .val (.double r34), .second, .val (.double r36), .second, .val (.long (9007199254740992 : Int64)), .second, .val (.int (1 : Int32))] [])) _
                  refine OGo.step (fun _ kk => XS.dload X44.here hx rfl (hb hby at_707) rfl kk) ?_
                  refine OGo.step (fun _ kk => XS.dconst1 X44.here hx rfl (hb hby at_709) rfl kk) ?_
                  refine OGo.step (fun _ kk => XS.dcmpS X44.here hx rfl (hb hby at_710) rfl rfl kk) ?_
                  show OGo p e below (T44.setTop (mkF m 711 #[.val (.long q1), .second, .val (.long q2), .second, .val (.long q3), .second, .val (.long q4), .second, .val (.int p1), .val (.long (9223372036854775807 : Int64)), .second, .val (.long E1_), .second, .val (.long N2_), .second, .val (.ref b), .val (.long ec), .second, .val (.long nc), .second, .val (.long (E1_ >>> ((1 : Int32) &&& 0x3f).toInt64)), .second, .val (.long (N2_ >>> ((1 : Int32) &&& 0x3f).toInt64)), .second, .val (.double r24), .second, .val (.double r26), .second, .val (.double r28), .second, .val (.double r30), .second, .val (.double r32), .second, .val (.double r34), .second, .val (.double r36), .second, .val (.long (9007199254740992 : Int64)), .second, .val (.int (1 : Int32))] [(.int (cmpValue (FP.dcmp r28 FP.dconst1) .g))])) _
                  refine OGo.step (fun _ kk => XS.ifNo X44.here hx rfl (hb hby at_711) rfl ((if0 _ _).trans (tlt (own_lt U28 own_U1 (own_a7 hM hnc (own_llt hl) (own_lle hs)) _)).2.1) kk) ?_
                  show OGo p e below (T44.setTop (mkF m 714 #[.val (.long q1), .second, .val (.long q2), .second, .val (.long q3), .second, .val (.long q4), .second, .val (.int p1), .val (.long (9223372036854775807 : Int64)), .second, .val (.long E1_), .second, .val (.long N2_), .second, .val (.ref b), .val (.long ec), .second, .val (.long nc), .second, .val (.long (E1_ >>> ((1 : Int32) &&& 0x3f).toInt64)), .second, .val (.long (N2_ >>> ((1 : Int32) &&& 0x3f).toInt64)), .second, .val (.double r24), .second, .val (.double r26), .second, .val (.double r28), .second, .val (.double r30), .second, .val (.double r32), .second, .val (.double r34), .second, .val (.double r36), .second, .val (.long (9007199254740992 : Int64)), .second, .val (.int (1 : Int32))] [])) _
                  refine OGo.step (fun _ kk => XS.iconst X44.here hx rfl (hb hby at_714) kk) ?_
                  refine OGo.step (fun _ kk => XS.goto X44.here hx rfl (pc0 := 715) (pc' := 719) rfl (hb hby at_715) (by decide) (by decide) kk) ?_
                  refine OGo.step (fun _ kk => XS.istore X44.here hx rfl (hb hby at_719) rfl (l' := #[.val (.long q1), .second, .val (.long q2), .second, .val (.long q3), .second, .val (.long q4), .second, .val (.int p1), .val (.long (9223372036854775807 : Int64)), .second, .val (.long E1_), .second, .val (.long N2_), .second, .val (.ref b), .val (.long ec), .second, .val (.long nc), .second, .val (.long (E1_ >>> ((1 : Int32) &&& 0x3f).toInt64)), .second, .val (.long (N2_ >>> ((1 : Int32) &&& 0x3f).toInt64)), .second, .val (.double r24), .second, .val (.double r26), .second, .val (.double r28), .second, .val (.double r30), .second, .val (.double r32), .second, .val (.double r34), .second, .val (.double r36), .second, .val (.long (9007199254740992 : Int64)), .second, .val (.int (1 : Int32))]) rfl kk) ?_
                  refine OGo.step (fun _ kk => XS.goto X44.here hx rfl (pc0 := 721) (pc' := 757) rfl (hb hby at_721) (by decide) (by decide) kk) ?_
                  show OGo p e below (T44.setTop (mkF m 757 #[.val (.long q1), .second, .val (.long q2), .second, .val (.long q3), .second, .val (.long q4), .second, .val (.int p1), .val (.long (9223372036854775807 : Int64)), .second, .val (.long E1_), .second, .val (.long N2_), .second, .val (.ref b), .val (.long ec), .second, .val (.long nc), .second, .val (.long (E1_ >>> ((1 : Int32) &&& 0x3f).toInt64)), .second, .val (.long (N2_ >>> ((1 : Int32) &&& 0x3f).toInt64)), .second, .val (.double r24), .second, .val (.double r26), .second, .val (.double r28), .second, .val (.double r30), .second, .val (.double r32), .second, .val (.double r34), .second, .val (.double r36), .second, .val (.long (9007199254740992 : Int64)), .second, .val (.int (1 : Int32))] [])) _
                  exact K757
              · refine OGo.step (fun _ kk => XS.ifYes X44.here hx rfl (pc0 := 691) (pc' := 757) rfl (hb hby at_691) rfl ((if0 _ _).trans (flt hl).2.1) (by decide) (by decide) kk) ?_
                show OGo p e below (T44.setTop (mkF m 757 #[.val (.long q1), .second, .val (.long q2), .second, .val (.long q3), .second, .val (.long q4), .second, .val (.int p1), .val (.long (9223372036854775807 : Int64)), .second, .val (.long E1_), .second, .val (.long N2_), .second, .val (.ref b), .val (.long ec), .second, .val (.long nc), .second, .val (.long (E1_ >>> ((1 : Int32) &&& 0x3f).toInt64)), .second, .val (.long (N2_ >>> ((1 : Int32) &&& 0x3f).toInt64)), .second, .val (.double r24), .second, .val (.double r26), .second, .val (.double r28), .second, .val (.double r30), .second, .val (.double r32), .second, .val (.double r34), .second, .val (.double r36), .second, .val (.long (9007199254740992 : Int64)), .second, .val (.int (1 : Int32))] [])) _
                exact K757
            have K638 : ¬ N2_ = (9223372036854775807 : Int64) → OGo p e below (T44.setTop (mkF m 638 #[.val (.long q1), .second, .val (.long q2), .second, .val (.long q3), .second, .val (.long q4), .second, .val (.int p1), .val (.long (9223372036854775807 : Int64)), .second, .val (.long E1_), .second, .val (.long N2_), .second, .val (.ref b), .val (.long ec), .second, .val (.long nc), .second, .val (.long (E1_ >>> ((1 : Int32) &&& 0x3f).toInt64)), .second, .val (.long (N2_ >>> ((1 : Int32) &&& 0x3f).toInt64)), .second, .val (.double r24), .second, .val (.double r26), .second, .val (.double r28), .second, .val (.double r30), .second, .val (.double r32), .second, .val (.double r34), .second, .val (.double r36), .second, .val (.long (9007199254740992 : Int64)), .second, .val (.int (1 : Int32))] [])) (OEnd s (fun v h L => v = some (.int (1 : Int32)) ∧ Fr n0 L) room_1.cells room_1.slots) := by
              intro hM
              show OGo p e below (T44.setTop (mkF m 638 #[.val (.long q1), .second, .val (.long q2), .second, .val (.long q3), .second, .val (.long q4), .second, .val (.int p1), .val (.long (9223372036854775807 : Int64)), .second, .val (.long E1_), .second, .val (.long N2_), .second, .val (.ref b), .val (.long ec), .second, .val (.long nc), .second, .val (.long (E1_ >>> ((1 : Int32) &&& 0x3f).toInt64)), .second, .val (.long (N2_ >>> ((1 : Int32) &&& 0x3f).toInt64)), .second, .val (.double r24), .second, .val (.double r26), .second, .val (.double r28), .second, .val (.double r30), .second, .val (.double r32), .second, .val (.double r34), .second, .val (.double r36), .second, .val (.long (9007199254740992 : Int64)), .second, .val (.int (1 : Int32))] [])) _
              refine OGo.step (fun _ kk => XS.lload X44.here hx rfl (hb hby at_638) rfl kk) ?_
              refine OGo.step (fun _ kk => XS.lconst X44.here hx rfl (hb hby at_640) kk) ?_
              refine OGo.step (fun _ kk => XS.lcmp X44.here hx rfl (hb hby at_641) rfl kk) ?_
              show OGo p e below (T44.setTop (mkF m 642 #[.val (.long q1), .second, .val (.long q2), .second, .val (.long q3), .second, .val (.long q4), .second, .val (.int p1), .val (.long (9223372036854775807 : Int64)), .second, .val (.long E1_), .second, .val (.long N2_), .second, .val (.ref b), .val (.long ec), .second, .val (.long nc), .second, .val (.long (E1_ >>> ((1 : Int32) &&& 0x3f).toInt64)), .second, .val (.long (N2_ >>> ((1 : Int32) &&& 0x3f).toInt64)), .second, .val (.double r24), .second, .val (.double r26), .second, .val (.double r28), .second, .val (.double r30), .second, .val (.double r32), .second, .val (.double r34), .second, .val (.double r36), .second, .val (.long (9007199254740992 : Int64)), .second, .val (.int (1 : Int32))] [(.int (lcmpW nc (0 : Int64)))])) _
              by_cases hp : (0 : Int32) < (lcmpW nc (0 : Int64))
              · refine OGo.step (fun _ kk => XS.ifNo X44.here hx rfl (hb hby at_642) rfl ((if0 _ _).trans (tlt hp).2.2.2) kk) ?_
                show OGo p e below (T44.setTop (mkF m 645 #[.val (.long q1), .second, .val (.long q2), .second, .val (.long q3), .second, .val (.long q4), .second, .val (.int p1), .val (.long (9223372036854775807 : Int64)), .second, .val (.long E1_), .second, .val (.long N2_), .second, .val (.ref b), .val (.long ec), .second, .val (.long nc), .second, .val (.long (E1_ >>> ((1 : Int32) &&& 0x3f).toInt64)), .second, .val (.long (N2_ >>> ((1 : Int32) &&& 0x3f).toInt64)), .second, .val (.double r24), .second, .val (.double r26), .second, .val (.double r28), .second, .val (.double r30), .second, .val (.double r32), .second, .val (.double r34), .second, .val (.double r36), .second, .val (.long (9007199254740992 : Int64)), .second, .val (.int (1 : Int32))] [])) _
                refine OGo.step (fun _ kk => XS.iload X44.here hx rfl (hb hby at_645) rfl kk) ?_
                show OGo p e below (T44.setTop (mkF m 647 #[.val (.long q1), .second, .val (.long q2), .second, .val (.long q3), .second, .val (.long q4), .second, .val (.int p1), .val (.long (9223372036854775807 : Int64)), .second, .val (.long E1_), .second, .val (.long N2_), .second, .val (.ref b), .val (.long ec), .second, .val (.long nc), .second, .val (.long (E1_ >>> ((1 : Int32) &&& 0x3f).toInt64)), .second, .val (.long (N2_ >>> ((1 : Int32) &&& 0x3f).toInt64)), .second, .val (.double r24), .second, .val (.double r26), .second, .val (.double r28), .second, .val (.double r30), .second, .val (.double r32), .second, .val (.double r34), .second, .val (.double r36), .second, .val (.long (9007199254740992 : Int64)), .second, .val (.int (1 : Int32))] [(.int (1 : Int32))])) _
                refine OGo.step (fun _ kk => XS.ifNo X44.here hx rfl (hb hby at_647) rfl ((if0 _ _).trans (feq (by decide)).1) kk) ?_
                show OGo p e below (T44.setTop (mkF m 650 #[.val (.long q1), .second, .val (.long q2), .second, .val (.long q3), .second, .val (.long q4), .second, .val (.int p1), .val (.long (9223372036854775807 : Int64)), .second, .val (.long E1_), .second, .val (.long N2_), .second, .val (.ref b), .val (.long ec), .second, .val (.long nc), .second, .val (.long (E1_ >>> ((1 : Int32) &&& 0x3f).toInt64)), .second, .val (.long (N2_ >>> ((1 : Int32) &&& 0x3f).toInt64)), .second, .val (.double r24), .second, .val (.double r26), .second, .val (.double r28), .second, .val (.double r30), .second, .val (.double r32), .second, .val (.double r34), .second, .val (.double r36), .second, .val (.long (9007199254740992 : Int64)), .second, .val (.int (1 : Int32))] [])) _
                refine OGo.step (fun _ kk => XS.dload X44.here hx rfl (hb hby at_650) rfl kk) ?_
                refine OGo.step (fun _ kk => XS.dconst0 X44.here hx rfl (hb hby at_652) rfl kk) ?_
                refine OGo.step (fun _ kk => XS.dcmpS X44.here hx rfl (hb hby at_653) rfl rfl kk) ?_
                show OGo p e below (T44.setTop (mkF m 654 #[.val (.long q1), .second, .val (.long q2), .second, .val (.long q3), .second, .val (.long q4), .second, .val (.int p1), .val (.long (9223372036854775807 : Int64)), .second, .val (.long E1_), .second, .val (.long N2_), .second, .val (.ref b), .val (.long ec), .second, .val (.long nc), .second, .val (.long (E1_ >>> ((1 : Int32) &&& 0x3f).toInt64)), .second, .val (.long (N2_ >>> ((1 : Int32) &&& 0x3f).toInt64)), .second, .val (.double r24), .second, .val (.double r26), .second, .val (.double r28), .second, .val (.double r30), .second, .val (.double r32), .second, .val (.double r34), .second, .val (.double r36), .second, .val (.long (9007199254740992 : Int64)), .second, .val (.int (1 : Int32))] [(.int (cmpValue (FP.dcmp r28 FP.dconst0) .l))])) _
                refine OGo.step (fun _ kk => XS.ifNo X44.here hx rfl (hb hby at_654) rfl ((if0 _ _).trans (tlt (own_gt U28 own_U0 (own_a5 hM gN (own_lgt hp)) _)).2.2.2) kk) ?_
                show OGo p e below (T44.setTop (mkF m 657 #[.val (.long q1), .second, .val (.long q2), .second, .val (.long q3), .second, .val (.long q4), .second, .val (.int p1), .val (.long (9223372036854775807 : Int64)), .second, .val (.long E1_), .second, .val (.long N2_), .second, .val (.ref b), .val (.long ec), .second, .val (.long nc), .second, .val (.long (E1_ >>> ((1 : Int32) &&& 0x3f).toInt64)), .second, .val (.long (N2_ >>> ((1 : Int32) &&& 0x3f).toInt64)), .second, .val (.double r24), .second, .val (.double r26), .second, .val (.double r28), .second, .val (.double r30), .second, .val (.double r32), .second, .val (.double r34), .second, .val (.double r36), .second, .val (.long (9007199254740992 : Int64)), .second, .val (.int (1 : Int32))] [])) _
                refine OGo.step (fun _ kk => XS.iconst X44.here hx rfl (hb hby at_657) kk) ?_
                refine OGo.step (fun _ kk => XS.goto X44.here hx rfl (pc0 := 658) (pc' := 662) rfl (hb hby at_658) (by decide) (by decide) kk) ?_
                refine OGo.step (fun _ kk => XS.istore X44.here hx rfl (hb hby at_662) rfl (l' := #[.val (.long q1), .second, .val (.long q2), .second, .val (.long q3), .second, .val (.long q4), .second, .val (.int p1), .val (.long (9223372036854775807 : Int64)), .second, .val (.long E1_), .second, .val (.long N2_), .second, .val (.ref b), .val (.long ec), .second, .val (.long nc), .second, .val (.long (E1_ >>> ((1 : Int32) &&& 0x3f).toInt64)), .second, .val (.long (N2_ >>> ((1 : Int32) &&& 0x3f).toInt64)), .second, .val (.double r24), .second, .val (.double r26), .second, .val (.double r28), .second, .val (.double r30), .second, .val (.double r32), .second, .val (.double r34), .second, .val (.double r36), .second, .val (.long (9007199254740992 : Int64)), .second, .val (.int (1 : Int32))]) rfl kk) ?_
                refine OGo.step (fun _ kk => XS.goto X44.here hx rfl (pc0 := 664) (pc' := 686) rfl (hb hby at_664) (by decide) (by decide) kk) ?_
                show OGo p e below (T44.setTop (mkF m 686 #[.val (.long q1), .second, .val (.long q2), .second, .val (.long q3), .second, .val (.long q4), .second, .val (.int p1), .val (.long (9223372036854775807 : Int64)), .second, .val (.long E1_), .second, .val (.long N2_), .second, .val (.ref b), .val (.long ec), .second, .val (.long nc), .second, .val (.long (E1_ >>> ((1 : Int32) &&& 0x3f).toInt64)), .second, .val (.long (N2_ >>> ((1 : Int32) &&& 0x3f).toInt64)), .second, .val (.double r24), .second, .val (.double r26), .second, .val (.double r28), .second, .val (.double r30), .second, .val (.double r32), .second, .val (.double r34), .second, .val (.double r36), .second, .val (.long (9007199254740992 : Int64)), .second, .val (.int (1 : Int32))] [])) _
                exact K686 hM
              · refine OGo.step (fun _ kk => XS.ifYes X44.here hx rfl (pc0 := 642) (pc' := 667) rfl (hb hby at_642) rfl ((if0 _ _).trans (flt hp).2.2.2) (by decide) (by decide) kk) ?_
                show OGo p e below (T44.setTop (mkF m 667 #[.val (.long q1), .second, .val (.long q2), .second, .val (.long q3), .second, .val (.long q4), .second, .val (.int p1), .val (.long (9223372036854775807 : Int64)), .second, .val (.long E1_), .second, .val (.long N2_), .second, .val (.ref b), .val (.long ec), .second, .val (.long nc), .second, .val (.long (E1_ >>> ((1 : Int32) &&& 0x3f).toInt64)), .second, .val (.long (N2_ >>> ((1 : Int32) &&& 0x3f).toInt64)), .second, .val (.double r24), .second, .val (.double r26), .second, .val (.double r28), .second, .val (.double r30), .second, .val (.double r32), .second, .val (.double r34), .second, .val (.double r36), .second, .val (.long (9007199254740992 : Int64)), .second, .val (.int (1 : Int32))] [])) _
                refine OGo.step (fun _ kk => XS.iload X44.here hx rfl (hb hby at_667) rfl kk) ?_
                show OGo p e below (T44.setTop (mkF m 669 #[.val (.long q1), .second, .val (.long q2), .second, .val (.long q3), .second, .val (.long q4), .second, .val (.int p1), .val (.long (9223372036854775807 : Int64)), .second, .val (.long E1_), .second, .val (.long N2_), .second, .val (.ref b), .val (.long ec), .second, .val (.long nc), .second, .val (.long (E1_ >>> ((1 : Int32) &&& 0x3f).toInt64)), .second, .val (.long (N2_ >>> ((1 : Int32) &&& 0x3f).toInt64)), .second, .val (.double r24), .second, .val (.double r26), .second, .val (.double r28), .second, .val (.double r30), .second, .val (.double r32), .second, .val (.double r34), .second, .val (.double r36), .second, .val (.long (9007199254740992 : Int64)), .second, .val (.int (1 : Int32))] [(.int (1 : Int32))])) _
                refine OGo.step (fun _ kk => XS.ifNo X44.here hx rfl (hb hby at_669) rfl ((if0 _ _).trans (feq (by decide)).1) kk) ?_
                show OGo p e below (T44.setTop (mkF m 672 #[.val (.long q1), .second, .val (.long q2), .second, .val (.long q3), .second, .val (.long q4), .second, .val (.int p1), .val (.long (9223372036854775807 : Int64)), .second, .val (.long E1_), .second, .val (.long N2_), .second, .val (.ref b), .val (.long ec), .second, .val (.long nc), .second, .val (.long (E1_ >>> ((1 : Int32) &&& 0x3f).toInt64)), .second, .val (.long (N2_ >>> ((1 : Int32) &&& 0x3f).toInt64)), .second, .val (.double r24), .second, .val (.double r26), .second, .val (.double r28), .second, .val (.double r30), .second, .val (.double r32), .second, .val (.double r34), .second, .val (.double r36), .second, .val (.long (9007199254740992 : Int64)), .second, .val (.int (1 : Int32))] [])) _
                refine OGo.step (fun _ kk => XS.dload X44.here hx rfl (hb hby at_672) rfl kk) ?_
                refine OGo.step (fun _ kk => XS.dconst0 X44.here hx rfl (hb hby at_674) rfl kk) ?_
                refine OGo.step (fun _ kk => XS.dcmpS X44.here hx rfl (hb hby at_675) rfl rfl kk) ?_
                show OGo p e below (T44.setTop (mkF m 676 #[.val (.long q1), .second, .val (.long q2), .second, .val (.long q3), .second, .val (.long q4), .second, .val (.int p1), .val (.long (9223372036854775807 : Int64)), .second, .val (.long E1_), .second, .val (.long N2_), .second, .val (.ref b), .val (.long ec), .second, .val (.long nc), .second, .val (.long (E1_ >>> ((1 : Int32) &&& 0x3f).toInt64)), .second, .val (.long (N2_ >>> ((1 : Int32) &&& 0x3f).toInt64)), .second, .val (.double r24), .second, .val (.double r26), .second, .val (.double r28), .second, .val (.double r30), .second, .val (.double r32), .second, .val (.double r34), .second, .val (.double r36), .second, .val (.long (9007199254740992 : Int64)), .second, .val (.int (1 : Int32))] [(.int (cmpValue (FP.dcmp r28 FP.dconst0) .l))])) _
                refine OGo.step (fun _ kk => XS.ifNo X44.here hx rfl (hb hby at_676) rfl ((if0 _ _).trans (teq (own_eq U28 own_U0 (own_a6 gN (Int.le_antisymm (own_lle hp) hnc)) _)).2) kk) ?_
                show OGo p e below (T44.setTop (mkF m 679 #[.val (.long q1), .second, .val (.long q2), .second, .val (.long q3), .second, .val (.long q4), .second, .val (.int p1), .val (.long (9223372036854775807 : Int64)), .second, .val (.long E1_), .second, .val (.long N2_), .second, .val (.ref b), .val (.long ec), .second, .val (.long nc), .second, .val (.long (E1_ >>> ((1 : Int32) &&& 0x3f).toInt64)), .second, .val (.long (N2_ >>> ((1 : Int32) &&& 0x3f).toInt64)), .second, .val (.double r24), .second, .val (.double r26), .second, .val (.double r28), .second, .val (.double r30), .second, .val (.double r32), .second, .val (.double r34), .second, .val (.double r36), .second, .val (.long (9007199254740992 : Int64)), .second, .val (.int (1 : Int32))] [])) _
                refine OGo.step (fun _ kk => XS.iconst X44.here hx rfl (hb hby at_679) kk) ?_
                refine OGo.step (fun _ kk => XS.goto X44.here hx rfl (pc0 := 680) (pc' := 684) rfl (hb hby at_680) (by decide) (by decide) kk) ?_
                refine OGo.step (fun _ kk => XS.istore X44.here hx rfl (hb hby at_684) rfl (l' := #[.val (.long q1), .second, .val (.long q2), .second, .val (.long q3), .second, .val (.long q4), .second, .val (.int p1), .val (.long (9223372036854775807 : Int64)), .second, .val (.long E1_), .second, .val (.long N2_), .second, .val (.ref b), .val (.long ec), .second, .val (.long nc), .second, .val (.long (E1_ >>> ((1 : Int32) &&& 0x3f).toInt64)), .second, .val (.long (N2_ >>> ((1 : Int32) &&& 0x3f).toInt64)), .second, .val (.double r24), .second, .val (.double r26), .second, .val (.double r28), .second, .val (.double r30), .second, .val (.double r32), .second, .val (.double r34), .second, .val (.double r36), .second, .val (.long (9007199254740992 : Int64)), .second, .val (.int (1 : Int32))]) rfl kk) ?_
                show OGo p e below (T44.setTop (mkF m 686 #[.val (.long q1), .second, .val (.long q2), .second, .val (.long q3), .second, .val (.long q4), .second, .val (.int p1), .val (.long (9223372036854775807 : Int64)), .second, .val (.long E1_), .second, .val (.long N2_), .second, .val (.ref b), .val (.long ec), .second, .val (.long nc), .second, .val (.long (E1_ >>> ((1 : Int32) &&& 0x3f).toInt64)), .second, .val (.long (N2_ >>> ((1 : Int32) &&& 0x3f).toInt64)), .second, .val (.double r24), .second, .val (.double r26), .second, .val (.double r28), .second, .val (.double r30), .second, .val (.double r32), .second, .val (.double r34), .second, .val (.double r36), .second, .val (.long (9007199254740992 : Int64)), .second, .val (.int (1 : Int32))] [])) _
                exact K686 hM
            have K611 : ¬ N2_ = (9223372036854775807 : Int64) → OGo p e below (T44.setTop (mkF m 611 #[.val (.long q1), .second, .val (.long q2), .second, .val (.long q3), .second, .val (.long q4), .second, .val (.int p1), .val (.long (9223372036854775807 : Int64)), .second, .val (.long E1_), .second, .val (.long N2_), .second, .val (.ref b), .val (.long ec), .second, .val (.long nc), .second, .val (.long (E1_ >>> ((1 : Int32) &&& 0x3f).toInt64)), .second, .val (.long (N2_ >>> ((1 : Int32) &&& 0x3f).toInt64)), .second, .val (.double r24), .second, .val (.double r26), .second, .val (.double r28), .second, .val (.double r30), .second, .val (.double r32), .second, .val (.double r34), .second, .val (.double r36), .second, .val (.long (9007199254740992 : Int64)), .second, .val (.int (1 : Int32))] [])) (OEnd s (fun v h L => v = some (.int (1 : Int32)) ∧ Fr n0 L) room_1.cells room_1.slots) := by
              intro hM
              show OGo p e below (T44.setTop (mkF m 611 #[.val (.long q1), .second, .val (.long q2), .second, .val (.long q3), .second, .val (.long q4), .second, .val (.int p1), .val (.long (9223372036854775807 : Int64)), .second, .val (.long E1_), .second, .val (.long N2_), .second, .val (.ref b), .val (.long ec), .second, .val (.long nc), .second, .val (.long (E1_ >>> ((1 : Int32) &&& 0x3f).toInt64)), .second, .val (.long (N2_ >>> ((1 : Int32) &&& 0x3f).toInt64)), .second, .val (.double r24), .second, .val (.double r26), .second, .val (.double r28), .second, .val (.double r30), .second, .val (.double r32), .second, .val (.double r34), .second, .val (.double r36), .second, .val (.long (9007199254740992 : Int64)), .second, .val (.int (1 : Int32))] [])) _
              refine OGo.step (fun _ kk => XS.lload X44.here hx rfl (hb hby at_611) rfl kk) ?_
              refine OGo.step (fun _ kk => XS.lload X44.here hx rfl (hb hby at_613) rfl kk) ?_
              refine OGo.step (fun _ kk => XS.lcmp X44.here hx rfl (hb hby at_615) rfl kk) ?_
              show OGo p e below (T44.setTop (mkF m 616 #[.val (.long q1), .second, .val (.long q2), .second, .val (.long q3), .second, .val (.long q4), .second, .val (.int p1), .val (.long (9223372036854775807 : Int64)), .second, .val (.long E1_), .second, .val (.long N2_), .second, .val (.ref b), .val (.long ec), .second, .val (.long nc), .second, .val (.long (E1_ >>> ((1 : Int32) &&& 0x3f).toInt64)), .second, .val (.long (N2_ >>> ((1 : Int32) &&& 0x3f).toInt64)), .second, .val (.double r24), .second, .val (.double r26), .second, .val (.double r28), .second, .val (.double r30), .second, .val (.double r32), .second, .val (.double r34), .second, .val (.double r36), .second, .val (.long (9007199254740992 : Int64)), .second, .val (.int (1 : Int32))] [(.int (lcmpW nc N2_))])) _
              by_cases hl : (lcmpW nc N2_) < (0 : Int32)
              · refine OGo.step (fun _ kk => XS.ifYes X44.here hx rfl (pc0 := 616) (pc' := 638) rfl (hb hby at_616) rfl ((if0 _ _).trans (tlt hl).1) (by decide) (by decide) kk) ?_
                show OGo p e below (T44.setTop (mkF m 638 #[.val (.long q1), .second, .val (.long q2), .second, .val (.long q3), .second, .val (.long q4), .second, .val (.int p1), .val (.long (9223372036854775807 : Int64)), .second, .val (.long E1_), .second, .val (.long N2_), .second, .val (.ref b), .val (.long ec), .second, .val (.long nc), .second, .val (.long (E1_ >>> ((1 : Int32) &&& 0x3f).toInt64)), .second, .val (.long (N2_ >>> ((1 : Int32) &&& 0x3f).toInt64)), .second, .val (.double r24), .second, .val (.double r26), .second, .val (.double r28), .second, .val (.double r30), .second, .val (.double r32), .second, .val (.double r34), .second, .val (.double r36), .second, .val (.long (9007199254740992 : Int64)), .second, .val (.int (1 : Int32))] [])) _
                exact K638 hM
              · refine OGo.step (fun _ kk => XS.ifNo X44.here hx rfl (hb hby at_616) rfl ((if0 _ _).trans (flt hl).1) kk) ?_
                show OGo p e below (T44.setTop (mkF m 619 #[.val (.long q1), .second, .val (.long q2), .second, .val (.long q3), .second, .val (.long q4), .second, .val (.int p1), .val (.long (9223372036854775807 : Int64)), .second, .val (.long E1_), .second, .val (.long N2_), .second, .val (.ref b), .val (.long ec), .second, .val (.long nc), .second, .val (.long (E1_ >>> ((1 : Int32) &&& 0x3f).toInt64)), .second, .val (.long (N2_ >>> ((1 : Int32) &&& 0x3f).toInt64)), .second, .val (.double r24), .second, .val (.double r26), .second, .val (.double r28), .second, .val (.double r30), .second, .val (.double r32), .second, .val (.double r34), .second, .val (.double r36), .second, .val (.long (9007199254740992 : Int64)), .second, .val (.int (1 : Int32))] [])) _
                refine OGo.step (fun _ kk => XS.iload X44.here hx rfl (hb hby at_619) rfl kk) ?_
                show OGo p e below (T44.setTop (mkF m 621 #[.val (.long q1), .second, .val (.long q2), .second, .val (.long q3), .second, .val (.long q4), .second, .val (.int p1), .val (.long (9223372036854775807 : Int64)), .second, .val (.long E1_), .second, .val (.long N2_), .second, .val (.ref b), .val (.long ec), .second, .val (.long nc), .second, .val (.long (E1_ >>> ((1 : Int32) &&& 0x3f).toInt64)), .second, .val (.long (N2_ >>> ((1 : Int32) &&& 0x3f).toInt64)), .second, .val (.double r24), .second, .val (.double r26), .second, .val (.double r28), .second, .val (.double r30), .second, .val (.double r32), .second, .val (.double r34), .second, .val (.double r36), .second, .val (.long (9007199254740992 : Int64)), .second, .val (.int (1 : Int32))] [(.int (1 : Int32))])) _
                refine OGo.step (fun _ kk => XS.ifNo X44.here hx rfl (hb hby at_621) rfl ((if0 _ _).trans (feq (by decide)).1) kk) ?_
                show OGo p e below (T44.setTop (mkF m 624 #[.val (.long q1), .second, .val (.long q2), .second, .val (.long q3), .second, .val (.long q4), .second, .val (.int p1), .val (.long (9223372036854775807 : Int64)), .second, .val (.long E1_), .second, .val (.long N2_), .second, .val (.ref b), .val (.long ec), .second, .val (.long nc), .second, .val (.long (E1_ >>> ((1 : Int32) &&& 0x3f).toInt64)), .second, .val (.long (N2_ >>> ((1 : Int32) &&& 0x3f).toInt64)), .second, .val (.double r24), .second, .val (.double r26), .second, .val (.double r28), .second, .val (.double r30), .second, .val (.double r32), .second, .val (.double r34), .second, .val (.double r36), .second, .val (.long (9007199254740992 : Int64)), .second, .val (.int (1 : Int32))] [])) _
                refine OGo.step (fun _ kk => XS.dload X44.here hx rfl (hb hby at_624) rfl kk) ?_
                refine OGo.step (fun _ kk => XS.dconst1 X44.here hx rfl (hb hby at_626) rfl kk) ?_
                refine OGo.step (fun _ kk => XS.dcmpS X44.here hx rfl (hb hby at_627) rfl rfl kk) ?_
                show OGo p e below (T44.setTop (mkF m 628 #[.val (.long q1), .second, .val (.long q2), .second, .val (.long q3), .second, .val (.long q4), .second, .val (.int p1), .val (.long (9223372036854775807 : Int64)), .second, .val (.long E1_), .second, .val (.long N2_), .second, .val (.ref b), .val (.long ec), .second, .val (.long nc), .second, .val (.long (E1_ >>> ((1 : Int32) &&& 0x3f).toInt64)), .second, .val (.long (N2_ >>> ((1 : Int32) &&& 0x3f).toInt64)), .second, .val (.double r24), .second, .val (.double r26), .second, .val (.double r28), .second, .val (.double r30), .second, .val (.double r32), .second, .val (.double r34), .second, .val (.double r36), .second, .val (.long (9007199254740992 : Int64)), .second, .val (.int (1 : Int32))] [(.int (cmpValue (FP.dcmp r28 FP.dconst1) .l))])) _
                refine OGo.step (fun _ kk => XS.ifNo X44.here hx rfl (hb hby at_628) rfl ((if0 _ _).trans (teq (own_eq U28 own_U1 (own_a4 hM gN (own_lge hl)) _)).2) kk) ?_
                show OGo p e below (T44.setTop (mkF m 631 #[.val (.long q1), .second, .val (.long q2), .second, .val (.long q3), .second, .val (.long q4), .second, .val (.int p1), .val (.long (9223372036854775807 : Int64)), .second, .val (.long E1_), .second, .val (.long N2_), .second, .val (.ref b), .val (.long ec), .second, .val (.long nc), .second, .val (.long (E1_ >>> ((1 : Int32) &&& 0x3f).toInt64)), .second, .val (.long (N2_ >>> ((1 : Int32) &&& 0x3f).toInt64)), .second, .val (.double r24), .second, .val (.double r26), .second, .val (.double r28), .second, .val (.double r30), .second, .val (.double r32), .second, .val (.double r34), .second, .val (.double r36), .second, .val (.long (9007199254740992 : Int64)), .second, .val (.int (1 : Int32))] [])) _
                refine OGo.step (fun _ kk => XS.iconst X44.here hx rfl (hb hby at_631) kk) ?_
                refine OGo.step (fun _ kk => XS.goto X44.here hx rfl (pc0 := 632) (pc' := 636) rfl (hb hby at_632) (by decide) (by decide) kk) ?_
                refine OGo.step (fun _ kk => XS.istore X44.here hx rfl (hb hby at_636) rfl (l' := #[.val (.long q1), .second, .val (.long q2), .second, .val (.long q3), .second, .val (.long q4), .second, .val (.int p1), .val (.long (9223372036854775807 : Int64)), .second, .val (.long E1_), .second, .val (.long N2_), .second, .val (.ref b), .val (.long ec), .second, .val (.long nc), .second, .val (.long (E1_ >>> ((1 : Int32) &&& 0x3f).toInt64)), .second, .val (.long (N2_ >>> ((1 : Int32) &&& 0x3f).toInt64)), .second, .val (.double r24), .second, .val (.double r26), .second, .val (.double r28), .second, .val (.double r30), .second, .val (.double r32), .second, .val (.double r34), .second, .val (.double r36), .second, .val (.long (9007199254740992 : Int64)), .second, .val (.int (1 : Int32))]) rfl kk) ?_
                show OGo p e below (T44.setTop (mkF m 638 #[.val (.long q1), .second, .val (.long q2), .second, .val (.long q3), .second, .val (.long q4), .second, .val (.int p1), .val (.long (9223372036854775807 : Int64)), .second, .val (.long E1_), .second, .val (.long N2_), .second, .val (.ref b), .val (.long ec), .second, .val (.long nc), .second, .val (.long (E1_ >>> ((1 : Int32) &&& 0x3f).toInt64)), .second, .val (.long (N2_ >>> ((1 : Int32) &&& 0x3f).toInt64)), .second, .val (.double r24), .second, .val (.double r26), .second, .val (.double r28), .second, .val (.double r30), .second, .val (.double r32), .second, .val (.double r34), .second, .val (.double r36), .second, .val (.long (9007199254740992 : Int64)), .second, .val (.int (1 : Int32))] [])) _
                exact K638 hM
            have K572 : ¬ N2_ = (9223372036854775807 : Int64) → OGo p e below (T44.setTop (mkF m 572 #[.val (.long q1), .second, .val (.long q2), .second, .val (.long q3), .second, .val (.long q4), .second, .val (.int p1), .val (.long (9223372036854775807 : Int64)), .second, .val (.long E1_), .second, .val (.long N2_), .second, .val (.ref b), .val (.long ec), .second, .val (.long nc), .second, .val (.long (E1_ >>> ((1 : Int32) &&& 0x3f).toInt64)), .second, .val (.long (N2_ >>> ((1 : Int32) &&& 0x3f).toInt64)), .second, .val (.double r24), .second, .val (.double r26), .second, .val (.double r28), .second, .val (.double r30), .second, .val (.double r32), .second, .val (.double r34), .second, .val (.double r36), .second, .val (.long (9007199254740992 : Int64)), .second, .val (.int (1 : Int32))] [])) (OEnd s (fun v h L => v = some (.int (1 : Int32)) ∧ Fr n0 L) room_1.cells room_1.slots) := by
              intro hM
              show OGo p e below (T44.setTop (mkF m 572 #[.val (.long q1), .second, .val (.long q2), .second, .val (.long q3), .second, .val (.long q4), .second, .val (.int p1), .val (.long (9223372036854775807 : Int64)), .second, .val (.long E1_), .second, .val (.long N2_), .second, .val (.ref b), .val (.long ec), .second, .val (.long nc), .second, .val (.long (E1_ >>> ((1 : Int32) &&& 0x3f).toInt64)), .second, .val (.long (N2_ >>> ((1 : Int32) &&& 0x3f).toInt64)), .second, .val (.double r24), .second, .val (.double r26), .second, .val (.double r28), .second, .val (.double r30), .second, .val (.double r32), .second, .val (.double r34), .second, .val (.double r36), .second, .val (.long (9007199254740992 : Int64)), .second, .val (.int (1 : Int32))] [])) _
              refine OGo.step (fun _ kk => XS.iload X44.here hx rfl (hb hby at_572) rfl kk) ?_
              show OGo p e below (T44.setTop (mkF m 574 #[.val (.long q1), .second, .val (.long q2), .second, .val (.long q3), .second, .val (.long q4), .second, .val (.int p1), .val (.long (9223372036854775807 : Int64)), .second, .val (.long E1_), .second, .val (.long N2_), .second, .val (.ref b), .val (.long ec), .second, .val (.long nc), .second, .val (.long (E1_ >>> ((1 : Int32) &&& 0x3f).toInt64)), .second, .val (.long (N2_ >>> ((1 : Int32) &&& 0x3f).toInt64)), .second, .val (.double r24), .second, .val (.double r26), .second, .val (.double r28), .second, .val (.double r30), .second, .val (.double r32), .second, .val (.double r34), .second, .val (.double r36), .second, .val (.long (9007199254740992 : Int64)), .second, .val (.int (1 : Int32))] [(.int (1 : Int32))])) _
              refine OGo.step (fun _ kk => XS.ifNo X44.here hx rfl (hb hby at_574) rfl ((if0 _ _).trans (feq (by decide)).1) kk) ?_
              show OGo p e below (T44.setTop (mkF m 577 #[.val (.long q1), .second, .val (.long q2), .second, .val (.long q3), .second, .val (.long q4), .second, .val (.int p1), .val (.long (9223372036854775807 : Int64)), .second, .val (.long E1_), .second, .val (.long N2_), .second, .val (.ref b), .val (.long ec), .second, .val (.long nc), .second, .val (.long (E1_ >>> ((1 : Int32) &&& 0x3f).toInt64)), .second, .val (.long (N2_ >>> ((1 : Int32) &&& 0x3f).toInt64)), .second, .val (.double r24), .second, .val (.double r26), .second, .val (.double r28), .second, .val (.double r30), .second, .val (.double r32), .second, .val (.double r34), .second, .val (.double r36), .second, .val (.long (9007199254740992 : Int64)), .second, .val (.int (1 : Int32))] [])) _
              refine OGo.step (fun _ kk => XS.lload X44.here hx rfl (hb hby at_577) rfl kk) ?_
              refine OGo.step (fun _ kk => XS.lload X44.here hx rfl (hb hby at_579) rfl kk) ?_
              refine OGo.step (fun _ kk => XS.lcmp X44.here hx rfl (hb hby at_581) rfl kk) ?_
              show OGo p e below (T44.setTop (mkF m 582 #[.val (.long q1), .second, .val (.long q2), .second, .val (.long q3), .second, .val (.long q4), .second, .val (.int p1), .val (.long (9223372036854775807 : Int64)), .second, .val (.long E1_), .second, .val (.long N2_), .second, .val (.ref b), .val (.long ec), .second, .val (.long nc), .second, .val (.long (E1_ >>> ((1 : Int32) &&& 0x3f).toInt64)), .second, .val (.long (N2_ >>> ((1 : Int32) &&& 0x3f).toInt64)), .second, .val (.double r24), .second, .val (.double r26), .second, .val (.double r28), .second, .val (.double r30), .second, .val (.double r32), .second, .val (.double r34), .second, .val (.double r36), .second, .val (.long (9007199254740992 : Int64)), .second, .val (.int (1 : Int32))] [(.int (lcmpW nc (N2_ >>> ((1 : Int32) &&& 0x3f).toInt64)))])) _
              by_cases hg : (0 : Int32) < (lcmpW nc (N2_ >>> ((1 : Int32) &&& 0x3f).toInt64))
              · refine OGo.step (fun _ kk => XS.ifYes X44.here hx rfl (pc0 := 582) (pc' := 596) rfl (hb hby at_582) rfl ((if0 _ _).trans (tlt hg).2.2.1) (by decide) (by decide) kk) ?_
                show OGo p e below (T44.setTop (mkF m 596 #[.val (.long q1), .second, .val (.long q2), .second, .val (.long q3), .second, .val (.long q4), .second, .val (.int p1), .val (.long (9223372036854775807 : Int64)), .second, .val (.long E1_), .second, .val (.long N2_), .second, .val (.ref b), .val (.long ec), .second, .val (.long nc), .second, .val (.long (E1_ >>> ((1 : Int32) &&& 0x3f).toInt64)), .second, .val (.long (N2_ >>> ((1 : Int32) &&& 0x3f).toInt64)), .second, .val (.double r24), .second, .val (.double r26), .second, .val (.double r28), .second, .val (.double r30), .second, .val (.double r32), .second, .val (.double r34), .second, .val (.double r36), .second, .val (.long (9007199254740992 : Int64)), .second, .val (.int (1 : Int32))] [])) _
                refine OGo.step (fun _ kk => XS.dload X44.here hx rfl (hb hby at_596) rfl kk) ?_
                refine OGo.step (fun _ kk => XS.dload X44.here hx rfl (hb hby at_598) rfl kk) ?_
                refine OGo.step (fun _ kk => XS.dcmpS X44.here hx rfl (hb hby at_600) rfl rfl kk) ?_
                show OGo p e below (T44.setTop (mkF m 601 #[.val (.long q1), .second, .val (.long q2), .second, .val (.long q3), .second, .val (.long q4), .second, .val (.int p1), .val (.long (9223372036854775807 : Int64)), .second, .val (.long E1_), .second, .val (.long N2_), .second, .val (.ref b), .val (.long ec), .second, .val (.long nc), .second, .val (.long (E1_ >>> ((1 : Int32) &&& 0x3f).toInt64)), .second, .val (.long (N2_ >>> ((1 : Int32) &&& 0x3f).toInt64)), .second, .val (.double r24), .second, .val (.double r26), .second, .val (.double r28), .second, .val (.double r30), .second, .val (.double r32), .second, .val (.double r34), .second, .val (.double r36), .second, .val (.long (9007199254740992 : Int64)), .second, .val (.int (1 : Int32))] [(.int (cmpValue (FP.dcmp r28 r36) .l))])) _
                refine OGo.step (fun _ kk => XS.ifNo X44.here hx rfl (hb hby at_601) rfl ((if0 _ _).trans (flt (own_nlt U28 U36 (own_a3 (own_shr0 gN) (Int.le_of_lt (own_lgt hg)) gN) _)).1) kk) ?_
                show OGo p e below (T44.setTop (mkF m 604 #[.val (.long q1), .second, .val (.long q2), .second, .val (.long q3), .second, .val (.long q4), .second, .val (.int p1), .val (.long (9223372036854775807 : Int64)), .second, .val (.long E1_), .second, .val (.long N2_), .second, .val (.ref b), .val (.long ec), .second, .val (.long nc), .second, .val (.long (E1_ >>> ((1 : Int32) &&& 0x3f).toInt64)), .second, .val (.long (N2_ >>> ((1 : Int32) &&& 0x3f).toInt64)), .second, .val (.double r24), .second, .val (.double r26), .second, .val (.double r28), .second, .val (.double r30), .second, .val (.double r32), .second, .val (.double r34), .second, .val (.double r36), .second, .val (.long (9007199254740992 : Int64)), .second, .val (.int (1 : Int32))] [])) _
                refine OGo.step (fun _ kk => XS.iconst X44.here hx rfl (hb hby at_604) kk) ?_
                refine OGo.step (fun _ kk => XS.goto X44.here hx rfl (pc0 := 605) (pc' := 609) rfl (hb hby at_605) (by decide) (by decide) kk) ?_
                refine OGo.step (fun _ kk => XS.istore X44.here hx rfl (hb hby at_609) rfl (l' := #[.val (.long q1), .second, .val (.long q2), .second, .val (.long q3), .second, .val (.long q4), .second, .val (.int p1), .val (.long (9223372036854775807 : Int64)), .second, .val (.long E1_), .second, .val (.long N2_), .second, .val (.ref b), .val (.long ec), .second, .val (.long nc), .second, .val (.long (E1_ >>> ((1 : Int32) &&& 0x3f).toInt64)), .second, .val (.long (N2_ >>> ((1 : Int32) &&& 0x3f).toInt64)), .second, .val (.double r24), .second, .val (.double r26), .second, .val (.double r28), .second, .val (.double r30), .second, .val (.double r32), .second, .val (.double r34), .second, .val (.double r36), .second, .val (.long (9007199254740992 : Int64)), .second, .val (.int (1 : Int32))]) rfl kk) ?_
                show OGo p e below (T44.setTop (mkF m 611 #[.val (.long q1), .second, .val (.long q2), .second, .val (.long q3), .second, .val (.long q4), .second, .val (.int p1), .val (.long (9223372036854775807 : Int64)), .second, .val (.long E1_), .second, .val (.long N2_), .second, .val (.ref b), .val (.long ec), .second, .val (.long nc), .second, .val (.long (E1_ >>> ((1 : Int32) &&& 0x3f).toInt64)), .second, .val (.long (N2_ >>> ((1 : Int32) &&& 0x3f).toInt64)), .second, .val (.double r24), .second, .val (.double r26), .second, .val (.double r28), .second, .val (.double r30), .second, .val (.double r32), .second, .val (.double r34), .second, .val (.double r36), .second, .val (.long (9007199254740992 : Int64)), .second, .val (.int (1 : Int32))] [])) _
                exact K611 hM
              · refine OGo.step (fun _ kk => XS.ifNo X44.here hx rfl (hb hby at_582) rfl ((if0 _ _).trans (flt hg).2.2.1) kk) ?_
                show OGo p e below (T44.setTop (mkF m 585 #[.val (.long q1), .second, .val (.long q2), .second, .val (.long q3), .second, .val (.long q4), .second, .val (.int p1), .val (.long (9223372036854775807 : Int64)), .second, .val (.long E1_), .second, .val (.long N2_), .second, .val (.ref b), .val (.long ec), .second, .val (.long nc), .second, .val (.long (E1_ >>> ((1 : Int32) &&& 0x3f).toInt64)), .second, .val (.long (N2_ >>> ((1 : Int32) &&& 0x3f).toInt64)), .second, .val (.double r24), .second, .val (.double r26), .second, .val (.double r28), .second, .val (.double r30), .second, .val (.double r32), .second, .val (.double r34), .second, .val (.double r36), .second, .val (.long (9007199254740992 : Int64)), .second, .val (.int (1 : Int32))] [])) _
                refine OGo.step (fun _ kk => XS.dload X44.here hx rfl (hb hby at_585) rfl kk) ?_
                refine OGo.step (fun _ kk => XS.dload X44.here hx rfl (hb hby at_587) rfl kk) ?_
                refine OGo.step (fun _ kk => XS.dcmpS X44.here hx rfl (hb hby at_589) rfl rfl kk) ?_
                show OGo p e below (T44.setTop (mkF m 590 #[.val (.long q1), .second, .val (.long q2), .second, .val (.long q3), .second, .val (.long q4), .second, .val (.int p1), .val (.long (9223372036854775807 : Int64)), .second, .val (.long E1_), .second, .val (.long N2_), .second, .val (.ref b), .val (.long ec), .second, .val (.long nc), .second, .val (.long (E1_ >>> ((1 : Int32) &&& 0x3f).toInt64)), .second, .val (.long (N2_ >>> ((1 : Int32) &&& 0x3f).toInt64)), .second, .val (.double r24), .second, .val (.double r26), .second, .val (.double r28), .second, .val (.double r30), .second, .val (.double r32), .second, .val (.double r34), .second, .val (.double r36), .second, .val (.long (9007199254740992 : Int64)), .second, .val (.int (1 : Int32))] [(.int (cmpValue (FP.dcmp r28 r36) .g))])) _
                refine OGo.step (fun _ kk => XS.ifNo X44.here hx rfl (hb hby at_590) rfl ((if0 _ _).trans (flt (own_ngt U28 U36 (own_a3 hnc (own_lle hg) gN) _)).2.2.1) kk) ?_
                show OGo p e below (T44.setTop (mkF m 593 #[.val (.long q1), .second, .val (.long q2), .second, .val (.long q3), .second, .val (.long q4), .second, .val (.int p1), .val (.long (9223372036854775807 : Int64)), .second, .val (.long E1_), .second, .val (.long N2_), .second, .val (.ref b), .val (.long ec), .second, .val (.long nc), .second, .val (.long (E1_ >>> ((1 : Int32) &&& 0x3f).toInt64)), .second, .val (.long (N2_ >>> ((1 : Int32) &&& 0x3f).toInt64)), .second, .val (.double r24), .second, .val (.double r26), .second, .val (.double r28), .second, .val (.double r30), .second, .val (.double r32), .second, .val (.double r34), .second, .val (.double r36), .second, .val (.long (9007199254740992 : Int64)), .second, .val (.int (1 : Int32))] [])) _
                refine OGo.step (fun _ kk => XS.goto X44.here hx rfl (pc0 := 593) (pc' := 604) rfl (hb hby at_593) (by decide) (by decide) kk) ?_
                refine OGo.step (fun _ kk => XS.iconst X44.here hx rfl (hb hby at_604) kk) ?_
                refine OGo.step (fun _ kk => XS.goto X44.here hx rfl (pc0 := 605) (pc' := 609) rfl (hb hby at_605) (by decide) (by decide) kk) ?_
                refine OGo.step (fun _ kk => XS.istore X44.here hx rfl (hb hby at_609) rfl (l' := #[.val (.long q1), .second, .val (.long q2), .second, .val (.long q3), .second, .val (.long q4), .second, .val (.int p1), .val (.long (9223372036854775807 : Int64)), .second, .val (.long E1_), .second, .val (.long N2_), .second, .val (.ref b), .val (.long ec), .second, .val (.long nc), .second, .val (.long (E1_ >>> ((1 : Int32) &&& 0x3f).toInt64)), .second, .val (.long (N2_ >>> ((1 : Int32) &&& 0x3f).toInt64)), .second, .val (.double r24), .second, .val (.double r26), .second, .val (.double r28), .second, .val (.double r30), .second, .val (.double r32), .second, .val (.double r34), .second, .val (.double r36), .second, .val (.long (9007199254740992 : Int64)), .second, .val (.int (1 : Int32))]) rfl kk) ?_
                show OGo p e below (T44.setTop (mkF m 611 #[.val (.long q1), .second, .val (.long q2), .second, .val (.long q3), .second, .val (.long q4), .second, .val (.int p1), .val (.long (9223372036854775807 : Int64)), .second, .val (.long E1_), .second, .val (.long N2_), .second, .val (.ref b), .val (.long ec), .second, .val (.long nc), .second, .val (.long (E1_ >>> ((1 : Int32) &&& 0x3f).toInt64)), .second, .val (.long (N2_ >>> ((1 : Int32) &&& 0x3f).toInt64)), .second, .val (.double r24), .second, .val (.double r26), .second, .val (.double r28), .second, .val (.double r30), .second, .val (.double r32), .second, .val (.double r34), .second, .val (.double r36), .second, .val (.long (9007199254740992 : Int64)), .second, .val (.int (1 : Int32))] [])) _
                exact K611 hM
            have K515 : OGo p e below (T44.setTop (mkF m 515 #[.val (.long q1), .second, .val (.long q2), .second, .val (.long q3), .second, .val (.long q4), .second, .val (.int p1), .val (.long (9223372036854775807 : Int64)), .second, .val (.long E1_), .second, .val (.long N2_), .second, .val (.ref b), .val (.long ec), .second, .val (.long nc), .second, .val (.long (E1_ >>> ((1 : Int32) &&& 0x3f).toInt64)), .second, .val (.long (N2_ >>> ((1 : Int32) &&& 0x3f).toInt64)), .second, .val (.double r24), .second, .val (.double r26), .second, .val (.double r28), .second, .val (.double r30), .second, .val (.double r32), .second, .val (.double r34), .second, .val (.double r36), .second, .val (.long (9007199254740992 : Int64)), .second, .val (.int (1 : Int32))] [])) (OEnd s (fun v h L => v = some (.int (1 : Int32)) ∧ Fr n0 L) room_1.cells room_1.slots) := by
              show OGo p e below (T44.setTop (mkF m 515 #[.val (.long q1), .second, .val (.long q2), .second, .val (.long q3), .second, .val (.long q4), .second, .val (.int p1), .val (.long (9223372036854775807 : Int64)), .second, .val (.long E1_), .second, .val (.long N2_), .second, .val (.ref b), .val (.long ec), .second, .val (.long nc), .second, .val (.long (E1_ >>> ((1 : Int32) &&& 0x3f).toInt64)), .second, .val (.long (N2_ >>> ((1 : Int32) &&& 0x3f).toInt64)), .second, .val (.double r24), .second, .val (.double r26), .second, .val (.double r28), .second, .val (.double r30), .second, .val (.double r32), .second, .val (.double r34), .second, .val (.double r36), .second, .val (.long (9007199254740992 : Int64)), .second, .val (.int (1 : Int32))] [])) _
              refine OGo.step (fun _ kk => XS.lload X44.here hx rfl (hb hby at_515) rfl kk) ?_
              refine OGo.step (fun _ kk => XS.lload X44.here hx rfl (hb hby at_517) rfl kk) ?_
              refine OGo.step (fun _ kk => XS.lcmp X44.here hx rfl (hb hby at_519) rfl kk) ?_
              show OGo p e below (T44.setTop (mkF m 520 #[.val (.long q1), .second, .val (.long q2), .second, .val (.long q3), .second, .val (.long q4), .second, .val (.int p1), .val (.long (9223372036854775807 : Int64)), .second, .val (.long E1_), .second, .val (.long N2_), .second, .val (.ref b), .val (.long ec), .second, .val (.long nc), .second, .val (.long (E1_ >>> ((1 : Int32) &&& 0x3f).toInt64)), .second, .val (.long (N2_ >>> ((1 : Int32) &&& 0x3f).toInt64)), .second, .val (.double r24), .second, .val (.double r26), .second, .val (.double r28), .second, .val (.double r30), .second, .val (.double r32), .second, .val (.double r34), .second, .val (.double r36), .second, .val (.long (9007199254740992 : Int64)), .second, .val (.int (1 : Int32))] [(.int (lcmpW N2_ (9223372036854775807 : Int64)))])) _
              by_cases hm242 : (lcmpW N2_ (9223372036854775807 : Int64)) = (0 : Int32)
              · refine OGo.step (fun _ kk => XS.ifYes X44.here hx rfl (pc0 := 520) (pc' := 724) rfl (hb hby at_520) rfl ((if0 _ _).trans (teq hm242).1) (by decide) (by decide) kk) ?_
                show OGo p e below (T44.setTop (mkF m 724 #[.val (.long q1), .second, .val (.long q2), .second, .val (.long q3), .second, .val (.long q4), .second, .val (.int p1), .val (.long (9223372036854775807 : Int64)), .second, .val (.long E1_), .second, .val (.long N2_), .second, .val (.ref b), .val (.long ec), .second, .val (.long nc), .second, .val (.long (E1_ >>> ((1 : Int32) &&& 0x3f).toInt64)), .second, .val (.long (N2_ >>> ((1 : Int32) &&& 0x3f).toInt64)), .second, .val (.double r24), .second, .val (.double r26), .second, .val (.double r28), .second, .val (.double r30), .second, .val (.double r32), .second, .val (.double r34), .second, .val (.double r36), .second, .val (.long (9007199254740992 : Int64)), .second, .val (.int (1 : Int32))] [])) _
                have hM := (lw_eq _ _).mp hm242
                refine OGo.step (fun _ kk => XS.iload X44.here hx rfl (hb hby at_724) rfl kk) ?_
                show OGo p e below (T44.setTop (mkF m 726 #[.val (.long q1), .second, .val (.long q2), .second, .val (.long q3), .second, .val (.long q4), .second, .val (.int p1), .val (.long (9223372036854775807 : Int64)), .second, .val (.long E1_), .second, .val (.long N2_), .second, .val (.ref b), .val (.long ec), .second, .val (.long nc), .second, .val (.long (E1_ >>> ((1 : Int32) &&& 0x3f).toInt64)), .second, .val (.long (N2_ >>> ((1 : Int32) &&& 0x3f).toInt64)), .second, .val (.double r24), .second, .val (.double r26), .second, .val (.double r28), .second, .val (.double r30), .second, .val (.double r32), .second, .val (.double r34), .second, .val (.double r36), .second, .val (.long (9007199254740992 : Int64)), .second, .val (.int (1 : Int32))] [(.int (1 : Int32))])) _
                refine OGo.step (fun _ kk => XS.ifNo X44.here hx rfl (hb hby at_726) rfl ((if0 _ _).trans (feq (by decide)).1) kk) ?_
                show OGo p e below (T44.setTop (mkF m 729 #[.val (.long q1), .second, .val (.long q2), .second, .val (.long q3), .second, .val (.long q4), .second, .val (.int p1), .val (.long (9223372036854775807 : Int64)), .second, .val (.long E1_), .second, .val (.long N2_), .second, .val (.ref b), .val (.long ec), .second, .val (.long nc), .second, .val (.long (E1_ >>> ((1 : Int32) &&& 0x3f).toInt64)), .second, .val (.long (N2_ >>> ((1 : Int32) &&& 0x3f).toInt64)), .second, .val (.double r24), .second, .val (.double r26), .second, .val (.double r28), .second, .val (.double r30), .second, .val (.double r32), .second, .val (.double r34), .second, .val (.double r36), .second, .val (.long (9007199254740992 : Int64)), .second, .val (.int (1 : Int32))] [])) _
                refine OGo.step (fun _ kk => XS.dload X44.here hx rfl (hb hby at_729) rfl kk) ?_
                refine OGo.step (fun _ kk => XS.dconst0 X44.here hx rfl (hb hby at_731) rfl kk) ?_
                refine OGo.step (fun _ kk => XS.dcmpS X44.here hx rfl (hb hby at_732) rfl rfl kk) ?_
                show OGo p e below (T44.setTop (mkF m 733 #[.val (.long q1), .second, .val (.long q2), .second, .val (.long q3), .second, .val (.long q4), .second, .val (.int p1), .val (.long (9223372036854775807 : Int64)), .second, .val (.long E1_), .second, .val (.long N2_), .second, .val (.ref b), .val (.long ec), .second, .val (.long nc), .second, .val (.long (E1_ >>> ((1 : Int32) &&& 0x3f).toInt64)), .second, .val (.long (N2_ >>> ((1 : Int32) &&& 0x3f).toInt64)), .second, .val (.double r24), .second, .val (.double r26), .second, .val (.double r28), .second, .val (.double r30), .second, .val (.double r32), .second, .val (.double r34), .second, .val (.double r36), .second, .val (.long (9007199254740992 : Int64)), .second, .val (.int (1 : Int32))] [(.int (cmpValue (FP.dcmp r28 FP.dconst0) .l))])) _
                refine OGo.step (fun _ kk => XS.ifNo X44.here hx rfl (hb hby at_733) rfl ((if0 _ _).trans (teq (own_eq U28 own_U0 (own_a8 hM) _)).2) kk) ?_
                show OGo p e below (T44.setTop (mkF m 736 #[.val (.long q1), .second, .val (.long q2), .second, .val (.long q3), .second, .val (.long q4), .second, .val (.int p1), .val (.long (9223372036854775807 : Int64)), .second, .val (.long E1_), .second, .val (.long N2_), .second, .val (.ref b), .val (.long ec), .second, .val (.long nc), .second, .val (.long (E1_ >>> ((1 : Int32) &&& 0x3f).toInt64)), .second, .val (.long (N2_ >>> ((1 : Int32) &&& 0x3f).toInt64)), .second, .val (.double r24), .second, .val (.double r26), .second, .val (.double r28), .second, .val (.double r30), .second, .val (.double r32), .second, .val (.double r34), .second, .val (.double r36), .second, .val (.long (9007199254740992 : Int64)), .second, .val (.int (1 : Int32))] [])) _
                refine OGo.step (fun _ kk => XS.dload X44.here hx rfl (hb hby at_736) rfl kk) ?_
                refine OGo.step (fun _ kk => XS.dconst0 X44.here hx rfl (hb hby at_738) rfl kk) ?_
                refine OGo.step (fun _ kk => XS.dcmpS X44.here hx rfl (hb hby at_739) rfl rfl kk) ?_
                show OGo p e below (T44.setTop (mkF m 740 #[.val (.long q1), .second, .val (.long q2), .second, .val (.long q3), .second, .val (.long q4), .second, .val (.int p1), .val (.long (9223372036854775807 : Int64)), .second, .val (.long E1_), .second, .val (.long N2_), .second, .val (.ref b), .val (.long ec), .second, .val (.long nc), .second, .val (.long (E1_ >>> ((1 : Int32) &&& 0x3f).toInt64)), .second, .val (.long (N2_ >>> ((1 : Int32) &&& 0x3f).toInt64)), .second, .val (.double r24), .second, .val (.double r26), .second, .val (.double r28), .second, .val (.double r30), .second, .val (.double r32), .second, .val (.double r34), .second, .val (.double r36), .second, .val (.long (9007199254740992 : Int64)), .second, .val (.int (1 : Int32))] [(.int (cmpValue (FP.dcmp r32 FP.dconst0) .l))])) _
                refine OGo.step (fun _ kk => XS.ifNo X44.here hx rfl (hb hby at_740) rfl ((if0 _ _).trans (teq (own_eq U32 own_U0 (own_a8 hM) _)).2) kk) ?_
                show OGo p e below (T44.setTop (mkF m 743 #[.val (.long q1), .second, .val (.long q2), .second, .val (.long q3), .second, .val (.long q4), .second, .val (.int p1), .val (.long (9223372036854775807 : Int64)), .second, .val (.long E1_), .second, .val (.long N2_), .second, .val (.ref b), .val (.long ec), .second, .val (.long nc), .second, .val (.long (E1_ >>> ((1 : Int32) &&& 0x3f).toInt64)), .second, .val (.long (N2_ >>> ((1 : Int32) &&& 0x3f).toInt64)), .second, .val (.double r24), .second, .val (.double r26), .second, .val (.double r28), .second, .val (.double r30), .second, .val (.double r32), .second, .val (.double r34), .second, .val (.double r36), .second, .val (.long (9007199254740992 : Int64)), .second, .val (.int (1 : Int32))] [])) _
                refine OGo.step (fun _ kk => XS.dload X44.here hx rfl (hb hby at_743) rfl kk) ?_
                refine OGo.step (fun _ kk => XS.dconst0 X44.here hx rfl (hb hby at_745) rfl kk) ?_
                refine OGo.step (fun _ kk => XS.dcmpS X44.here hx rfl (hb hby at_746) rfl rfl kk) ?_
                show OGo p e below (T44.setTop (mkF m 747 #[.val (.long q1), .second, .val (.long q2), .second, .val (.long q3), .second, .val (.long q4), .second, .val (.int p1), .val (.long (9223372036854775807 : Int64)), .second, .val (.long E1_), .second, .val (.long N2_), .second, .val (.ref b), .val (.long ec), .second, .val (.long nc), .second, .val (.long (E1_ >>> ((1 : Int32) &&& 0x3f).toInt64)), .second, .val (.long (N2_ >>> ((1 : Int32) &&& 0x3f).toInt64)), .second, .val (.double r24), .second, .val (.double r26), .second, .val (.double r28), .second, .val (.double r30), .second, .val (.double r32), .second, .val (.double r34), .second, .val (.double r36), .second, .val (.long (9007199254740992 : Int64)), .second, .val (.int (1 : Int32))] [(.int (cmpValue (FP.dcmp r36 FP.dconst0) .l))])) _
                refine OGo.step (fun _ kk => XS.ifNo X44.here hx rfl (hb hby at_747) rfl ((if0 _ _).trans (teq (own_eq U36 own_U0 (own_a8 hM) _)).2) kk) ?_
                show OGo p e below (T44.setTop (mkF m 750 #[.val (.long q1), .second, .val (.long q2), .second, .val (.long q3), .second, .val (.long q4), .second, .val (.int p1), .val (.long (9223372036854775807 : Int64)), .second, .val (.long E1_), .second, .val (.long N2_), .second, .val (.ref b), .val (.long ec), .second, .val (.long nc), .second, .val (.long (E1_ >>> ((1 : Int32) &&& 0x3f).toInt64)), .second, .val (.long (N2_ >>> ((1 : Int32) &&& 0x3f).toInt64)), .second, .val (.double r24), .second, .val (.double r26), .second, .val (.double r28), .second, .val (.double r30), .second, .val (.double r32), .second, .val (.double r34), .second, .val (.double r36), .second, .val (.long (9007199254740992 : Int64)), .second, .val (.int (1 : Int32))] [])) _
                refine OGo.step (fun _ kk => XS.iconst X44.here hx rfl (hb hby at_750) kk) ?_
                refine OGo.step (fun _ kk => XS.goto X44.here hx rfl (pc0 := 751) (pc' := 755) rfl (hb hby at_751) (by decide) (by decide) kk) ?_
                refine OGo.step (fun _ kk => XS.istore X44.here hx rfl (hb hby at_755) rfl (l' := #[.val (.long q1), .second, .val (.long q2), .second, .val (.long q3), .second, .val (.long q4), .second, .val (.int p1), .val (.long (9223372036854775807 : Int64)), .second, .val (.long E1_), .second, .val (.long N2_), .second, .val (.ref b), .val (.long ec), .second, .val (.long nc), .second, .val (.long (E1_ >>> ((1 : Int32) &&& 0x3f).toInt64)), .second, .val (.long (N2_ >>> ((1 : Int32) &&& 0x3f).toInt64)), .second, .val (.double r24), .second, .val (.double r26), .second, .val (.double r28), .second, .val (.double r30), .second, .val (.double r32), .second, .val (.double r34), .second, .val (.double r36), .second, .val (.long (9007199254740992 : Int64)), .second, .val (.int (1 : Int32))]) rfl kk) ?_
                show OGo p e below (T44.setTop (mkF m 757 #[.val (.long q1), .second, .val (.long q2), .second, .val (.long q3), .second, .val (.long q4), .second, .val (.int p1), .val (.long (9223372036854775807 : Int64)), .second, .val (.long E1_), .second, .val (.long N2_), .second, .val (.ref b), .val (.long ec), .second, .val (.long nc), .second, .val (.long (E1_ >>> ((1 : Int32) &&& 0x3f).toInt64)), .second, .val (.long (N2_ >>> ((1 : Int32) &&& 0x3f).toInt64)), .second, .val (.double r24), .second, .val (.double r26), .second, .val (.double r28), .second, .val (.double r30), .second, .val (.double r32), .second, .val (.double r34), .second, .val (.double r36), .second, .val (.long (9007199254740992 : Int64)), .second, .val (.int (1 : Int32))] [])) _
                exact K757
              · refine OGo.step (fun _ kk => XS.ifNo X44.here hx rfl (hb hby at_520) rfl ((if0 _ _).trans (feq hm242).1) kk) ?_
                show OGo p e below (T44.setTop (mkF m 523 #[.val (.long q1), .second, .val (.long q2), .second, .val (.long q3), .second, .val (.long q4), .second, .val (.int p1), .val (.long (9223372036854775807 : Int64)), .second, .val (.long E1_), .second, .val (.long N2_), .second, .val (.ref b), .val (.long ec), .second, .val (.long nc), .second, .val (.long (E1_ >>> ((1 : Int32) &&& 0x3f).toInt64)), .second, .val (.long (N2_ >>> ((1 : Int32) &&& 0x3f).toInt64)), .second, .val (.double r24), .second, .val (.double r26), .second, .val (.double r28), .second, .val (.double r30), .second, .val (.double r32), .second, .val (.double r34), .second, .val (.double r36), .second, .val (.long (9007199254740992 : Int64)), .second, .val (.int (1 : Int32))] [])) _
                have hM : ¬ N2_ = (9223372036854775807 : Int64) := fun z => hm242 ((lw_eq _ _).mpr z)
                refine OGo.step (fun _ kk => XS.iload X44.here hx rfl (hb hby at_523) rfl kk) ?_
                show OGo p e below (T44.setTop (mkF m 525 #[.val (.long q1), .second, .val (.long q2), .second, .val (.long q3), .second, .val (.long q4), .second, .val (.int p1), .val (.long (9223372036854775807 : Int64)), .second, .val (.long E1_), .second, .val (.long N2_), .second, .val (.ref b), .val (.long ec), .second, .val (.long nc), .second, .val (.long (E1_ >>> ((1 : Int32) &&& 0x3f).toInt64)), .second, .val (.long (N2_ >>> ((1 : Int32) &&& 0x3f).toInt64)), .second, .val (.double r24), .second, .val (.double r26), .second, .val (.double r28), .second, .val (.double r30), .second, .val (.double r32), .second, .val (.double r34), .second, .val (.double r36), .second, .val (.long (9007199254740992 : Int64)), .second, .val (.int (1 : Int32))] [(.int (1 : Int32))])) _
                refine OGo.step (fun _ kk => XS.ifNo X44.here hx rfl (hb hby at_525) rfl ((if0 _ _).trans (feq (by decide)).1) kk) ?_
                show OGo p e below (T44.setTop (mkF m 528 #[.val (.long q1), .second, .val (.long q2), .second, .val (.long q3), .second, .val (.long q4), .second, .val (.int p1), .val (.long (9223372036854775807 : Int64)), .second, .val (.long E1_), .second, .val (.long N2_), .second, .val (.ref b), .val (.long ec), .second, .val (.long nc), .second, .val (.long (E1_ >>> ((1 : Int32) &&& 0x3f).toInt64)), .second, .val (.long (N2_ >>> ((1 : Int32) &&& 0x3f).toInt64)), .second, .val (.double r24), .second, .val (.double r26), .second, .val (.double r28), .second, .val (.double r30), .second, .val (.double r32), .second, .val (.double r34), .second, .val (.double r36), .second, .val (.long (9007199254740992 : Int64)), .second, .val (.int (1 : Int32))] [])) _
                refine OGo.step (fun _ kk => XS.dload X44.here hx rfl (hb hby at_528) rfl kk) ?_
                refine OGo.step (fun _ kk => XS.dconst1 X44.here hx rfl (hb hby at_530) rfl kk) ?_
                refine OGo.step (fun _ kk => XS.dcmpS X44.here hx rfl (hb hby at_531) rfl rfl kk) ?_
                show OGo p e below (T44.setTop (mkF m 532 #[.val (.long q1), .second, .val (.long q2), .second, .val (.long q3), .second, .val (.long q4), .second, .val (.int p1), .val (.long (9223372036854775807 : Int64)), .second, .val (.long E1_), .second, .val (.long N2_), .second, .val (.ref b), .val (.long ec), .second, .val (.long nc), .second, .val (.long (E1_ >>> ((1 : Int32) &&& 0x3f).toInt64)), .second, .val (.long (N2_ >>> ((1 : Int32) &&& 0x3f).toInt64)), .second, .val (.double r24), .second, .val (.double r26), .second, .val (.double r28), .second, .val (.double r30), .second, .val (.double r32), .second, .val (.double r34), .second, .val (.double r36), .second, .val (.long (9007199254740992 : Int64)), .second, .val (.int (1 : Int32))] [(.int (cmpValue (FP.dcmp r32 FP.dconst1) .l))])) _
                refine OGo.step (fun _ kk => XS.ifNo X44.here hx rfl (hb hby at_532) rfl ((if0 _ _).trans (teq (own_eq U32 own_U1 (own_a1 hM gN) _)).2) kk) ?_
                show OGo p e below (T44.setTop (mkF m 535 #[.val (.long q1), .second, .val (.long q2), .second, .val (.long q3), .second, .val (.long q4), .second, .val (.int p1), .val (.long (9223372036854775807 : Int64)), .second, .val (.long E1_), .second, .val (.long N2_), .second, .val (.ref b), .val (.long ec), .second, .val (.long nc), .second, .val (.long (E1_ >>> ((1 : Int32) &&& 0x3f).toInt64)), .second, .val (.long (N2_ >>> ((1 : Int32) &&& 0x3f).toInt64)), .second, .val (.double r24), .second, .val (.double r26), .second, .val (.double r28), .second, .val (.double r30), .second, .val (.double r32), .second, .val (.double r34), .second, .val (.double r36), .second, .val (.long (9007199254740992 : Int64)), .second, .val (.int (1 : Int32))] [])) _
                refine OGo.step (fun _ kk => XS.iconst X44.here hx rfl (hb hby at_535) kk) ?_
                refine OGo.step (fun _ kk => XS.goto X44.here hx rfl (pc0 := 536) (pc' := 540) rfl (hb hby at_536) (by decide) (by decide) kk) ?_
                refine OGo.step (fun _ kk => XS.istore X44.here hx rfl (hb hby at_540) rfl (l' := #[.val (.long q1), .second, .val (.long q2), .second, .val (.long q3), .second, .val (.long q4), .second, .val (.int p1), .val (.long (9223372036854775807 : Int64)), .second, .val (.long E1_), .second, .val (.long N2_), .second, .val (.ref b), .val (.long ec), .second, .val (.long nc), .second, .val (.long (E1_ >>> ((1 : Int32) &&& 0x3f).toInt64)), .second, .val (.long (N2_ >>> ((1 : Int32) &&& 0x3f).toInt64)), .second, .val (.double r24), .second, .val (.double r26), .second, .val (.double r28), .second, .val (.double r30), .second, .val (.double r32), .second, .val (.double r34), .second, .val (.double r36), .second, .val (.long (9007199254740992 : Int64)), .second, .val (.int (1 : Int32))]) rfl kk) ?_
                refine OGo.step (fun _ kk => XS.lload X44.here hx rfl (hb hby at_542) rfl kk) ?_
                refine OGo.step (fun _ kk => XS.lconst X44.here hx rfl (hb hby at_544) kk) ?_
                refine OGo.step (fun _ kk => XS.land X44.here hx rfl (hb hby at_545) rfl kk) ?_
                refine OGo.step (fun _ kk => XS.lconst X44.here hx rfl (hb hby at_546) kk) ?_
                refine OGo.step (fun _ kk => XS.lcmp X44.here hx rfl (hb hby at_547) rfl kk) ?_
                show OGo p e below (T44.setTop (mkF m 548 #[.val (.long q1), .second, .val (.long q2), .second, .val (.long q3), .second, .val (.long q4), .second, .val (.int p1), .val (.long (9223372036854775807 : Int64)), .second, .val (.long E1_), .second, .val (.long N2_), .second, .val (.ref b), .val (.long ec), .second, .val (.long nc), .second, .val (.long (E1_ >>> ((1 : Int32) &&& 0x3f).toInt64)), .second, .val (.long (N2_ >>> ((1 : Int32) &&& 0x3f).toInt64)), .second, .val (.double r24), .second, .val (.double r26), .second, .val (.double r28), .second, .val (.double r30), .second, .val (.double r32), .second, .val (.double r34), .second, .val (.double r36), .second, .val (.long (9007199254740992 : Int64)), .second, .val (.int (1 : Int32))] [(.int (lcmpW (N2_ &&& (1 : Int64)) (0 : Int64)))])) _
                by_cases hv242 : (lcmpW (N2_ &&& (1 : Int64)) (0 : Int64)) = (0 : Int32)
                · refine OGo.step (fun _ kk => XS.ifNo X44.here hx rfl (hb hby at_548) rfl ((if0 _ _).trans (teq hv242).2) kk) ?_
                  show OGo p e below (T44.setTop (mkF m 551 #[.val (.long q1), .second, .val (.long q2), .second, .val (.long q3), .second, .val (.long q4), .second, .val (.int p1), .val (.long (9223372036854775807 : Int64)), .second, .val (.long E1_), .second, .val (.long N2_), .second, .val (.ref b), .val (.long ec), .second, .val (.long nc), .second, .val (.long (E1_ >>> ((1 : Int32) &&& 0x3f).toInt64)), .second, .val (.long (N2_ >>> ((1 : Int32) &&& 0x3f).toInt64)), .second, .val (.double r24), .second, .val (.double r26), .second, .val (.double r28), .second, .val (.double r30), .second, .val (.double r32), .second, .val (.double r34), .second, .val (.double r36), .second, .val (.long (9007199254740992 : Int64)), .second, .val (.int (1 : Int32))] [])) _
                  refine OGo.step (fun _ kk => XS.iload X44.here hx rfl (hb hby at_551) rfl kk) ?_
                  show OGo p e below (T44.setTop (mkF m 553 #[.val (.long q1), .second, .val (.long q2), .second, .val (.long q3), .second, .val (.long q4), .second, .val (.int p1), .val (.long (9223372036854775807 : Int64)), .second, .val (.long E1_), .second, .val (.long N2_), .second, .val (.ref b), .val (.long ec), .second, .val (.long nc), .second, .val (.long (E1_ >>> ((1 : Int32) &&& 0x3f).toInt64)), .second, .val (.long (N2_ >>> ((1 : Int32) &&& 0x3f).toInt64)), .second, .val (.double r24), .second, .val (.double r26), .second, .val (.double r28), .second, .val (.double r30), .second, .val (.double r32), .second, .val (.double r34), .second, .val (.double r36), .second, .val (.long (9007199254740992 : Int64)), .second, .val (.int (1 : Int32))] [(.int (1 : Int32))])) _
                  refine OGo.step (fun _ kk => XS.ifNo X44.here hx rfl (hb hby at_553) rfl ((if0 _ _).trans (feq (by decide)).1) kk) ?_
                  show OGo p e below (T44.setTop (mkF m 556 #[.val (.long q1), .second, .val (.long q2), .second, .val (.long q3), .second, .val (.long q4), .second, .val (.int p1), .val (.long (9223372036854775807 : Int64)), .second, .val (.long E1_), .second, .val (.long N2_), .second, .val (.ref b), .val (.long ec), .second, .val (.long nc), .second, .val (.long (E1_ >>> ((1 : Int32) &&& 0x3f).toInt64)), .second, .val (.long (N2_ >>> ((1 : Int32) &&& 0x3f).toInt64)), .second, .val (.double r24), .second, .val (.double r26), .second, .val (.double r28), .second, .val (.double r30), .second, .val (.double r32), .second, .val (.double r34), .second, .val (.double r36), .second, .val (.long (9007199254740992 : Int64)), .second, .val (.int (1 : Int32))] [])) _
                  refine OGo.step (fun _ kk => XS.dload X44.here hx rfl (hb hby at_556) rfl kk) ?_
                  refine OGo.step (fun _ kk => X44.ldc2DoubleC hx hown (mvT hZ (hw _ (List.mem_of_getElem? (i := 47) rfl))) (g := (mkF m 558 #[.val (.long q1), .second, .val (.long q2), .second, .val (.long q3), .second, .val (.long q4), .second, .val (.int p1), .val (.long (9223372036854775807 : Int64)), .second, .val (.long E1_), .second, .val (.long N2_), .second, .val (.ref b), .val (.long ec), .second, .val (.long nc), .second, .val (.long (E1_ >>> ((1 : Int32) &&& 0x3f).toInt64)), .second, .val (.long (N2_ >>> ((1 : Int32) &&& 0x3f).toInt64)), .second, .val (.double r24), .second, .val (.double r26), .second, .val (.double r28), .second, .val (.double r30), .second, .val (.double r32), .second, .val (.double r34), .second, .val (.double r36), .second, .val (.long (9007199254740992 : Int64)), .second, .val (.int (1 : Int32))] [(.double r36)])) rfl (hb hby at_558) _ kk) ?_
                  refine OGo.step (fun _ kk => XS.dcmpS X44.here hx rfl (hb hby at_561) rfl rfl kk) ?_
                  show OGo p e below (T44.setTop (mkF m 562 #[.val (.long q1), .second, .val (.long q2), .second, .val (.long q3), .second, .val (.long q4), .second, .val (.int p1), .val (.long (9223372036854775807 : Int64)), .second, .val (.long E1_), .second, .val (.long N2_), .second, .val (.ref b), .val (.long ec), .second, .val (.long nc), .second, .val (.long (E1_ >>> ((1 : Int32) &&& 0x3f).toInt64)), .second, .val (.long (N2_ >>> ((1 : Int32) &&& 0x3f).toInt64)), .second, .val (.double r24), .second, .val (.double r26), .second, .val (.double r28), .second, .val (.double r30), .second, .val (.double r32), .second, .val (.double r34), .second, .val (.double r36), .second, .val (.long (9007199254740992 : Int64)), .second, .val (.int (1 : Int32))] [(.int (cmpValue (FP.dcmp r36 (4602678819172646912 : UInt64)) .l))])) _
                  refine OGo.step (fun _ kk => XS.ifNo X44.here hx rfl (hb hby at_562) rfl ((if0 _ _).trans (teq (own_eq U36 own_Uhf (own_a2 hM gN ((lw_eq _ _).mp hv242)) _)).2) kk) ?_
                  show OGo p e below (T44.setTop (mkF m 565 #[.val (.long q1), .second, .val (.long q2), .second, .val (.long q3), .second, .val (.long q4), .second, .val (.int p1), .val (.long (9223372036854775807 : Int64)), .second, .val (.long E1_), .second, .val (.long N2_), .second, .val (.ref b), .val (.long ec), .second, .val (.long nc), .second, .val (.long (E1_ >>> ((1 : Int32) &&& 0x3f).toInt64)), .second, .val (.long (N2_ >>> ((1 : Int32) &&& 0x3f).toInt64)), .second, .val (.double r24), .second, .val (.double r26), .second, .val (.double r28), .second, .val (.double r30), .second, .val (.double r32), .second, .val (.double r34), .second, .val (.double r36), .second, .val (.long (9007199254740992 : Int64)), .second, .val (.int (1 : Int32))] [])) _
                  refine OGo.step (fun _ kk => XS.iconst X44.here hx rfl (hb hby at_565) kk) ?_
                  refine OGo.step (fun _ kk => XS.goto X44.here hx rfl (pc0 := 566) (pc' := 570) rfl (hb hby at_566) (by decide) (by decide) kk) ?_
                  refine OGo.step (fun _ kk => XS.istore X44.here hx rfl (hb hby at_570) rfl (l' := #[.val (.long q1), .second, .val (.long q2), .second, .val (.long q3), .second, .val (.long q4), .second, .val (.int p1), .val (.long (9223372036854775807 : Int64)), .second, .val (.long E1_), .second, .val (.long N2_), .second, .val (.ref b), .val (.long ec), .second, .val (.long nc), .second, .val (.long (E1_ >>> ((1 : Int32) &&& 0x3f).toInt64)), .second, .val (.long (N2_ >>> ((1 : Int32) &&& 0x3f).toInt64)), .second, .val (.double r24), .second, .val (.double r26), .second, .val (.double r28), .second, .val (.double r30), .second, .val (.double r32), .second, .val (.double r34), .second, .val (.double r36), .second, .val (.long (9007199254740992 : Int64)), .second, .val (.int (1 : Int32))]) rfl kk) ?_
                  show OGo p e below (T44.setTop (mkF m 572 #[.val (.long q1), .second, .val (.long q2), .second, .val (.long q3), .second, .val (.long q4), .second, .val (.int p1), .val (.long (9223372036854775807 : Int64)), .second, .val (.long E1_), .second, .val (.long N2_), .second, .val (.ref b), .val (.long ec), .second, .val (.long nc), .second, .val (.long (E1_ >>> ((1 : Int32) &&& 0x3f).toInt64)), .second, .val (.long (N2_ >>> ((1 : Int32) &&& 0x3f).toInt64)), .second, .val (.double r24), .second, .val (.double r26), .second, .val (.double r28), .second, .val (.double r30), .second, .val (.double r32), .second, .val (.double r34), .second, .val (.double r36), .second, .val (.long (9007199254740992 : Int64)), .second, .val (.int (1 : Int32))] [])) _
                  exact K572 hM
                · refine OGo.step (fun _ kk => XS.ifYes X44.here hx rfl (pc0 := 548) (pc' := 572) rfl (hb hby at_548) rfl ((if0 _ _).trans (feq hv242).2) (by decide) (by decide) kk) ?_
                  show OGo p e below (T44.setTop (mkF m 572 #[.val (.long q1), .second, .val (.long q2), .second, .val (.long q3), .second, .val (.long q4), .second, .val (.int p1), .val (.long (9223372036854775807 : Int64)), .second, .val (.long E1_), .second, .val (.long N2_), .second, .val (.ref b), .val (.long ec), .second, .val (.long nc), .second, .val (.long (E1_ >>> ((1 : Int32) &&& 0x3f).toInt64)), .second, .val (.long (N2_ >>> ((1 : Int32) &&& 0x3f).toInt64)), .second, .val (.double r24), .second, .val (.double r26), .second, .val (.double r28), .second, .val (.double r30), .second, .val (.double r32), .second, .val (.double r34), .second, .val (.double r36), .second, .val (.long (9007199254740992 : Int64)), .second, .val (.int (1 : Int32))] [])) _
                  exact K572 hM
            have K444 : ¬ E1_ = (9223372036854775807 : Int64) → OGo p e below (T44.setTop (mkF m 444 #[.val (.long q1), .second, .val (.long q2), .second, .val (.long q3), .second, .val (.long q4), .second, .val (.int p1), .val (.long (9223372036854775807 : Int64)), .second, .val (.long E1_), .second, .val (.long N2_), .second, .val (.ref b), .val (.long ec), .second, .val (.long nc), .second, .val (.long (E1_ >>> ((1 : Int32) &&& 0x3f).toInt64)), .second, .val (.long (N2_ >>> ((1 : Int32) &&& 0x3f).toInt64)), .second, .val (.double r24), .second, .val (.double r26), .second, .val (.double r28), .second, .val (.double r30), .second, .val (.double r32), .second, .val (.double r34), .second, .val (.double r36), .second, .val (.long (9007199254740992 : Int64)), .second, .val (.int (1 : Int32))] [])) (OEnd s (fun v h L => v = some (.int (1 : Int32)) ∧ Fr n0 L) room_1.cells room_1.slots) := by
              intro hM
              show OGo p e below (T44.setTop (mkF m 444 #[.val (.long q1), .second, .val (.long q2), .second, .val (.long q3), .second, .val (.long q4), .second, .val (.int p1), .val (.long (9223372036854775807 : Int64)), .second, .val (.long E1_), .second, .val (.long N2_), .second, .val (.ref b), .val (.long ec), .second, .val (.long nc), .second, .val (.long (E1_ >>> ((1 : Int32) &&& 0x3f).toInt64)), .second, .val (.long (N2_ >>> ((1 : Int32) &&& 0x3f).toInt64)), .second, .val (.double r24), .second, .val (.double r26), .second, .val (.double r28), .second, .val (.double r30), .second, .val (.double r32), .second, .val (.double r34), .second, .val (.double r36), .second, .val (.long (9007199254740992 : Int64)), .second, .val (.int (1 : Int32))] [])) _
              refine OGo.step (fun _ kk => XS.lload X44.here hx rfl (hb hby at_444) rfl kk) ?_
              refine OGo.step (fun _ kk => XS.lload X44.here hx rfl (hb hby at_446) rfl kk) ?_
              refine OGo.step (fun _ kk => XS.lcmp X44.here hx rfl (hb hby at_448) rfl kk) ?_
              show OGo p e below (T44.setTop (mkF m 449 #[.val (.long q1), .second, .val (.long q2), .second, .val (.long q3), .second, .val (.long q4), .second, .val (.int p1), .val (.long (9223372036854775807 : Int64)), .second, .val (.long E1_), .second, .val (.long N2_), .second, .val (.ref b), .val (.long ec), .second, .val (.long nc), .second, .val (.long (E1_ >>> ((1 : Int32) &&& 0x3f).toInt64)), .second, .val (.long (N2_ >>> ((1 : Int32) &&& 0x3f).toInt64)), .second, .val (.double r24), .second, .val (.double r26), .second, .val (.double r28), .second, .val (.double r30), .second, .val (.double r32), .second, .val (.double r34), .second, .val (.double r36), .second, .val (.long (9007199254740992 : Int64)), .second, .val (.int (1 : Int32))] [(.int (lcmpW ec E1_))])) _
              by_cases hl : (lcmpW ec E1_) < (0 : Int32)
              · refine OGo.step (fun _ kk => XS.ifNo X44.here hx rfl (hb hby at_449) rfl ((if0 _ _).trans (tlt hl).2.1) kk) ?_
                show OGo p e below (T44.setTop (mkF m 452 #[.val (.long q1), .second, .val (.long q2), .second, .val (.long q3), .second, .val (.long q4), .second, .val (.int p1), .val (.long (9223372036854775807 : Int64)), .second, .val (.long E1_), .second, .val (.long N2_), .second, .val (.ref b), .val (.long ec), .second, .val (.long nc), .second, .val (.long (E1_ >>> ((1 : Int32) &&& 0x3f).toInt64)), .second, .val (.long (N2_ >>> ((1 : Int32) &&& 0x3f).toInt64)), .second, .val (.double r24), .second, .val (.double r26), .second, .val (.double r28), .second, .val (.double r30), .second, .val (.double r32), .second, .val (.double r34), .second, .val (.double r36), .second, .val (.long (9007199254740992 : Int64)), .second, .val (.int (1 : Int32))] [])) _
                refine OGo.step (fun _ kk => XS.lload X44.here hx rfl (hb hby at_452) rfl kk) ?_
                refine OGo.step (fun _ kk => XS.lload X44.here hx rfl (hb hby at_454) rfl kk) ?_
                refine OGo.step (fun _ kk => XS.lcmp X44.here hx rfl (hb hby at_456) rfl kk) ?_
                show OGo p e below (T44.setTop (mkF m 457 #[.val (.long q1), .second, .val (.long q2), .second, .val (.long q3), .second, .val (.long q4), .second, .val (.int p1), .val (.long (9223372036854775807 : Int64)), .second, .val (.long E1_), .second, .val (.long N2_), .second, .val (.ref b), .val (.long ec), .second, .val (.long nc), .second, .val (.long (E1_ >>> ((1 : Int32) &&& 0x3f).toInt64)), .second, .val (.long (N2_ >>> ((1 : Int32) &&& 0x3f).toInt64)), .second, .val (.double r24), .second, .val (.double r26), .second, .val (.double r28), .second, .val (.double r30), .second, .val (.double r32), .second, .val (.double r34), .second, .val (.double r36), .second, .val (.long (9007199254740992 : Int64)), .second, .val (.int (1 : Int32))] [(.int (lcmpW E1_ (9007199254740992 : Int64)))])) _
                by_cases hs : (0 : Int32) < (lcmpW E1_ (9007199254740992 : Int64))
                · refine OGo.step (fun _ kk => XS.ifYes X44.here hx rfl (pc0 := 457) (pc' := 515) rfl (hb hby at_457) rfl ((if0 _ _).trans (tlt hs).2.2.1) (by decide) (by decide) kk) ?_
                  show OGo p e below (T44.setTop (mkF m 515 #[.val (.long q1), .second, .val (.long q2), .second, .val (.long q3), .second, .val (.long q4), .second, .val (.int p1), .val (.long (9223372036854775807 : Int64)), .second, .val (.long E1_), .second, .val (.long N2_), .second, .val (.ref b), .val (.long ec), .second, .val (.long nc), .second, .val (.long (E1_ >>> ((1 : Int32) &&& 0x3f).toInt64)), .second, .val (.long (N2_ >>> ((1 : Int32) &&& 0x3f).toInt64)), .second, .val (.double r24), .second, .val (.double r26), .second, .val (.double r28), .second, .val (.double r30), .second, .val (.double r32), .second, .val (.double r34), .second, .val (.double r36), .second, .val (.long (9007199254740992 : Int64)), .second, .val (.int (1 : Int32))] [])) _
                  exact K515
                · refine OGo.step (fun _ kk => XS.ifNo X44.here hx rfl (hb hby at_457) rfl ((if0 _ _).trans (flt hs).2.2.1) kk) ?_
                  show OGo p e below (T44.setTop (mkF m 460 #[.val (.long q1), .second, .val (.long q2), .second, .val (.long q3), .second, .val (.long q4), .second, .val (.int p1), .val (.long (9223372036854775807 : Int64)), .second, .val (.long E1_), .second, .val (.long N2_), .second, .val (.ref b), .val (.long ec), .second, .val (.long nc), .second, .val (.long (E1_ >>> ((1 : Int32) &&& 0x3f).toInt64)), .second, .val (.long (N2_ >>> ((1 : Int32) &&& 0x3f).toInt64)), .second, .val (.double r24), .second, .val (.double r26), .second, .val (.double r28), .second, .val (.double r30), .second, .val (.double r32), .second, .val (.double r34), .second, .val (.double r36), .second, .val (.long (9007199254740992 : Int64)), .second, .val (.int (1 : Int32))] [])) _
                  refine OGo.step (fun _ kk => XS.iload X44.here hx rfl (hb hby at_460) rfl kk) ?_
                  show OGo p e below (T44.setTop (mkF m 462 #[.val (.long q1), .second, .val (.long q2), .second, .val (.long q3), .second, .val (.long q4), .second, .val (.int p1), .val (.long (9223372036854775807 : Int64)), .second, .val (.long E1_), .second, .val (.long N2_), .second, .val (.ref b), .val (.long ec), .second, .val (.long nc), .second, .val (.long (E1_ >>> ((1 : Int32) &&& 0x3f).toInt64)), .second, .val (.long (N2_ >>> ((1 : Int32) &&& 0x3f).toInt64)), .second, .val (.double r24), .second, .val (.double r26), .second, .val (.double r28), .second, .val (.double r30), .second, .val (.double r32), .second, .val (.double r34), .second, .val (.double r36), .second, .val (.long (9007199254740992 : Int64)), .second, .val (.int (1 : Int32))] [(.int (1 : Int32))])) _
                  refine OGo.step (fun _ kk => XS.ifNo X44.here hx rfl (hb hby at_462) rfl ((if0 _ _).trans (feq (by decide)).1) kk) ?_
                  show OGo p e below (T44.setTop (mkF m 465 #[.val (.long q1), .second, .val (.long q2), .second, .val (.long q3), .second, .val (.long q4), .second, .val (.int p1), .val (.long (9223372036854775807 : Int64)), .second, .val (.long E1_), .second, .val (.long N2_), .second, .val (.ref b), .val (.long ec), .second, .val (.long nc), .second, .val (.long (E1_ >>> ((1 : Int32) &&& 0x3f).toInt64)), .second, .val (.long (N2_ >>> ((1 : Int32) &&& 0x3f).toInt64)), .second, .val (.double r24), .second, .val (.double r26), .second, .val (.double r28), .second, .val (.double r30), .second, .val (.double r32), .second, .val (.double r34), .second, .val (.double r36), .second, .val (.long (9007199254740992 : Int64)), .second, .val (.int (1 : Int32))] [])) _
                  refine OGo.step (fun _ kk => XS.dload X44.here hx rfl (hb hby at_465) rfl kk) ?_
                  refine OGo.step (fun _ kk => XS.dconst1 X44.here hx rfl (hb hby at_467) rfl kk) ?_
                  refine OGo.step (fun _ kk => XS.dcmpS X44.here hx rfl (hb hby at_468) rfl rfl kk) ?_
                  show OGo p e below (T44.setTop (mkF m 469 #[.val (.long q1), .second, .val (.long q2), .second, .val (.long q3), .second, .val (.long q4), .second, .val (.int p1), .val (.long (9223372036854775807 : Int64)), .second, .val (.long E1_), .second, .val (.long N2_), .second, .val (.ref b), .val (.long ec), .second, .val (.long nc), .second, .val (.long (E1_ >>> ((1 : Int32) &&& 0x3f).toInt64)), .second, .val (.long (N2_ >>> ((1 : Int32) &&& 0x3f).toInt64)), .second, .val (.double r24), .second, .val (.double r26), .second, .val (.double r28), .second, .val (.double r30), .second, .val (.double r32), .second, .val (.double r34), .second, .val (.double r36), .second, .val (.long (9007199254740992 : Int64)), .second, .val (.int (1 : Int32))] [(.int (cmpValue (FP.dcmp r26 FP.dconst1) .g))])) _
                  refine OGo.step (fun _ kk => XS.ifNo X44.here hx rfl (hb hby at_469) rfl ((if0 _ _).trans (tlt (own_lt U26 own_U1 (own_a7 hM hec (own_llt hl) (own_lle hs)) _)).2.1) kk) ?_
                  show OGo p e below (T44.setTop (mkF m 472 #[.val (.long q1), .second, .val (.long q2), .second, .val (.long q3), .second, .val (.long q4), .second, .val (.int p1), .val (.long (9223372036854775807 : Int64)), .second, .val (.long E1_), .second, .val (.long N2_), .second, .val (.ref b), .val (.long ec), .second, .val (.long nc), .second, .val (.long (E1_ >>> ((1 : Int32) &&& 0x3f).toInt64)), .second, .val (.long (N2_ >>> ((1 : Int32) &&& 0x3f).toInt64)), .second, .val (.double r24), .second, .val (.double r26), .second, .val (.double r28), .second, .val (.double r30), .second, .val (.double r32), .second, .val (.double r34), .second, .val (.double r36), .second, .val (.long (9007199254740992 : Int64)), .second, .val (.int (1 : Int32))] [])) _
                  refine OGo.step (fun _ kk => XS.iconst X44.here hx rfl (hb hby at_472) kk) ?_
                  refine OGo.step (fun _ kk => XS.goto X44.here hx rfl (pc0 := 473) (pc' := 477) rfl (hb hby at_473) (by decide) (by decide) kk) ?_
                  refine OGo.step (fun _ kk => XS.istore X44.here hx rfl (hb hby at_477) rfl (l' := #[.val (.long q1), .second, .val (.long q2), .second, .val (.long q3), .second, .val (.long q4), .second, .val (.int p1), .val (.long (9223372036854775807 : Int64)), .second, .val (.long E1_), .second, .val (.long N2_), .second, .val (.ref b), .val (.long ec), .second, .val (.long nc), .second, .val (.long (E1_ >>> ((1 : Int32) &&& 0x3f).toInt64)), .second, .val (.long (N2_ >>> ((1 : Int32) &&& 0x3f).toInt64)), .second, .val (.double r24), .second, .val (.double r26), .second, .val (.double r28), .second, .val (.double r30), .second, .val (.double r32), .second, .val (.double r34), .second, .val (.double r36), .second, .val (.long (9007199254740992 : Int64)), .second, .val (.int (1 : Int32))]) rfl kk) ?_
                  refine OGo.step (fun _ kk => XS.goto X44.here hx rfl (pc0 := 479) (pc' := 515) rfl (hb hby at_479) (by decide) (by decide) kk) ?_
                  show OGo p e below (T44.setTop (mkF m 515 #[.val (.long q1), .second, .val (.long q2), .second, .val (.long q3), .second, .val (.long q4), .second, .val (.int p1), .val (.long (9223372036854775807 : Int64)), .second, .val (.long E1_), .second, .val (.long N2_), .second, .val (.ref b), .val (.long ec), .second, .val (.long nc), .second, .val (.long (E1_ >>> ((1 : Int32) &&& 0x3f).toInt64)), .second, .val (.long (N2_ >>> ((1 : Int32) &&& 0x3f).toInt64)), .second, .val (.double r24), .second, .val (.double r26), .second, .val (.double r28), .second, .val (.double r30), .second, .val (.double r32), .second, .val (.double r34), .second, .val (.double r36), .second, .val (.long (9007199254740992 : Int64)), .second, .val (.int (1 : Int32))] [])) _
                  exact K515
              · refine OGo.step (fun _ kk => XS.ifYes X44.here hx rfl (pc0 := 449) (pc' := 515) rfl (hb hby at_449) rfl ((if0 _ _).trans (flt hl).2.1) (by decide) (by decide) kk) ?_
                show OGo p e below (T44.setTop (mkF m 515 #[.val (.long q1), .second, .val (.long q2), .second, .val (.long q3), .second, .val (.long q4), .second, .val (.int p1), .val (.long (9223372036854775807 : Int64)), .second, .val (.long E1_), .second, .val (.long N2_), .second, .val (.ref b), .val (.long ec), .second, .val (.long nc), .second, .val (.long (E1_ >>> ((1 : Int32) &&& 0x3f).toInt64)), .second, .val (.long (N2_ >>> ((1 : Int32) &&& 0x3f).toInt64)), .second, .val (.double r24), .second, .val (.double r26), .second, .val (.double r28), .second, .val (.double r30), .second, .val (.double r32), .second, .val (.double r34), .second, .val (.double r36), .second, .val (.long (9007199254740992 : Int64)), .second, .val (.int (1 : Int32))] [])) _
                exact K515
            have K396 : ¬ E1_ = (9223372036854775807 : Int64) → OGo p e below (T44.setTop (mkF m 396 #[.val (.long q1), .second, .val (.long q2), .second, .val (.long q3), .second, .val (.long q4), .second, .val (.int p1), .val (.long (9223372036854775807 : Int64)), .second, .val (.long E1_), .second, .val (.long N2_), .second, .val (.ref b), .val (.long ec), .second, .val (.long nc), .second, .val (.long (E1_ >>> ((1 : Int32) &&& 0x3f).toInt64)), .second, .val (.long (N2_ >>> ((1 : Int32) &&& 0x3f).toInt64)), .second, .val (.double r24), .second, .val (.double r26), .second, .val (.double r28), .second, .val (.double r30), .second, .val (.double r32), .second, .val (.double r34), .second, .val (.double r36), .second, .val (.long (9007199254740992 : Int64)), .second, .val (.int (1 : Int32))] [])) (OEnd s (fun v h L => v = some (.int (1 : Int32)) ∧ Fr n0 L) room_1.cells room_1.slots) := by
              intro hM
              show OGo p e below (T44.setTop (mkF m 396 #[.val (.long q1), .second, .val (.long q2), .second, .val (.long q3), .second, .val (.long q4), .second, .val (.int p1), .val (.long (9223372036854775807 : Int64)), .second, .val (.long E1_), .second, .val (.long N2_), .second, .val (.ref b), .val (.long ec), .second, .val (.long nc), .second, .val (.long (E1_ >>> ((1 : Int32) &&& 0x3f).toInt64)), .second, .val (.long (N2_ >>> ((1 : Int32) &&& 0x3f).toInt64)), .second, .val (.double r24), .second, .val (.double r26), .second, .val (.double r28), .second, .val (.double r30), .second, .val (.double r32), .second, .val (.double r34), .second, .val (.double r36), .second, .val (.long (9007199254740992 : Int64)), .second, .val (.int (1 : Int32))] [])) _
              refine OGo.step (fun _ kk => XS.lload X44.here hx rfl (hb hby at_396) rfl kk) ?_
              refine OGo.step (fun _ kk => XS.lconst X44.here hx rfl (hb hby at_398) kk) ?_
              refine OGo.step (fun _ kk => XS.lcmp X44.here hx rfl (hb hby at_399) rfl kk) ?_
              show OGo p e below (T44.setTop (mkF m 400 #[.val (.long q1), .second, .val (.long q2), .second, .val (.long q3), .second, .val (.long q4), .second, .val (.int p1), .val (.long (9223372036854775807 : Int64)), .second, .val (.long E1_), .second, .val (.long N2_), .second, .val (.ref b), .val (.long ec), .second, .val (.long nc), .second, .val (.long (E1_ >>> ((1 : Int32) &&& 0x3f).toInt64)), .second, .val (.long (N2_ >>> ((1 : Int32) &&& 0x3f).toInt64)), .second, .val (.double r24), .second, .val (.double r26), .second, .val (.double r28), .second, .val (.double r30), .second, .val (.double r32), .second, .val (.double r34), .second, .val (.double r36), .second, .val (.long (9007199254740992 : Int64)), .second, .val (.int (1 : Int32))] [(.int (lcmpW ec (0 : Int64)))])) _
              by_cases hp : (0 : Int32) < (lcmpW ec (0 : Int64))
              · refine OGo.step (fun _ kk => XS.ifNo X44.here hx rfl (hb hby at_400) rfl ((if0 _ _).trans (tlt hp).2.2.2) kk) ?_
                show OGo p e below (T44.setTop (mkF m 403 #[.val (.long q1), .second, .val (.long q2), .second, .val (.long q3), .second, .val (.long q4), .second, .val (.int p1), .val (.long (9223372036854775807 : Int64)), .second, .val (.long E1_), .second, .val (.long N2_), .second, .val (.ref b), .val (.long ec), .second, .val (.long nc), .second, .val (.long (E1_ >>> ((1 : Int32) &&& 0x3f).toInt64)), .second, .val (.long (N2_ >>> ((1 : Int32) &&& 0x3f).toInt64)), .second, .val (.double r24), .second, .val (.double r26), .second, .val (.double r28), .second, .val (.double r30), .second, .val (.double r32), .second, .val (.double r34), .second, .val (.double r36), .second, .val (.long (9007199254740992 : Int64)), .second, .val (.int (1 : Int32))] [])) _
                refine OGo.step (fun _ kk => XS.iload X44.here hx rfl (hb hby at_403) rfl kk) ?_
                show OGo p e below (T44.setTop (mkF m 405 #[.val (.long q1), .second, .val (.long q2), .second, .val (.long q3), .second, .val (.long q4), .second, .val (.int p1), .val (.long (9223372036854775807 : Int64)), .second, .val (.long E1_), .second, .val (.long N2_), .second, .val (.ref b), .val (.long ec), .second, .val (.long nc), .second, .val (.long (E1_ >>> ((1 : Int32) &&& 0x3f).toInt64)), .second, .val (.long (N2_ >>> ((1 : Int32) &&& 0x3f).toInt64)), .second, .val (.double r24), .second, .val (.double r26), .second, .val (.double r28), .second, .val (.double r30), .second, .val (.double r32), .second, .val (.double r34), .second, .val (.double r36), .second, .val (.long (9007199254740992 : Int64)), .second, .val (.int (1 : Int32))] [(.int (1 : Int32))])) _
                refine OGo.step (fun _ kk => XS.ifNo X44.here hx rfl (hb hby at_405) rfl ((if0 _ _).trans (feq (by decide)).1) kk) ?_
                show OGo p e below (T44.setTop (mkF m 408 #[.val (.long q1), .second, .val (.long q2), .second, .val (.long q3), .second, .val (.long q4), .second, .val (.int p1), .val (.long (9223372036854775807 : Int64)), .second, .val (.long E1_), .second, .val (.long N2_), .second, .val (.ref b), .val (.long ec), .second, .val (.long nc), .second, .val (.long (E1_ >>> ((1 : Int32) &&& 0x3f).toInt64)), .second, .val (.long (N2_ >>> ((1 : Int32) &&& 0x3f).toInt64)), .second, .val (.double r24), .second, .val (.double r26), .second, .val (.double r28), .second, .val (.double r30), .second, .val (.double r32), .second, .val (.double r34), .second, .val (.double r36), .second, .val (.long (9007199254740992 : Int64)), .second, .val (.int (1 : Int32))] [])) _
                refine OGo.step (fun _ kk => XS.dload X44.here hx rfl (hb hby at_408) rfl kk) ?_
                refine OGo.step (fun _ kk => XS.dconst0 X44.here hx rfl (hb hby at_410) rfl kk) ?_
                refine OGo.step (fun _ kk => XS.dcmpS X44.here hx rfl (hb hby at_411) rfl rfl kk) ?_
                show OGo p e below (T44.setTop (mkF m 412 #[.val (.long q1), .second, .val (.long q2), .second, .val (.long q3), .second, .val (.long q4), .second, .val (.int p1), .val (.long (9223372036854775807 : Int64)), .second, .val (.long E1_), .second, .val (.long N2_), .second, .val (.ref b), .val (.long ec), .second, .val (.long nc), .second, .val (.long (E1_ >>> ((1 : Int32) &&& 0x3f).toInt64)), .second, .val (.long (N2_ >>> ((1 : Int32) &&& 0x3f).toInt64)), .second, .val (.double r24), .second, .val (.double r26), .second, .val (.double r28), .second, .val (.double r30), .second, .val (.double r32), .second, .val (.double r34), .second, .val (.double r36), .second, .val (.long (9007199254740992 : Int64)), .second, .val (.int (1 : Int32))] [(.int (cmpValue (FP.dcmp r26 FP.dconst0) .l))])) _
                refine OGo.step (fun _ kk => XS.ifNo X44.here hx rfl (hb hby at_412) rfl ((if0 _ _).trans (tlt (own_gt U26 own_U0 (own_a5 hM gE (own_lgt hp)) _)).2.2.2) kk) ?_
                show OGo p e below (T44.setTop (mkF m 415 #[.val (.long q1), .second, .val (.long q2), .second, .val (.long q3), .second, .val (.long q4), .second, .val (.int p1), .val (.long (9223372036854775807 : Int64)), .second, .val (.long E1_), .second, .val (.long N2_), .second, .val (.ref b), .val (.long ec), .second, .val (.long nc), .second, .val (.long (E1_ >>> ((1 : Int32) &&& 0x3f).toInt64)), .second, .val (.long (N2_ >>> ((1 : Int32) &&& 0x3f).toInt64)), .second, .val (.double r24), .second, .val (.double r26), .second, .val (.double r28), .second, .val (.double r30), .second, .val (.double r32), .second, .val (.double r34), .second, .val (.double r36), .second, .val (.long (9007199254740992 : Int64)), .second, .val (.int (1 : Int32))] [])) _
                refine OGo.step (fun _ kk => XS.iconst X44.here hx rfl (hb hby at_415) kk) ?_
                refine OGo.step (fun _ kk => XS.goto X44.here hx rfl (pc0 := 416) (pc' := 420) rfl (hb hby at_416) (by decide) (by decide) kk) ?_
                refine OGo.step (fun _ kk => XS.istore X44.here hx rfl (hb hby at_420) rfl (l' := #[.val (.long q1), .second, .val (.long q2), .second, .val (.long q3), .second, .val (.long q4), .second, .val (.int p1), .val (.long (9223372036854775807 : Int64)), .second, .val (.long E1_), .second, .val (.long N2_), .second, .val (.ref b), .val (.long ec), .second, .val (.long nc), .second, .val (.long (E1_ >>> ((1 : Int32) &&& 0x3f).toInt64)), .second, .val (.long (N2_ >>> ((1 : Int32) &&& 0x3f).toInt64)), .second, .val (.double r24), .second, .val (.double r26), .second, .val (.double r28), .second, .val (.double r30), .second, .val (.double r32), .second, .val (.double r34), .second, .val (.double r36), .second, .val (.long (9007199254740992 : Int64)), .second, .val (.int (1 : Int32))]) rfl kk) ?_
                refine OGo.step (fun _ kk => XS.goto X44.here hx rfl (pc0 := 422) (pc' := 444) rfl (hb hby at_422) (by decide) (by decide) kk) ?_
                show OGo p e below (T44.setTop (mkF m 444 #[.val (.long q1), .second, .val (.long q2), .second, .val (.long q3), .second, .val (.long q4), .second, .val (.int p1), .val (.long (9223372036854775807 : Int64)), .second, .val (.long E1_), .second, .val (.long N2_), .second, .val (.ref b), .val (.long ec), .second, .val (.long nc), .second, .val (.long (E1_ >>> ((1 : Int32) &&& 0x3f).toInt64)), .second, .val (.long (N2_ >>> ((1 : Int32) &&& 0x3f).toInt64)), .second, .val (.double r24), .second, .val (.double r26), .second, .val (.double r28), .second, .val (.double r30), .second, .val (.double r32), .second, .val (.double r34), .second, .val (.double r36), .second, .val (.long (9007199254740992 : Int64)), .second, .val (.int (1 : Int32))] [])) _
                exact K444 hM
              · refine OGo.step (fun _ kk => XS.ifYes X44.here hx rfl (pc0 := 400) (pc' := 425) rfl (hb hby at_400) rfl ((if0 _ _).trans (flt hp).2.2.2) (by decide) (by decide) kk) ?_
                show OGo p e below (T44.setTop (mkF m 425 #[.val (.long q1), .second, .val (.long q2), .second, .val (.long q3), .second, .val (.long q4), .second, .val (.int p1), .val (.long (9223372036854775807 : Int64)), .second, .val (.long E1_), .second, .val (.long N2_), .second, .val (.ref b), .val (.long ec), .second, .val (.long nc), .second, .val (.long (E1_ >>> ((1 : Int32) &&& 0x3f).toInt64)), .second, .val (.long (N2_ >>> ((1 : Int32) &&& 0x3f).toInt64)), .second, .val (.double r24), .second, .val (.double r26), .second, .val (.double r28), .second, .val (.double r30), .second, .val (.double r32), .second, .val (.double r34), .second, .val (.double r36), .second, .val (.long (9007199254740992 : Int64)), .second, .val (.int (1 : Int32))] [])) _
                refine OGo.step (fun _ kk => XS.iload X44.here hx rfl (hb hby at_425) rfl kk) ?_
                show OGo p e below (T44.setTop (mkF m 427 #[.val (.long q1), .second, .val (.long q2), .second, .val (.long q3), .second, .val (.long q4), .second, .val (.int p1), .val (.long (9223372036854775807 : Int64)), .second, .val (.long E1_), .second, .val (.long N2_), .second, .val (.ref b), .val (.long ec), .second, .val (.long nc), .second, .val (.long (E1_ >>> ((1 : Int32) &&& 0x3f).toInt64)), .second, .val (.long (N2_ >>> ((1 : Int32) &&& 0x3f).toInt64)), .second, .val (.double r24), .second, .val (.double r26), .second, .val (.double r28), .second, .val (.double r30), .second, .val (.double r32), .second, .val (.double r34), .second, .val (.double r36), .second, .val (.long (9007199254740992 : Int64)), .second, .val (.int (1 : Int32))] [(.int (1 : Int32))])) _
                refine OGo.step (fun _ kk => XS.ifNo X44.here hx rfl (hb hby at_427) rfl ((if0 _ _).trans (feq (by decide)).1) kk) ?_
                show OGo p e below (T44.setTop (mkF m 430 #[.val (.long q1), .second, .val (.long q2), .second, .val (.long q3), .second, .val (.long q4), .second, .val (.int p1), .val (.long (9223372036854775807 : Int64)), .second, .val (.long E1_), .second, .val (.long N2_), .second, .val (.ref b), .val (.long ec), .second, .val (.long nc), .second, .val (.long (E1_ >>> ((1 : Int32) &&& 0x3f).toInt64)), .second, .val (.long (N2_ >>> ((1 : Int32) &&& 0x3f).toInt64)), .second, .val (.double r24), .second, .val (.double r26), .second, .val (.double r28), .second, .val (.double r30), .second, .val (.double r32), .second, .val (.double r34), .second, .val (.double r36), .second, .val (.long (9007199254740992 : Int64)), .second, .val (.int (1 : Int32))] [])) _
                refine OGo.step (fun _ kk => XS.dload X44.here hx rfl (hb hby at_430) rfl kk) ?_
                refine OGo.step (fun _ kk => XS.dconst0 X44.here hx rfl (hb hby at_432) rfl kk) ?_
                refine OGo.step (fun _ kk => XS.dcmpS X44.here hx rfl (hb hby at_433) rfl rfl kk) ?_
                show OGo p e below (T44.setTop (mkF m 434 #[.val (.long q1), .second, .val (.long q2), .second, .val (.long q3), .second, .val (.long q4), .second, .val (.int p1), .val (.long (9223372036854775807 : Int64)), .second, .val (.long E1_), .second, .val (.long N2_), .second, .val (.ref b), .val (.long ec), .second, .val (.long nc), .second, .val (.long (E1_ >>> ((1 : Int32) &&& 0x3f).toInt64)), .second, .val (.long (N2_ >>> ((1 : Int32) &&& 0x3f).toInt64)), .second, .val (.double r24), .second, .val (.double r26), .second, .val (.double r28), .second, .val (.double r30), .second, .val (.double r32), .second, .val (.double r34), .second, .val (.double r36), .second, .val (.long (9007199254740992 : Int64)), .second, .val (.int (1 : Int32))] [(.int (cmpValue (FP.dcmp r26 FP.dconst0) .l))])) _
                refine OGo.step (fun _ kk => XS.ifNo X44.here hx rfl (hb hby at_434) rfl ((if0 _ _).trans (teq (own_eq U26 own_U0 (own_a6 gE (Int.le_antisymm (own_lle hp) hec)) _)).2) kk) ?_
                show OGo p e below (T44.setTop (mkF m 437 #[.val (.long q1), .second, .val (.long q2), .second, .val (.long q3), .second, .val (.long q4), .second, .val (.int p1), .val (.long (9223372036854775807 : Int64)), .second, .val (.long E1_), .second, .val (.long N2_), .second, .val (.ref b), .val (.long ec), .second, .val (.long nc), .second, .val (.long (E1_ >>> ((1 : Int32) &&& 0x3f).toInt64)), .second, .val (.long (N2_ >>> ((1 : Int32) &&& 0x3f).toInt64)), .second, .val (.double r24), .second, .val (.double r26), .second, .val (.double r28), .second, .val (.double r30), .second, .val (.double r32), .second, .val (.double r34), .second, .val (.double r36), .second, .val (.long (9007199254740992 : Int64)), .second, .val (.int (1 : Int32))] [])) _
                refine OGo.step (fun _ kk => XS.iconst X44.here hx rfl (hb hby at_437) kk) ?_
                refine OGo.step (fun _ kk => XS.goto X44.here hx rfl (pc0 := 438) (pc' := 442) rfl (hb hby at_438) (by decide) (by decide) kk) ?_
                refine OGo.step (fun _ kk => XS.istore X44.here hx rfl (hb hby at_442) rfl (l' := #[.val (.long q1), .second, .val (.long q2), .second, .val (.long q3), .second, .val (.long q4), .second, .val (.int p1), .val (.long (9223372036854775807 : Int64)), .second, .val (.long E1_), .second, .val (.long N2_), .second, .val (.ref b), .val (.long ec), .second, .val (.long nc), .second, .val (.long (E1_ >>> ((1 : Int32) &&& 0x3f).toInt64)), .second, .val (.long (N2_ >>> ((1 : Int32) &&& 0x3f).toInt64)), .second, .val (.double r24), .second, .val (.double r26), .second, .val (.double r28), .second, .val (.double r30), .second, .val (.double r32), .second, .val (.double r34), .second, .val (.double r36), .second, .val (.long (9007199254740992 : Int64)), .second, .val (.int (1 : Int32))]) rfl kk) ?_
                show OGo p e below (T44.setTop (mkF m 444 #[.val (.long q1), .second, .val (.long q2), .second, .val (.long q3), .second, .val (.long q4), .second, .val (.int p1), .val (.long (9223372036854775807 : Int64)), .second, .val (.long E1_), .second, .val (.long N2_), .second, .val (.ref b), .val (.long ec), .second, .val (.long nc), .second, .val (.long (E1_ >>> ((1 : Int32) &&& 0x3f).toInt64)), .second, .val (.long (N2_ >>> ((1 : Int32) &&& 0x3f).toInt64)), .second, .val (.double r24), .second, .val (.double r26), .second, .val (.double r28), .second, .val (.double r30), .second, .val (.double r32), .second, .val (.double r34), .second, .val (.double r36), .second, .val (.long (9007199254740992 : Int64)), .second, .val (.int (1 : Int32))] [])) _
                exact K444 hM
            have K369 : ¬ E1_ = (9223372036854775807 : Int64) → OGo p e below (T44.setTop (mkF m 369 #[.val (.long q1), .second, .val (.long q2), .second, .val (.long q3), .second, .val (.long q4), .second, .val (.int p1), .val (.long (9223372036854775807 : Int64)), .second, .val (.long E1_), .second, .val (.long N2_), .second, .val (.ref b), .val (.long ec), .second, .val (.long nc), .second, .val (.long (E1_ >>> ((1 : Int32) &&& 0x3f).toInt64)), .second, .val (.long (N2_ >>> ((1 : Int32) &&& 0x3f).toInt64)), .second, .val (.double r24), .second, .val (.double r26), .second, .val (.double r28), .second, .val (.double r30), .second, .val (.double r32), .second, .val (.double r34), .second, .val (.double r36), .second, .val (.long (9007199254740992 : Int64)), .second, .val (.int (1 : Int32))] [])) (OEnd s (fun v h L => v = some (.int (1 : Int32)) ∧ Fr n0 L) room_1.cells room_1.slots) := by
              intro hM
              show OGo p e below (T44.setTop (mkF m 369 #[.val (.long q1), .second, .val (.long q2), .second, .val (.long q3), .second, .val (.long q4), .second, .val (.int p1), .val (.long (9223372036854775807 : Int64)), .second, .val (.long E1_), .second, .val (.long N2_), .second, .val (.ref b), .val (.long ec), .second, .val (.long nc), .second, .val (.long (E1_ >>> ((1 : Int32) &&& 0x3f).toInt64)), .second, .val (.long (N2_ >>> ((1 : Int32) &&& 0x3f).toInt64)), .second, .val (.double r24), .second, .val (.double r26), .second, .val (.double r28), .second, .val (.double r30), .second, .val (.double r32), .second, .val (.double r34), .second, .val (.double r36), .second, .val (.long (9007199254740992 : Int64)), .second, .val (.int (1 : Int32))] [])) _
              refine OGo.step (fun _ kk => XS.lload X44.here hx rfl (hb hby at_369) rfl kk) ?_
              refine OGo.step (fun _ kk => XS.lload X44.here hx rfl (hb hby at_371) rfl kk) ?_
              refine OGo.step (fun _ kk => XS.lcmp X44.here hx rfl (hb hby at_373) rfl kk) ?_
              show OGo p e below (T44.setTop (mkF m 374 #[.val (.long q1), .second, .val (.long q2), .second, .val (.long q3), .second, .val (.long q4), .second, .val (.int p1), .val (.long (9223372036854775807 : Int64)), .second, .val (.long E1_), .second, .val (.long N2_), .second, .val (.ref b), .val (.long ec), .second, .val (.long nc), .second, .val (.long (E1_ >>> ((1 : Int32) &&& 0x3f).toInt64)), .second, .val (.long (N2_ >>> ((1 : Int32) &&& 0x3f).toInt64)), .second, .val (.double r24), .second, .val (.double r26), .second, .val (.double r28), .second, .val (.double r30), .second, .val (.double r32), .second, .val (.double r34), .second, .val (.double r36), .second, .val (.long (9007199254740992 : Int64)), .second, .val (.int (1 : Int32))] [(.int (lcmpW ec E1_))])) _
              by_cases hl : (lcmpW ec E1_) < (0 : Int32)
              · refine OGo.step (fun _ kk => XS.ifYes X44.here hx rfl (pc0 := 374) (pc' := 396) rfl (hb hby at_374) rfl ((if0 _ _).trans (tlt hl).1) (by decide) (by decide) kk) ?_
                show OGo p e below (T44.setTop (mkF m 396 #[.val (.long q1), .second, .val (.long q2), .second, .val (.long q3), .second, .val (.long q4), .second, .val (.int p1), .val (.long (9223372036854775807 : Int64)), .second, .val (.long E1_), .second, .val (.long N2_), .second, .val (.ref b), .val (.long ec), .second, .val (.long nc), .second, .val (.long (E1_ >>> ((1 : Int32) &&& 0x3f).toInt64)), .second, .val (.long (N2_ >>> ((1 : Int32) &&& 0x3f).toInt64)), .second, .val (.double r24), .second, .val (.double r26), .second, .val (.double r28), .second, .val (.double r30), .second, .val (.double r32), .second, .val (.double r34), .second, .val (.double r36), .second, .val (.long (9007199254740992 : Int64)), .second, .val (.int (1 : Int32))] [])) _
                exact K396 hM
              · refine OGo.step (fun _ kk => XS.ifNo X44.here hx rfl (hb hby at_374) rfl ((if0 _ _).trans (flt hl).1) kk) ?_
                show OGo p e below (T44.setTop (mkF m 377 #[.val (.long q1), .second, .val (.long q2), .second, .val (.long q3), .second, .val (.long q4), .second, .val (.int p1), .val (.long (9223372036854775807 : Int64)), .second, .val (.long E1_), .second, .val (.long N2_), .second, .val (.ref b), .val (.long ec), .second, .val (.long nc), .second, .val (.long (E1_ >>> ((1 : Int32) &&& 0x3f).toInt64)), .second, .val (.long (N2_ >>> ((1 : Int32) &&& 0x3f).toInt64)), .second, .val (.double r24), .second, .val (.double r26), .second, .val (.double r28), .second, .val (.double r30), .second, .val (.double r32), .second, .val (.double r34), .second, .val (.double r36), .second, .val (.long (9007199254740992 : Int64)), .second, .val (.int (1 : Int32))] [])) _
                refine OGo.step (fun _ kk => XS.iload X44.here hx rfl (hb hby at_377) rfl kk) ?_
                show OGo p e below (T44.setTop (mkF m 379 #[.val (.long q1), .second, .val (.long q2), .second, .val (.long q3), .second, .val (.long q4), .second, .val (.int p1), .val (.long (9223372036854775807 : Int64)), .second, .val (.long E1_), .second, .val (.long N2_), .second, .val (.ref b), .val (.long ec), .second, .val (.long nc), .second, .val (.long (E1_ >>> ((1 : Int32) &&& 0x3f).toInt64)), .second, .val (.long (N2_ >>> ((1 : Int32) &&& 0x3f).toInt64)), .second, .val (.double r24), .second, .val (.double r26), .second, .val (.double r28), .second, .val (.double r30), .second, .val (.double r32), .second, .val (.double r34), .second, .val (.double r36), .second, .val (.long (9007199254740992 : Int64)), .second, .val (.int (1 : Int32))] [(.int (1 : Int32))])) _
                refine OGo.step (fun _ kk => XS.ifNo X44.here hx rfl (hb hby at_379) rfl ((if0 _ _).trans (feq (by decide)).1) kk) ?_
                show OGo p e below (T44.setTop (mkF m 382 #[.val (.long q1), .second, .val (.long q2), .second, .val (.long q3), .second, .val (.long q4), .second, .val (.int p1), .val (.long (9223372036854775807 : Int64)), .second, .val (.long E1_), .second, .val (.long N2_), .second, .val (.ref b), .val (.long ec), .second, .val (.long nc), .second, .val (.long (E1_ >>> ((1 : Int32) &&& 0x3f).toInt64)), .second, .val (.long (N2_ >>> ((1 : Int32) &&& 0x3f).toInt64)), .second, .val (.double r24), .second, .val (.double r26), .second, .val (.double r28), .second, .val (.double r30), .second, .val (.double r32), .second, .val (.double r34), .second, .val (.double r36), .second, .val (.long (9007199254740992 : Int64)), .second, .val (.int (1 : Int32))] [])) _
                refine OGo.step (fun _ kk => XS.dload X44.here hx rfl (hb hby at_382) rfl kk) ?_
                refine OGo.step (fun _ kk => XS.dconst1 X44.here hx rfl (hb hby at_384) rfl kk) ?_
                refine OGo.step (fun _ kk => XS.dcmpS X44.here hx rfl (hb hby at_385) rfl rfl kk) ?_
                show OGo p e below (T44.setTop (mkF m 386 #[.val (.long q1), .second, .val (.long q2), .second, .val (.long q3), .second, .val (.long q4), .second, .val (.int p1), .val (.long (9223372036854775807 : Int64)), .second, .val (.long E1_), .second, .val (.long N2_), .second, .val (.ref b), .val (.long ec), .second, .val (.long nc), .second, .val (.long (E1_ >>> ((1 : Int32) &&& 0x3f).toInt64)), .second, .val (.long (N2_ >>> ((1 : Int32) &&& 0x3f).toInt64)), .second, .val (.double r24), .second, .val (.double r26), .second, .val (.double r28), .second, .val (.double r30), .second, .val (.double r32), .second, .val (.double r34), .second, .val (.double r36), .second, .val (.long (9007199254740992 : Int64)), .second, .val (.int (1 : Int32))] [(.int (cmpValue (FP.dcmp r26 FP.dconst1) .l))])) _
                refine OGo.step (fun _ kk => XS.ifNo X44.here hx rfl (hb hby at_386) rfl ((if0 _ _).trans (teq (own_eq U26 own_U1 (own_a4 hM gE (own_lge hl)) _)).2) kk) ?_
                show OGo p e below (T44.setTop (mkF m 389 #[.val (.long q1), .second, .val (.long q2), .second, .val (.long q3), .second, .val (.long q4), .second, .val (.int p1), .val (.long (9223372036854775807 : Int64)), .second, .val (.long E1_), .second, .val (.long N2_), .second, .val (.ref b), .val (.long ec), .second, .val (.long nc), .second, .val (.long (E1_ >>> ((1 : Int32) &&& 0x3f).toInt64)), .second, .val (.long (N2_ >>> ((1 : Int32) &&& 0x3f).toInt64)), .second, .val (.double r24), .second, .val (.double r26), .second, .val (.double r28), .second, .val (.double r30), .second, .val (.double r32), .second, .val (.double r34), .second, .val (.double r36), .second, .val (.long (9007199254740992 : Int64)), .second, .val (.int (1 : Int32))] [])) _
                refine OGo.step (fun _ kk => XS.iconst X44.here hx rfl (hb hby at_389) kk) ?_
                refine OGo.step (fun _ kk => XS.goto X44.here hx rfl (pc0 := 390) (pc' := 394) rfl (hb hby at_390) (by decide) (by decide) kk) ?_
                refine OGo.step (fun _ kk => XS.istore X44.here hx rfl (hb hby at_394) rfl (l' := #[.val (.long q1), .second, .val (.long q2), .second, .val (.long q3), .second, .val (.long q4), .second, .val (.int p1), .val (.long (9223372036854775807 : Int64)), .second, .val (.long E1_), .second, .val (.long N2_), .second, .val (.ref b), .val (.long ec), .second, .val (.long nc), .second, .val (.long (E1_ >>> ((1 : Int32) &&& 0x3f).toInt64)), .second, .val (.long (N2_ >>> ((1 : Int32) &&& 0x3f).toInt64)), .second, .val (.double r24), .second, .val (.double r26), .second, .val (.double r28), .second, .val (.double r30), .second, .val (.double r32), .second, .val (.double r34), .second, .val (.double r36), .second, .val (.long (9007199254740992 : Int64)), .second, .val (.int (1 : Int32))]) rfl kk) ?_
                show OGo p e below (T44.setTop (mkF m 396 #[.val (.long q1), .second, .val (.long q2), .second, .val (.long q3), .second, .val (.long q4), .second, .val (.int p1), .val (.long (9223372036854775807 : Int64)), .second, .val (.long E1_), .second, .val (.long N2_), .second, .val (.ref b), .val (.long ec), .second, .val (.long nc), .second, .val (.long (E1_ >>> ((1 : Int32) &&& 0x3f).toInt64)), .second, .val (.long (N2_ >>> ((1 : Int32) &&& 0x3f).toInt64)), .second, .val (.double r24), .second, .val (.double r26), .second, .val (.double r28), .second, .val (.double r30), .second, .val (.double r32), .second, .val (.double r34), .second, .val (.double r36), .second, .val (.long (9007199254740992 : Int64)), .second, .val (.int (1 : Int32))] [])) _
                exact K396 hM
            have K330 : ¬ E1_ = (9223372036854775807 : Int64) → OGo p e below (T44.setTop (mkF m 330 #[.val (.long q1), .second, .val (.long q2), .second, .val (.long q3), .second, .val (.long q4), .second, .val (.int p1), .val (.long (9223372036854775807 : Int64)), .second, .val (.long E1_), .second, .val (.long N2_), .second, .val (.ref b), .val (.long ec), .second, .val (.long nc), .second, .val (.long (E1_ >>> ((1 : Int32) &&& 0x3f).toInt64)), .second, .val (.long (N2_ >>> ((1 : Int32) &&& 0x3f).toInt64)), .second, .val (.double r24), .second, .val (.double r26), .second, .val (.double r28), .second, .val (.double r30), .second, .val (.double r32), .second, .val (.double r34), .second, .val (.double r36), .second, .val (.long (9007199254740992 : Int64)), .second, .val (.int (1 : Int32))] [])) (OEnd s (fun v h L => v = some (.int (1 : Int32)) ∧ Fr n0 L) room_1.cells room_1.slots) := by
              intro hM
              show OGo p e below (T44.setTop (mkF m 330 #[.val (.long q1), .second, .val (.long q2), .second, .val (.long q3), .second, .val (.long q4), .second, .val (.int p1), .val (.long (9223372036854775807 : Int64)), .second, .val (.long E1_), .second, .val (.long N2_), .second, .val (.ref b), .val (.long ec), .second, .val (.long nc), .second, .val (.long (E1_ >>> ((1 : Int32) &&& 0x3f).toInt64)), .second, .val (.long (N2_ >>> ((1 : Int32) &&& 0x3f).toInt64)), .second, .val (.double r24), .second, .val (.double r26), .second, .val (.double r28), .second, .val (.double r30), .second, .val (.double r32), .second, .val (.double r34), .second, .val (.double r36), .second, .val (.long (9007199254740992 : Int64)), .second, .val (.int (1 : Int32))] [])) _
              refine OGo.step (fun _ kk => XS.iload X44.here hx rfl (hb hby at_330) rfl kk) ?_
              show OGo p e below (T44.setTop (mkF m 332 #[.val (.long q1), .second, .val (.long q2), .second, .val (.long q3), .second, .val (.long q4), .second, .val (.int p1), .val (.long (9223372036854775807 : Int64)), .second, .val (.long E1_), .second, .val (.long N2_), .second, .val (.ref b), .val (.long ec), .second, .val (.long nc), .second, .val (.long (E1_ >>> ((1 : Int32) &&& 0x3f).toInt64)), .second, .val (.long (N2_ >>> ((1 : Int32) &&& 0x3f).toInt64)), .second, .val (.double r24), .second, .val (.double r26), .second, .val (.double r28), .second, .val (.double r30), .second, .val (.double r32), .second, .val (.double r34), .second, .val (.double r36), .second, .val (.long (9007199254740992 : Int64)), .second, .val (.int (1 : Int32))] [(.int (1 : Int32))])) _
              refine OGo.step (fun _ kk => XS.ifNo X44.here hx rfl (hb hby at_332) rfl ((if0 _ _).trans (feq (by decide)).1) kk) ?_
              show OGo p e below (T44.setTop (mkF m 335 #[.val (.long q1), .second, .val (.long q2), .second, .val (.long q3), .second, .val (.long q4), .second, .val (.int p1), .val (.long (9223372036854775807 : Int64)), .second, .val (.long E1_), .second, .val (.long N2_), .second, .val (.ref b), .val (.long ec), .second, .val (.long nc), .second, .val (.long (E1_ >>> ((1 : Int32) &&& 0x3f).toInt64)), .second, .val (.long (N2_ >>> ((1 : Int32) &&& 0x3f).toInt64)), .second, .val (.double r24), .second, .val (.double r26), .second, .val (.double r28), .second, .val (.double r30), .second, .val (.double r32), .second, .val (.double r34), .second, .val (.double r36), .second, .val (.long (9007199254740992 : Int64)), .second, .val (.int (1 : Int32))] [])) _
              refine OGo.step (fun _ kk => XS.lload X44.here hx rfl (hb hby at_335) rfl kk) ?_
              refine OGo.step (fun _ kk => XS.lload X44.here hx rfl (hb hby at_337) rfl kk) ?_
              refine OGo.step (fun _ kk => XS.lcmp X44.here hx rfl (hb hby at_339) rfl kk) ?_
              show OGo p e below (T44.setTop (mkF m 340 #[.val (.long q1), .second, .val (.long q2), .second, .val (.long q3), .second, .val (.long q4), .second, .val (.int p1), .val (.long (9223372036854775807 : Int64)), .second, .val (.long E1_), .second, .val (.long N2_), .second, .val (.ref b), .val (.long ec), .second, .val (.long nc), .second, .val (.long (E1_ >>> ((1 : Int32) &&& 0x3f).toInt64)), .second, .val (.long (N2_ >>> ((1 : Int32) &&& 0x3f).toInt64)), .second, .val (.double r24), .second, .val (.double r26), .second, .val (.double r28), .second, .val (.double r30), .second, .val (.double r32), .second, .val (.double r34), .second, .val (.double r36), .second, .val (.long (9007199254740992 : Int64)), .second, .val (.int (1 : Int32))] [(.int (lcmpW ec (E1_ >>> ((1 : Int32) &&& 0x3f).toInt64)))])) _
              by_cases hg : (0 : Int32) < (lcmpW ec (E1_ >>> ((1 : Int32) &&& 0x3f).toInt64))
              · refine OGo.step (fun _ kk => XS.ifYes X44.here hx rfl (pc0 := 340) (pc' := 354) rfl (hb hby at_340) rfl ((if0 _ _).trans (tlt hg).2.2.1) (by decide) (by decide) kk) ?_
                show OGo p e below (T44.setTop (mkF m 354 #[.val (.long q1), .second, .val (.long q2), .second, .val (.long q3), .second, .val (.long q4), .second, .val (.int p1), .val (.long (9223372036854775807 : Int64)), .second, .val (.long E1_), .second, .val (.long N2_), .second, .val (.ref b), .val (.long ec), .second, .val (.long nc), .second, .val (.long (E1_ >>> ((1 : Int32) &&& 0x3f).toInt64)), .second, .val (.long (N2_ >>> ((1 : Int32) &&& 0x3f).toInt64)), .second, .val (.double r24), .second, .val (.double r26), .second, .val (.double r28), .second, .val (.double r30), .second, .val (.double r32), .second, .val (.double r34), .second, .val (.double r36), .second, .val (.long (9007199254740992 : Int64)), .second, .val (.int (1 : Int32))] [])) _
                refine OGo.step (fun _ kk => XS.dload X44.here hx rfl (hb hby at_354) rfl kk) ?_
                refine OGo.step (fun _ kk => XS.dload X44.here hx rfl (hb hby at_356) rfl kk) ?_
                refine OGo.step (fun _ kk => XS.dcmpS X44.here hx rfl (hb hby at_358) rfl rfl kk) ?_
                show OGo p e below (T44.setTop (mkF m 359 #[.val (.long q1), .second, .val (.long q2), .second, .val (.long q3), .second, .val (.long q4), .second, .val (.int p1), .val (.long (9223372036854775807 : Int64)), .second, .val (.long E1_), .second, .val (.long N2_), .second, .val (.ref b), .val (.long ec), .second, .val (.long nc), .second, .val (.long (E1_ >>> ((1 : Int32) &&& 0x3f).toInt64)), .second, .val (.long (N2_ >>> ((1 : Int32) &&& 0x3f).toInt64)), .second, .val (.double r24), .second, .val (.double r26), .second, .val (.double r28), .second, .val (.double r30), .second, .val (.double r32), .second, .val (.double r34), .second, .val (.double r36), .second, .val (.long (9007199254740992 : Int64)), .second, .val (.int (1 : Int32))] [(.int (cmpValue (FP.dcmp r26 r34) .l))])) _
                refine OGo.step (fun _ kk => XS.ifNo X44.here hx rfl (hb hby at_359) rfl ((if0 _ _).trans (flt (own_nlt U26 U34 (own_a3 (own_shr0 gE) (Int.le_of_lt (own_lgt hg)) gE) _)).1) kk) ?_
                show OGo p e below (T44.setTop (mkF m 362 #[.val (.long q1), .second, .val (.long q2), .second, .val (.long q3), .second, .val (.long q4), .second, .val (.int p1), .val (.long (9223372036854775807 : Int64)), .second, .val (.long E1_), .second, .val (.long N2_), .second, .val (.ref b), .val (.long ec), .second, .val (.long nc), .second, .val (.long (E1_ >>> ((1 : Int32) &&& 0x3f).toInt64)), .second, .val (.long (N2_ >>> ((1 : Int32) &&& 0x3f).toInt64)), .second, .val (.double r24), .second, .val (.double r26), .second, .val (.double r28), .second, .val (.double r30), .second, .val (.double r32), .second, .val (.double r34), .second, .val (.double r36), .second, .val (.long (9007199254740992 : Int64)), .second, .val (.int (1 : Int32))] [])) _
                refine OGo.step (fun _ kk => XS.iconst X44.here hx rfl (hb hby at_362) kk) ?_
                refine OGo.step (fun _ kk => XS.goto X44.here hx rfl (pc0 := 363) (pc' := 367) rfl (hb hby at_363) (by decide) (by decide) kk) ?_
                refine OGo.step (fun _ kk => XS.istore X44.here hx rfl (hb hby at_367) rfl (l' := #[.val (.long q1), .second, .val (.long q2), .second, .val (.long q3), .second, .val (.long q4), .second, .val (.int p1), .val (.long (9223372036854775807 : Int64)), .second, .val (.long E1_), .second, .val (.long N2_), .second, .val (.ref b), .val (.long ec), .second, .val (.long nc), .second, .val (.long (E1_ >>> ((1 : Int32) &&& 0x3f).toInt64)), .second, .val (.long (N2_ >>> ((1 : Int32) &&& 0x3f).toInt64)), .second, .val (.double r24), .second, .val (.double r26), .second, .val (.double r28), .second, .val (.double r30), .second, .val (.double r32), .second, .val (.double r34), .second, .val (.double r36), .second, .val (.long (9007199254740992 : Int64)), .second, .val (.int (1 : Int32))]) rfl kk) ?_
                show OGo p e below (T44.setTop (mkF m 369 #[.val (.long q1), .second, .val (.long q2), .second, .val (.long q3), .second, .val (.long q4), .second, .val (.int p1), .val (.long (9223372036854775807 : Int64)), .second, .val (.long E1_), .second, .val (.long N2_), .second, .val (.ref b), .val (.long ec), .second, .val (.long nc), .second, .val (.long (E1_ >>> ((1 : Int32) &&& 0x3f).toInt64)), .second, .val (.long (N2_ >>> ((1 : Int32) &&& 0x3f).toInt64)), .second, .val (.double r24), .second, .val (.double r26), .second, .val (.double r28), .second, .val (.double r30), .second, .val (.double r32), .second, .val (.double r34), .second, .val (.double r36), .second, .val (.long (9007199254740992 : Int64)), .second, .val (.int (1 : Int32))] [])) _
                exact K369 hM
              · refine OGo.step (fun _ kk => XS.ifNo X44.here hx rfl (hb hby at_340) rfl ((if0 _ _).trans (flt hg).2.2.1) kk) ?_
                show OGo p e below (T44.setTop (mkF m 343 #[.val (.long q1), .second, .val (.long q2), .second, .val (.long q3), .second, .val (.long q4), .second, .val (.int p1), .val (.long (9223372036854775807 : Int64)), .second, .val (.long E1_), .second, .val (.long N2_), .second, .val (.ref b), .val (.long ec), .second, .val (.long nc), .second, .val (.long (E1_ >>> ((1 : Int32) &&& 0x3f).toInt64)), .second, .val (.long (N2_ >>> ((1 : Int32) &&& 0x3f).toInt64)), .second, .val (.double r24), .second, .val (.double r26), .second, .val (.double r28), .second, .val (.double r30), .second, .val (.double r32), .second, .val (.double r34), .second, .val (.double r36), .second, .val (.long (9007199254740992 : Int64)), .second, .val (.int (1 : Int32))] [])) _
                refine OGo.step (fun _ kk => XS.dload X44.here hx rfl (hb hby at_343) rfl kk) ?_
                refine OGo.step (fun _ kk => XS.dload X44.here hx rfl (hb hby at_345) rfl kk) ?_
                refine OGo.step (fun _ kk => XS.dcmpS X44.here hx rfl (hb hby at_347) rfl rfl kk) ?_
                show OGo p e below (T44.setTop (mkF m 348 #[.val (.long q1), .second, .val (.long q2), .second, .val (.long q3), .second, .val (.long q4), .second, .val (.int p1), .val (.long (9223372036854775807 : Int64)), .second, .val (.long E1_), .second, .val (.long N2_), .second, .val (.ref b), .val (.long ec), .second, .val (.long nc), .second, .val (.long (E1_ >>> ((1 : Int32) &&& 0x3f).toInt64)), .second, .val (.long (N2_ >>> ((1 : Int32) &&& 0x3f).toInt64)), .second, .val (.double r24), .second, .val (.double r26), .second, .val (.double r28), .second, .val (.double r30), .second, .val (.double r32), .second, .val (.double r34), .second, .val (.double r36), .second, .val (.long (9007199254740992 : Int64)), .second, .val (.int (1 : Int32))] [(.int (cmpValue (FP.dcmp r26 r34) .g))])) _
                refine OGo.step (fun _ kk => XS.ifNo X44.here hx rfl (hb hby at_348) rfl ((if0 _ _).trans (flt (own_ngt U26 U34 (own_a3 hec (own_lle hg) gE) _)).2.2.1) kk) ?_
                show OGo p e below (T44.setTop (mkF m 351 #[.val (.long q1), .second, .val (.long q2), .second, .val (.long q3), .second, .val (.long q4), .second, .val (.int p1), .val (.long (9223372036854775807 : Int64)), .second, .val (.long E1_), .second, .val (.long N2_), .second, .val (.ref b), .val (.long ec), .second, .val (.long nc), .second, .val (.long (E1_ >>> ((1 : Int32) &&& 0x3f).toInt64)), .second, .val (.long (N2_ >>> ((1 : Int32) &&& 0x3f).toInt64)), .second, .val (.double r24), .second, .val (.double r26), .second, .val (.double r28), .second, .val (.double r30), .second, .val (.double r32), .second, .val (.double r34), .second, .val (.double r36), .second, .val (.long (9007199254740992 : Int64)), .second, .val (.int (1 : Int32))] [])) _
                refine OGo.step (fun _ kk => XS.goto X44.here hx rfl (pc0 := 351) (pc' := 362) rfl (hb hby at_351) (by decide) (by decide) kk) ?_
                refine OGo.step (fun _ kk => XS.iconst X44.here hx rfl (hb hby at_362) kk) ?_
                refine OGo.step (fun _ kk => XS.goto X44.here hx rfl (pc0 := 363) (pc' := 367) rfl (hb hby at_363) (by decide) (by decide) kk) ?_
                refine OGo.step (fun _ kk => XS.istore X44.here hx rfl (hb hby at_367) rfl (l' := #[.val (.long q1), .second, .val (.long q2), .second, .val (.long q3), .second, .val (.long q4), .second, .val (.int p1), .val (.long (9223372036854775807 : Int64)), .second, .val (.long E1_), .second, .val (.long N2_), .second, .val (.ref b), .val (.long ec), .second, .val (.long nc), .second, .val (.long (E1_ >>> ((1 : Int32) &&& 0x3f).toInt64)), .second, .val (.long (N2_ >>> ((1 : Int32) &&& 0x3f).toInt64)), .second, .val (.double r24), .second, .val (.double r26), .second, .val (.double r28), .second, .val (.double r30), .second, .val (.double r32), .second, .val (.double r34), .second, .val (.double r36), .second, .val (.long (9007199254740992 : Int64)), .second, .val (.int (1 : Int32))]) rfl kk) ?_
                show OGo p e below (T44.setTop (mkF m 369 #[.val (.long q1), .second, .val (.long q2), .second, .val (.long q3), .second, .val (.long q4), .second, .val (.int p1), .val (.long (9223372036854775807 : Int64)), .second, .val (.long E1_), .second, .val (.long N2_), .second, .val (.ref b), .val (.long ec), .second, .val (.long nc), .second, .val (.long (E1_ >>> ((1 : Int32) &&& 0x3f).toInt64)), .second, .val (.long (N2_ >>> ((1 : Int32) &&& 0x3f).toInt64)), .second, .val (.double r24), .second, .val (.double r26), .second, .val (.double r28), .second, .val (.double r30), .second, .val (.double r32), .second, .val (.double r34), .second, .val (.double r36), .second, .val (.long (9007199254740992 : Int64)), .second, .val (.int (1 : Int32))] [])) _
                exact K369 hM
            refine OGo.step (fun _ kk => XS.lload X44.here hx rfl (hb hby at_273) rfl kk) ?_
            refine OGo.step (fun _ kk => XS.lload X44.here hx rfl (hb hby at_275) rfl kk) ?_
            refine OGo.step (fun _ kk => XS.lcmp X44.here hx rfl (hb hby at_277) rfl kk) ?_
            show OGo p e below (T44.setTop (mkF m 278 #[.val (.long q1), .second, .val (.long q2), .second, .val (.long q3), .second, .val (.long q4), .second, .val (.int p1), .val (.long (9223372036854775807 : Int64)), .second, .val (.long E1_), .second, .val (.long N2_), .second, .val (.ref b), .val (.long ec), .second, .val (.long nc), .second, .val (.long (E1_ >>> ((1 : Int32) &&& 0x3f).toInt64)), .second, .val (.long (N2_ >>> ((1 : Int32) &&& 0x3f).toInt64)), .second, .val (.double r24), .second, .val (.double r26), .second, .val (.double r28), .second, .val (.double r30), .second, .val (.double r32), .second, .val (.double r34), .second, .val (.double r36), .second, .val (.long (9007199254740992 : Int64)), .second, .val (.int (1 : Int32))] [(.int (lcmpW E1_ (9223372036854775807 : Int64)))])) _
            by_cases hm0 : (lcmpW E1_ (9223372036854775807 : Int64)) = (0 : Int32)
            · refine OGo.step (fun _ kk => XS.ifYes X44.here hx rfl (pc0 := 278) (pc' := 482) rfl (hb hby at_278) rfl ((if0 _ _).trans (teq hm0).1) (by decide) (by decide) kk) ?_
              show OGo p e below (T44.setTop (mkF m 482 #[.val (.long q1), .second, .val (.long q2), .second, .val (.long q3), .second, .val (.long q4), .second, .val (.int p1), .val (.long (9223372036854775807 : Int64)), .second, .val (.long E1_), .second, .val (.long N2_), .second, .val (.ref b), .val (.long ec), .second, .val (.long nc), .second, .val (.long (E1_ >>> ((1 : Int32) &&& 0x3f).toInt64)), .second, .val (.long (N2_ >>> ((1 : Int32) &&& 0x3f).toInt64)), .second, .val (.double r24), .second, .val (.double r26), .second, .val (.double r28), .second, .val (.double r30), .second, .val (.double r32), .second, .val (.double r34), .second, .val (.double r36), .second, .val (.long (9007199254740992 : Int64)), .second, .val (.int (1 : Int32))] [])) _
              have hM := (lw_eq _ _).mp hm0
              refine OGo.step (fun _ kk => XS.iload X44.here hx rfl (hb hby at_482) rfl kk) ?_
              show OGo p e below (T44.setTop (mkF m 484 #[.val (.long q1), .second, .val (.long q2), .second, .val (.long q3), .second, .val (.long q4), .second, .val (.int p1), .val (.long (9223372036854775807 : Int64)), .second, .val (.long E1_), .second, .val (.long N2_), .second, .val (.ref b), .val (.long ec), .second, .val (.long nc), .second, .val (.long (E1_ >>> ((1 : Int32) &&& 0x3f).toInt64)), .second, .val (.long (N2_ >>> ((1 : Int32) &&& 0x3f).toInt64)), .second, .val (.double r24), .second, .val (.double r26), .second, .val (.double r28), .second, .val (.double r30), .second, .val (.double r32), .second, .val (.double r34), .second, .val (.double r36), .second, .val (.long (9007199254740992 : Int64)), .second, .val (.int (1 : Int32))] [(.int (1 : Int32))])) _
              refine OGo.step (fun _ kk => XS.ifNo X44.here hx rfl (hb hby at_484) rfl ((if0 _ _).trans (feq (by decide)).1) kk) ?_
              show OGo p e below (T44.setTop (mkF m 487 #[.val (.long q1), .second, .val (.long q2), .second, .val (.long q3), .second, .val (.long q4), .second, .val (.int p1), .val (.long (9223372036854775807 : Int64)), .second, .val (.long E1_), .second, .val (.long N2_), .second, .val (.ref b), .val (.long ec), .second, .val (.long nc), .second, .val (.long (E1_ >>> ((1 : Int32) &&& 0x3f).toInt64)), .second, .val (.long (N2_ >>> ((1 : Int32) &&& 0x3f).toInt64)), .second, .val (.double r24), .second, .val (.double r26), .second, .val (.double r28), .second, .val (.double r30), .second, .val (.double r32), .second, .val (.double r34), .second, .val (.double r36), .second, .val (.long (9007199254740992 : Int64)), .second, .val (.int (1 : Int32))] [])) _
              refine OGo.step (fun _ kk => XS.dload X44.here hx rfl (hb hby at_487) rfl kk) ?_
              refine OGo.step (fun _ kk => XS.dconst0 X44.here hx rfl (hb hby at_489) rfl kk) ?_
              refine OGo.step (fun _ kk => XS.dcmpS X44.here hx rfl (hb hby at_490) rfl rfl kk) ?_
              show OGo p e below (T44.setTop (mkF m 491 #[.val (.long q1), .second, .val (.long q2), .second, .val (.long q3), .second, .val (.long q4), .second, .val (.int p1), .val (.long (9223372036854775807 : Int64)), .second, .val (.long E1_), .second, .val (.long N2_), .second, .val (.ref b), .val (.long ec), .second, .val (.long nc), .second, .val (.long (E1_ >>> ((1 : Int32) &&& 0x3f).toInt64)), .second, .val (.long (N2_ >>> ((1 : Int32) &&& 0x3f).toInt64)), .second, .val (.double r24), .second, .val (.double r26), .second, .val (.double r28), .second, .val (.double r30), .second, .val (.double r32), .second, .val (.double r34), .second, .val (.double r36), .second, .val (.long (9007199254740992 : Int64)), .second, .val (.int (1 : Int32))] [(.int (cmpValue (FP.dcmp r26 FP.dconst0) .l))])) _
              refine OGo.step (fun _ kk => XS.ifNo X44.here hx rfl (hb hby at_491) rfl ((if0 _ _).trans (teq (own_eq U26 own_U0 (own_a8 hM) _)).2) kk) ?_
              show OGo p e below (T44.setTop (mkF m 494 #[.val (.long q1), .second, .val (.long q2), .second, .val (.long q3), .second, .val (.long q4), .second, .val (.int p1), .val (.long (9223372036854775807 : Int64)), .second, .val (.long E1_), .second, .val (.long N2_), .second, .val (.ref b), .val (.long ec), .second, .val (.long nc), .second, .val (.long (E1_ >>> ((1 : Int32) &&& 0x3f).toInt64)), .second, .val (.long (N2_ >>> ((1 : Int32) &&& 0x3f).toInt64)), .second, .val (.double r24), .second, .val (.double r26), .second, .val (.double r28), .second, .val (.double r30), .second, .val (.double r32), .second, .val (.double r34), .second, .val (.double r36), .second, .val (.long (9007199254740992 : Int64)), .second, .val (.int (1 : Int32))] [])) _
              refine OGo.step (fun _ kk => XS.dload X44.here hx rfl (hb hby at_494) rfl kk) ?_
              refine OGo.step (fun _ kk => XS.dconst0 X44.here hx rfl (hb hby at_496) rfl kk) ?_
              refine OGo.step (fun _ kk => XS.dcmpS X44.here hx rfl (hb hby at_497) rfl rfl kk) ?_
              show OGo p e below (T44.setTop (mkF m 498 #[.val (.long q1), .second, .val (.long q2), .second, .val (.long q3), .second, .val (.long q4), .second, .val (.int p1), .val (.long (9223372036854775807 : Int64)), .second, .val (.long E1_), .second, .val (.long N2_), .second, .val (.ref b), .val (.long ec), .second, .val (.long nc), .second, .val (.long (E1_ >>> ((1 : Int32) &&& 0x3f).toInt64)), .second, .val (.long (N2_ >>> ((1 : Int32) &&& 0x3f).toInt64)), .second, .val (.double r24), .second, .val (.double r26), .second, .val (.double r28), .second, .val (.double r30), .second, .val (.double r32), .second, .val (.double r34), .second, .val (.double r36), .second, .val (.long (9007199254740992 : Int64)), .second, .val (.int (1 : Int32))] [(.int (cmpValue (FP.dcmp r30 FP.dconst0) .l))])) _
              refine OGo.step (fun _ kk => XS.ifNo X44.here hx rfl (hb hby at_498) rfl ((if0 _ _).trans (teq (own_eq U30 own_U0 (own_a8 hM) _)).2) kk) ?_
              show OGo p e below (T44.setTop (mkF m 501 #[.val (.long q1), .second, .val (.long q2), .second, .val (.long q3), .second, .val (.long q4), .second, .val (.int p1), .val (.long (9223372036854775807 : Int64)), .second, .val (.long E1_), .second, .val (.long N2_), .second, .val (.ref b), .val (.long ec), .second, .val (.long nc), .second, .val (.long (E1_ >>> ((1 : Int32) &&& 0x3f).toInt64)), .second, .val (.long (N2_ >>> ((1 : Int32) &&& 0x3f).toInt64)), .second, .val (.double r24), .second, .val (.double r26), .second, .val (.double r28), .second, .val (.double r30), .second, .val (.double r32), .second, .val (.double r34), .second, .val (.double r36), .second, .val (.long (9007199254740992 : Int64)), .second, .val (.int (1 : Int32))] [])) _
              refine OGo.step (fun _ kk => XS.dload X44.here hx rfl (hb hby at_501) rfl kk) ?_
              refine OGo.step (fun _ kk => XS.dconst0 X44.here hx rfl (hb hby at_503) rfl kk) ?_
              refine OGo.step (fun _ kk => XS.dcmpS X44.here hx rfl (hb hby at_504) rfl rfl kk) ?_
              show OGo p e below (T44.setTop (mkF m 505 #[.val (.long q1), .second, .val (.long q2), .second, .val (.long q3), .second, .val (.long q4), .second, .val (.int p1), .val (.long (9223372036854775807 : Int64)), .second, .val (.long E1_), .second, .val (.long N2_), .second, .val (.ref b), .val (.long ec), .second, .val (.long nc), .second, .val (.long (E1_ >>> ((1 : Int32) &&& 0x3f).toInt64)), .second, .val (.long (N2_ >>> ((1 : Int32) &&& 0x3f).toInt64)), .second, .val (.double r24), .second, .val (.double r26), .second, .val (.double r28), .second, .val (.double r30), .second, .val (.double r32), .second, .val (.double r34), .second, .val (.double r36), .second, .val (.long (9007199254740992 : Int64)), .second, .val (.int (1 : Int32))] [(.int (cmpValue (FP.dcmp r34 FP.dconst0) .l))])) _
              refine OGo.step (fun _ kk => XS.ifNo X44.here hx rfl (hb hby at_505) rfl ((if0 _ _).trans (teq (own_eq U34 own_U0 (own_a8 hM) _)).2) kk) ?_
              show OGo p e below (T44.setTop (mkF m 508 #[.val (.long q1), .second, .val (.long q2), .second, .val (.long q3), .second, .val (.long q4), .second, .val (.int p1), .val (.long (9223372036854775807 : Int64)), .second, .val (.long E1_), .second, .val (.long N2_), .second, .val (.ref b), .val (.long ec), .second, .val (.long nc), .second, .val (.long (E1_ >>> ((1 : Int32) &&& 0x3f).toInt64)), .second, .val (.long (N2_ >>> ((1 : Int32) &&& 0x3f).toInt64)), .second, .val (.double r24), .second, .val (.double r26), .second, .val (.double r28), .second, .val (.double r30), .second, .val (.double r32), .second, .val (.double r34), .second, .val (.double r36), .second, .val (.long (9007199254740992 : Int64)), .second, .val (.int (1 : Int32))] [])) _
              refine OGo.step (fun _ kk => XS.iconst X44.here hx rfl (hb hby at_508) kk) ?_
              refine OGo.step (fun _ kk => XS.goto X44.here hx rfl (pc0 := 509) (pc' := 513) rfl (hb hby at_509) (by decide) (by decide) kk) ?_
              refine OGo.step (fun _ kk => XS.istore X44.here hx rfl (hb hby at_513) rfl (l' := #[.val (.long q1), .second, .val (.long q2), .second, .val (.long q3), .second, .val (.long q4), .second, .val (.int p1), .val (.long (9223372036854775807 : Int64)), .second, .val (.long E1_), .second, .val (.long N2_), .second, .val (.ref b), .val (.long ec), .second, .val (.long nc), .second, .val (.long (E1_ >>> ((1 : Int32) &&& 0x3f).toInt64)), .second, .val (.long (N2_ >>> ((1 : Int32) &&& 0x3f).toInt64)), .second, .val (.double r24), .second, .val (.double r26), .second, .val (.double r28), .second, .val (.double r30), .second, .val (.double r32), .second, .val (.double r34), .second, .val (.double r36), .second, .val (.long (9007199254740992 : Int64)), .second, .val (.int (1 : Int32))]) rfl kk) ?_
              show OGo p e below (T44.setTop (mkF m 515 #[.val (.long q1), .second, .val (.long q2), .second, .val (.long q3), .second, .val (.long q4), .second, .val (.int p1), .val (.long (9223372036854775807 : Int64)), .second, .val (.long E1_), .second, .val (.long N2_), .second, .val (.ref b), .val (.long ec), .second, .val (.long nc), .second, .val (.long (E1_ >>> ((1 : Int32) &&& 0x3f).toInt64)), .second, .val (.long (N2_ >>> ((1 : Int32) &&& 0x3f).toInt64)), .second, .val (.double r24), .second, .val (.double r26), .second, .val (.double r28), .second, .val (.double r30), .second, .val (.double r32), .second, .val (.double r34), .second, .val (.double r36), .second, .val (.long (9007199254740992 : Int64)), .second, .val (.int (1 : Int32))] [])) _
              exact K515
            · refine OGo.step (fun _ kk => XS.ifNo X44.here hx rfl (hb hby at_278) rfl ((if0 _ _).trans (feq hm0).1) kk) ?_
              show OGo p e below (T44.setTop (mkF m 281 #[.val (.long q1), .second, .val (.long q2), .second, .val (.long q3), .second, .val (.long q4), .second, .val (.int p1), .val (.long (9223372036854775807 : Int64)), .second, .val (.long E1_), .second, .val (.long N2_), .second, .val (.ref b), .val (.long ec), .second, .val (.long nc), .second, .val (.long (E1_ >>> ((1 : Int32) &&& 0x3f).toInt64)), .second, .val (.long (N2_ >>> ((1 : Int32) &&& 0x3f).toInt64)), .second, .val (.double r24), .second, .val (.double r26), .second, .val (.double r28), .second, .val (.double r30), .second, .val (.double r32), .second, .val (.double r34), .second, .val (.double r36), .second, .val (.long (9007199254740992 : Int64)), .second, .val (.int (1 : Int32))] [])) _
              have hM : ¬ E1_ = (9223372036854775807 : Int64) := fun z => hm0 ((lw_eq _ _).mpr z)
              refine OGo.step (fun _ kk => XS.iload X44.here hx rfl (hb hby at_281) rfl kk) ?_
              show OGo p e below (T44.setTop (mkF m 283 #[.val (.long q1), .second, .val (.long q2), .second, .val (.long q3), .second, .val (.long q4), .second, .val (.int p1), .val (.long (9223372036854775807 : Int64)), .second, .val (.long E1_), .second, .val (.long N2_), .second, .val (.ref b), .val (.long ec), .second, .val (.long nc), .second, .val (.long (E1_ >>> ((1 : Int32) &&& 0x3f).toInt64)), .second, .val (.long (N2_ >>> ((1 : Int32) &&& 0x3f).toInt64)), .second, .val (.double r24), .second, .val (.double r26), .second, .val (.double r28), .second, .val (.double r30), .second, .val (.double r32), .second, .val (.double r34), .second, .val (.double r36), .second, .val (.long (9007199254740992 : Int64)), .second, .val (.int (1 : Int32))] [(.int (1 : Int32))])) _
              refine OGo.step (fun _ kk => XS.ifNo X44.here hx rfl (hb hby at_283) rfl ((if0 _ _).trans (feq (by decide)).1) kk) ?_
              show OGo p e below (T44.setTop (mkF m 286 #[.val (.long q1), .second, .val (.long q2), .second, .val (.long q3), .second, .val (.long q4), .second, .val (.int p1), .val (.long (9223372036854775807 : Int64)), .second, .val (.long E1_), .second, .val (.long N2_), .second, .val (.ref b), .val (.long ec), .second, .val (.long nc), .second, .val (.long (E1_ >>> ((1 : Int32) &&& 0x3f).toInt64)), .second, .val (.long (N2_ >>> ((1 : Int32) &&& 0x3f).toInt64)), .second, .val (.double r24), .second, .val (.double r26), .second, .val (.double r28), .second, .val (.double r30), .second, .val (.double r32), .second, .val (.double r34), .second, .val (.double r36), .second, .val (.long (9007199254740992 : Int64)), .second, .val (.int (1 : Int32))] [])) _
              refine OGo.step (fun _ kk => XS.dload X44.here hx rfl (hb hby at_286) rfl kk) ?_
              refine OGo.step (fun _ kk => XS.dconst1 X44.here hx rfl (hb hby at_288) rfl kk) ?_
              refine OGo.step (fun _ kk => XS.dcmpS X44.here hx rfl (hb hby at_289) rfl rfl kk) ?_
              show OGo p e below (T44.setTop (mkF m 290 #[.val (.long q1), .second, .val (.long q2), .second, .val (.long q3), .second, .val (.long q4), .second, .val (.int p1), .val (.long (9223372036854775807 : Int64)), .second, .val (.long E1_), .second, .val (.long N2_), .second, .val (.ref b), .val (.long ec), .second, .val (.long nc), .second, .val (.long (E1_ >>> ((1 : Int32) &&& 0x3f).toInt64)), .second, .val (.long (N2_ >>> ((1 : Int32) &&& 0x3f).toInt64)), .second, .val (.double r24), .second, .val (.double r26), .second, .val (.double r28), .second, .val (.double r30), .second, .val (.double r32), .second, .val (.double r34), .second, .val (.double r36), .second, .val (.long (9007199254740992 : Int64)), .second, .val (.int (1 : Int32))] [(.int (cmpValue (FP.dcmp r30 FP.dconst1) .l))])) _
              refine OGo.step (fun _ kk => XS.ifNo X44.here hx rfl (hb hby at_290) rfl ((if0 _ _).trans (teq (own_eq U30 own_U1 (own_a1 hM gE) _)).2) kk) ?_
              show OGo p e below (T44.setTop (mkF m 293 #[.val (.long q1), .second, .val (.long q2), .second, .val (.long q3), .second, .val (.long q4), .second, .val (.int p1), .val (.long (9223372036854775807 : Int64)), .second, .val (.long E1_), .second, .val (.long N2_), .second, .val (.ref b), .val (.long ec), .second, .val (.long nc), .second, .val (.long (E1_ >>> ((1 : Int32) &&& 0x3f).toInt64)), .second, .val (.long (N2_ >>> ((1 : Int32) &&& 0x3f).toInt64)), .second, .val (.double r24), .second, .val (.double r26), .second, .val (.double r28), .second, .val (.double r30), .second, .val (.double r32), .second, .val (.double r34), .second, .val (.double r36), .second, .val (.long (9007199254740992 : Int64)), .second, .val (.int (1 : Int32))] [])) _
              refine OGo.step (fun _ kk => XS.iconst X44.here hx rfl (hb hby at_293) kk) ?_
              refine OGo.step (fun _ kk => XS.goto X44.here hx rfl (pc0 := 294) (pc' := 298) rfl (hb hby at_294) (by decide) (by decide) kk) ?_
              refine OGo.step (fun _ kk => XS.istore X44.here hx rfl (hb hby at_298) rfl (l' := #[.val (.long q1), .second, .val (.long q2), .second, .val (.long q3), .second, .val (.long q4), .second, .val (.int p1), .val (.long (9223372036854775807 : Int64)), .second, .val (.long E1_), .second, .val (.long N2_), .second, .val (.ref b), .val (.long ec), .second, .val (.long nc), .second, .val (.long (E1_ >>> ((1 : Int32) &&& 0x3f).toInt64)), .second, .val (.long (N2_ >>> ((1 : Int32) &&& 0x3f).toInt64)), .second, .val (.double r24), .second, .val (.double r26), .second, .val (.double r28), .second, .val (.double r30), .second, .val (.double r32), .second, .val (.double r34), .second, .val (.double r36), .second, .val (.long (9007199254740992 : Int64)), .second, .val (.int (1 : Int32))]) rfl kk) ?_
              refine OGo.step (fun _ kk => XS.lload X44.here hx rfl (hb hby at_300) rfl kk) ?_
              refine OGo.step (fun _ kk => XS.lconst X44.here hx rfl (hb hby at_302) kk) ?_
              refine OGo.step (fun _ kk => XS.land X44.here hx rfl (hb hby at_303) rfl kk) ?_
              refine OGo.step (fun _ kk => XS.lconst X44.here hx rfl (hb hby at_304) kk) ?_
              refine OGo.step (fun _ kk => XS.lcmp X44.here hx rfl (hb hby at_305) rfl kk) ?_
              show OGo p e below (T44.setTop (mkF m 306 #[.val (.long q1), .second, .val (.long q2), .second, .val (.long q3), .second, .val (.long q4), .second, .val (.int p1), .val (.long (9223372036854775807 : Int64)), .second, .val (.long E1_), .second, .val (.long N2_), .second, .val (.ref b), .val (.long ec), .second, .val (.long nc), .second, .val (.long (E1_ >>> ((1 : Int32) &&& 0x3f).toInt64)), .second, .val (.long (N2_ >>> ((1 : Int32) &&& 0x3f).toInt64)), .second, .val (.double r24), .second, .val (.double r26), .second, .val (.double r28), .second, .val (.double r30), .second, .val (.double r32), .second, .val (.double r34), .second, .val (.double r36), .second, .val (.long (9007199254740992 : Int64)), .second, .val (.int (1 : Int32))] [(.int (lcmpW (E1_ &&& (1 : Int64)) (0 : Int64)))])) _
              by_cases hv0 : (lcmpW (E1_ &&& (1 : Int64)) (0 : Int64)) = (0 : Int32)
              · refine OGo.step (fun _ kk => XS.ifNo X44.here hx rfl (hb hby at_306) rfl ((if0 _ _).trans (teq hv0).2) kk) ?_
                show OGo p e below (T44.setTop (mkF m 309 #[.val (.long q1), .second, .val (.long q2), .second, .val (.long q3), .second, .val (.long q4), .second, .val (.int p1), .val (.long (9223372036854775807 : Int64)), .second, .val (.long E1_), .second, .val (.long N2_), .second, .val (.ref b), .val (.long ec), .second, .val (.long nc), .second, .val (.long (E1_ >>> ((1 : Int32) &&& 0x3f).toInt64)), .second, .val (.long (N2_ >>> ((1 : Int32) &&& 0x3f).toInt64)), .second, .val (.double r24), .second, .val (.double r26), .second, .val (.double r28), .second, .val (.double r30), .second, .val (.double r32), .second, .val (.double r34), .second, .val (.double r36), .second, .val (.long (9007199254740992 : Int64)), .second, .val (.int (1 : Int32))] [])) _
                refine OGo.step (fun _ kk => XS.iload X44.here hx rfl (hb hby at_309) rfl kk) ?_
                show OGo p e below (T44.setTop (mkF m 311 #[.val (.long q1), .second, .val (.long q2), .second, .val (.long q3), .second, .val (.long q4), .second, .val (.int p1), .val (.long (9223372036854775807 : Int64)), .second, .val (.long E1_), .second, .val (.long N2_), .second, .val (.ref b), .val (.long ec), .second, .val (.long nc), .second, .val (.long (E1_ >>> ((1 : Int32) &&& 0x3f).toInt64)), .second, .val (.long (N2_ >>> ((1 : Int32) &&& 0x3f).toInt64)), .second, .val (.double r24), .second, .val (.double r26), .second, .val (.double r28), .second, .val (.double r30), .second, .val (.double r32), .second, .val (.double r34), .second, .val (.double r36), .second, .val (.long (9007199254740992 : Int64)), .second, .val (.int (1 : Int32))] [(.int (1 : Int32))])) _
                refine OGo.step (fun _ kk => XS.ifNo X44.here hx rfl (hb hby at_311) rfl ((if0 _ _).trans (feq (by decide)).1) kk) ?_
                show OGo p e below (T44.setTop (mkF m 314 #[.val (.long q1), .second, .val (.long q2), .second, .val (.long q3), .second, .val (.long q4), .second, .val (.int p1), .val (.long (9223372036854775807 : Int64)), .second, .val (.long E1_), .second, .val (.long N2_), .second, .val (.ref b), .val (.long ec), .second, .val (.long nc), .second, .val (.long (E1_ >>> ((1 : Int32) &&& 0x3f).toInt64)), .second, .val (.long (N2_ >>> ((1 : Int32) &&& 0x3f).toInt64)), .second, .val (.double r24), .second, .val (.double r26), .second, .val (.double r28), .second, .val (.double r30), .second, .val (.double r32), .second, .val (.double r34), .second, .val (.double r36), .second, .val (.long (9007199254740992 : Int64)), .second, .val (.int (1 : Int32))] [])) _
                refine OGo.step (fun _ kk => XS.dload X44.here hx rfl (hb hby at_314) rfl kk) ?_
                refine OGo.step (fun _ kk => X44.ldc2DoubleC hx hown (mvT hZ (hw _ (List.mem_of_getElem? (i := 47) rfl))) (g := (mkF m 316 #[.val (.long q1), .second, .val (.long q2), .second, .val (.long q3), .second, .val (.long q4), .second, .val (.int p1), .val (.long (9223372036854775807 : Int64)), .second, .val (.long E1_), .second, .val (.long N2_), .second, .val (.ref b), .val (.long ec), .second, .val (.long nc), .second, .val (.long (E1_ >>> ((1 : Int32) &&& 0x3f).toInt64)), .second, .val (.long (N2_ >>> ((1 : Int32) &&& 0x3f).toInt64)), .second, .val (.double r24), .second, .val (.double r26), .second, .val (.double r28), .second, .val (.double r30), .second, .val (.double r32), .second, .val (.double r34), .second, .val (.double r36), .second, .val (.long (9007199254740992 : Int64)), .second, .val (.int (1 : Int32))] [(.double r34)])) rfl (hb hby at_316) _ kk) ?_
                refine OGo.step (fun _ kk => XS.dcmpS X44.here hx rfl (hb hby at_319) rfl rfl kk) ?_
                show OGo p e below (T44.setTop (mkF m 320 #[.val (.long q1), .second, .val (.long q2), .second, .val (.long q3), .second, .val (.long q4), .second, .val (.int p1), .val (.long (9223372036854775807 : Int64)), .second, .val (.long E1_), .second, .val (.long N2_), .second, .val (.ref b), .val (.long ec), .second, .val (.long nc), .second, .val (.long (E1_ >>> ((1 : Int32) &&& 0x3f).toInt64)), .second, .val (.long (N2_ >>> ((1 : Int32) &&& 0x3f).toInt64)), .second, .val (.double r24), .second, .val (.double r26), .second, .val (.double r28), .second, .val (.double r30), .second, .val (.double r32), .second, .val (.double r34), .second, .val (.double r36), .second, .val (.long (9007199254740992 : Int64)), .second, .val (.int (1 : Int32))] [(.int (cmpValue (FP.dcmp r34 (4602678819172646912 : UInt64)) .l))])) _
                refine OGo.step (fun _ kk => XS.ifNo X44.here hx rfl (hb hby at_320) rfl ((if0 _ _).trans (teq (own_eq U34 own_Uhf (own_a2 hM gE ((lw_eq _ _).mp hv0)) _)).2) kk) ?_
                show OGo p e below (T44.setTop (mkF m 323 #[.val (.long q1), .second, .val (.long q2), .second, .val (.long q3), .second, .val (.long q4), .second, .val (.int p1), .val (.long (9223372036854775807 : Int64)), .second, .val (.long E1_), .second, .val (.long N2_), .second, .val (.ref b), .val (.long ec), .second, .val (.long nc), .second, .val (.long (E1_ >>> ((1 : Int32) &&& 0x3f).toInt64)), .second, .val (.long (N2_ >>> ((1 : Int32) &&& 0x3f).toInt64)), .second, .val (.double r24), .second, .val (.double r26), .second, .val (.double r28), .second, .val (.double r30), .second, .val (.double r32), .second, .val (.double r34), .second, .val (.double r36), .second, .val (.long (9007199254740992 : Int64)), .second, .val (.int (1 : Int32))] [])) _
                refine OGo.step (fun _ kk => XS.iconst X44.here hx rfl (hb hby at_323) kk) ?_
                refine OGo.step (fun _ kk => XS.goto X44.here hx rfl (pc0 := 324) (pc' := 328) rfl (hb hby at_324) (by decide) (by decide) kk) ?_
                refine OGo.step (fun _ kk => XS.istore X44.here hx rfl (hb hby at_328) rfl (l' := #[.val (.long q1), .second, .val (.long q2), .second, .val (.long q3), .second, .val (.long q4), .second, .val (.int p1), .val (.long (9223372036854775807 : Int64)), .second, .val (.long E1_), .second, .val (.long N2_), .second, .val (.ref b), .val (.long ec), .second, .val (.long nc), .second, .val (.long (E1_ >>> ((1 : Int32) &&& 0x3f).toInt64)), .second, .val (.long (N2_ >>> ((1 : Int32) &&& 0x3f).toInt64)), .second, .val (.double r24), .second, .val (.double r26), .second, .val (.double r28), .second, .val (.double r30), .second, .val (.double r32), .second, .val (.double r34), .second, .val (.double r36), .second, .val (.long (9007199254740992 : Int64)), .second, .val (.int (1 : Int32))]) rfl kk) ?_
                show OGo p e below (T44.setTop (mkF m 330 #[.val (.long q1), .second, .val (.long q2), .second, .val (.long q3), .second, .val (.long q4), .second, .val (.int p1), .val (.long (9223372036854775807 : Int64)), .second, .val (.long E1_), .second, .val (.long N2_), .second, .val (.ref b), .val (.long ec), .second, .val (.long nc), .second, .val (.long (E1_ >>> ((1 : Int32) &&& 0x3f).toInt64)), .second, .val (.long (N2_ >>> ((1 : Int32) &&& 0x3f).toInt64)), .second, .val (.double r24), .second, .val (.double r26), .second, .val (.double r28), .second, .val (.double r30), .second, .val (.double r32), .second, .val (.double r34), .second, .val (.double r36), .second, .val (.long (9007199254740992 : Int64)), .second, .val (.int (1 : Int32))] [])) _
                exact K330 hM
              · refine OGo.step (fun _ kk => XS.ifYes X44.here hx rfl (pc0 := 306) (pc' := 330) rfl (hb hby at_306) rfl ((if0 _ _).trans (feq hv0).2) (by decide) (by decide) kk) ?_
                show OGo p e below (T44.setTop (mkF m 330 #[.val (.long q1), .second, .val (.long q2), .second, .val (.long q3), .second, .val (.long q4), .second, .val (.int p1), .val (.long (9223372036854775807 : Int64)), .second, .val (.long E1_), .second, .val (.long N2_), .second, .val (.ref b), .val (.long ec), .second, .val (.long nc), .second, .val (.long (E1_ >>> ((1 : Int32) &&& 0x3f).toInt64)), .second, .val (.long (N2_ >>> ((1 : Int32) &&& 0x3f).toInt64)), .second, .val (.double r24), .second, .val (.double r26), .second, .val (.double r28), .second, .val (.double r30), .second, .val (.double r32), .second, .val (.double r34), .second, .val (.double r36), .second, .val (.long (9007199254740992 : Int64)), .second, .val (.int (1 : Int32))] [])) _
                exact K330 hM
          by_cases f3_ : (p1 &&& (16 : Int32)) = (0 : Int32)
          · refine OGo.step (fun _ kk => XS.ifYes X35.here hx rfl (pc0 := 138) (pc' := 145) rfl (hb hby at_138) rfl ((if0 _ _).trans (teq f3_).1) (by decide) (by decide) kk) ?_
            show OGo p e below (T35.setTop (mkF m 145 #[.val (.long q1), .second, .val (.long q2), .second, .val (.long q3), .second, .val (.long q4), .second, .val (.int p1), .val (.long (9223372036854775807 : Int64)), .second, .val (.long E1_), .second, .val (.long N2_), .second, .val (.ref b), .val (.long ec), .second, .unset, .unset, .unset, .unset, .unset, .unset, .unset, .unset, .unset, .unset, .unset, .unset, .unset, .unset, .unset, .unset, .unset, .unset, .unset, .unset, .unset, .unset, .unset] [(.long q4), (.long (q4 &&& (9223372036854775807 : Int64))), (.long N2_)])) _
            refine OGo.step (fun _ kk => XS.iconst X35.here hx rfl (hb hby at_145) kk) ?_
            show OGo p e below (T35.setTop (mkF m 146 #[.val (.long q1), .second, .val (.long q2), .second, .val (.long q3), .second, .val (.long q4), .second, .val (.int p1), .val (.long (9223372036854775807 : Int64)), .second, .val (.long E1_), .second, .val (.long N2_), .second, .val (.ref b), .val (.long ec), .second, .unset, .unset, .unset, .unset, .unset, .unset, .unset, .unset, .unset, .unset, .unset, .unset, .unset, .unset, .unset, .unset, .unset, .unset, .unset, .unset, .unset, .unset, .unset] [(.int (0 : Int32)), (.long q4), (.long (q4 &&& (9223372036854775807 : Int64))), (.long N2_)])) _
            exact K146 _
          · refine OGo.step (fun _ kk => XS.ifNo X35.here hx rfl (hb hby at_138) rfl ((if0 _ _).trans (feq f3_).1) kk) ?_
            show OGo p e below (T35.setTop (mkF m 141 #[.val (.long q1), .second, .val (.long q2), .second, .val (.long q3), .second, .val (.long q4), .second, .val (.int p1), .val (.long (9223372036854775807 : Int64)), .second, .val (.long E1_), .second, .val (.long N2_), .second, .val (.ref b), .val (.long ec), .second, .unset, .unset, .unset, .unset, .unset, .unset, .unset, .unset, .unset, .unset, .unset, .unset, .unset, .unset, .unset, .unset, .unset, .unset, .unset, .unset, .unset, .unset, .unset] [(.long q4), (.long (q4 &&& (9223372036854775807 : Int64))), (.long N2_)])) _
            refine OGo.step (fun _ kk => XS.iconst X35.here hx rfl (hb hby at_141) kk) ?_
            refine OGo.step (fun _ kk => XS.goto X35.here hx rfl (pc0 := 142) (pc' := 146) rfl (hb hby at_142) (by decide) (by decide) kk) ?_
            show OGo p e below (T35.setTop (mkF m 146 #[.val (.long q1), .second, .val (.long q2), .second, .val (.long q3), .second, .val (.long q4), .second, .val (.int p1), .val (.long (9223372036854775807 : Int64)), .second, .val (.long E1_), .second, .val (.long N2_), .second, .val (.ref b), .val (.long ec), .second, .unset, .unset, .unset, .unset, .unset, .unset, .unset, .unset, .unset, .unset, .unset, .unset, .unset, .unset, .unset, .unset, .unset, .unset, .unset, .unset, .unset, .unset, .unset] [(.int (1 : Int32)), (.long q4), (.long (q4 &&& (9223372036854775807 : Int64))), (.long N2_)])) _
            exact K146 _
        by_cases f2_ : (p1 &&& (8 : Int32)) = (0 : Int32)
        · refine OGo.step (fun _ kk => XS.ifYes X34.here hx rfl (pc0 := 111) (pc' := 118) rfl (hb hby at_111) rfl ((if0 _ _).trans (teq f2_).1) (by decide) (by decide) kk) ?_
          show OGo p e below (T34.setTop (mkF m 118 #[.val (.long q1), .second, .val (.long q2), .second, .val (.long q3), .second, .val (.long q4), .second, .val (.int p1), .val (.long (9223372036854775807 : Int64)), .second, .val (.long E1_), .second, .val (.long N2_), .second, .val (.ref b), .unset, .unset, .unset, .unset, .unset, .unset, .unset, .unset, .unset, .unset, .unset, .unset, .unset, .unset, .unset, .unset, .unset, .unset, .unset, .unset, .unset, .unset, .unset, .unset, .unset] [(.long q3), (.long (q3 &&& (9223372036854775807 : Int64))), (.long E1_)])) _
          refine OGo.step (fun _ kk => XS.iconst X34.here hx rfl (hb hby at_118) kk) ?_
          show OGo p e below (T34.setTop (mkF m 119 #[.val (.long q1), .second, .val (.long q2), .second, .val (.long q3), .second, .val (.long q4), .second, .val (.int p1), .val (.long (9223372036854775807 : Int64)), .second, .val (.long E1_), .second, .val (.long N2_), .second, .val (.ref b), .unset, .unset, .unset, .unset, .unset, .unset, .unset, .unset, .unset, .unset, .unset, .unset, .unset, .unset, .unset, .unset, .unset, .unset, .unset, .unset, .unset, .unset, .unset, .unset, .unset] [(.int (0 : Int32)), (.long q3), (.long (q3 &&& (9223372036854775807 : Int64))), (.long E1_)])) _
          exact K119 _
        · refine OGo.step (fun _ kk => XS.ifNo X34.here hx rfl (hb hby at_111) rfl ((if0 _ _).trans (feq f2_).1) kk) ?_
          show OGo p e below (T34.setTop (mkF m 114 #[.val (.long q1), .second, .val (.long q2), .second, .val (.long q3), .second, .val (.long q4), .second, .val (.int p1), .val (.long (9223372036854775807 : Int64)), .second, .val (.long E1_), .second, .val (.long N2_), .second, .val (.ref b), .unset, .unset, .unset, .unset, .unset, .unset, .unset, .unset, .unset, .unset, .unset, .unset, .unset, .unset, .unset, .unset, .unset, .unset, .unset, .unset, .unset, .unset, .unset, .unset, .unset] [(.long q3), (.long (q3 &&& (9223372036854775807 : Int64))), (.long E1_)])) _
          refine OGo.step (fun _ kk => XS.iconst X34.here hx rfl (hb hby at_114) kk) ?_
          refine OGo.step (fun _ kk => XS.goto X34.here hx rfl (pc0 := 115) (pc' := 119) rfl (hb hby at_115) (by decide) (by decide) kk) ?_
          show OGo p e below (T34.setTop (mkF m 119 #[.val (.long q1), .second, .val (.long q2), .second, .val (.long q3), .second, .val (.long q4), .second, .val (.int p1), .val (.long (9223372036854775807 : Int64)), .second, .val (.long E1_), .second, .val (.long N2_), .second, .val (.ref b), .unset, .unset, .unset, .unset, .unset, .unset, .unset, .unset, .unset, .unset, .unset, .unset, .unset, .unset, .unset, .unset, .unset, .unset, .unset, .unset, .unset, .unset, .unset, .unset, .unset] [(.int (1 : Int32)), (.long q3), (.long (q3 &&& (9223372036854775807 : Int64))), (.long E1_)])) _
          exact K119 _
      by_cases f1_ : (p1 &&& (4 : Int32)) = (0 : Int32)
      · refine OGo.step (fun _ kk => XS.ifYes X33.here hx rfl (pc0 := 84) (pc' := 91) rfl (hb hby at_84) rfl ((if0 _ _).trans (teq f1_).1) (by decide) (by decide) kk) ?_
        show OGo p e below (T33.setTop (mkF m 91 #[.val (.long q1), .second, .val (.long q2), .second, .val (.long q3), .second, .val (.long q4), .second, .val (.int p1), .val (.long (9223372036854775807 : Int64)), .second, .val (.long E1_), .second, .val (.long N2_), .second, .unset, .unset, .unset, .unset, .unset, .unset, .unset, .unset, .unset, .unset, .unset, .unset, .unset, .unset, .unset, .unset, .unset, .unset, .unset, .unset, .unset, .unset, .unset, .unset, .unset, .unset] [(.long N2_), (.long E1_), (.ref b), (.ref b)])) _
        refine OGo.step (fun _ kk => XS.iconst X33.here hx rfl (hb hby at_91) kk) ?_
        show OGo p e below (T33.setTop (mkF m 92 #[.val (.long q1), .second, .val (.long q2), .second, .val (.long q3), .second, .val (.long q4), .second, .val (.int p1), .val (.long (9223372036854775807 : Int64)), .second, .val (.long E1_), .second, .val (.long N2_), .second, .unset, .unset, .unset, .unset, .unset, .unset, .unset, .unset, .unset, .unset, .unset, .unset, .unset, .unset, .unset, .unset, .unset, .unset, .unset, .unset, .unset, .unset, .unset, .unset, .unset, .unset] [(.int (0 : Int32)), (.long N2_), (.long E1_), (.ref b), (.ref b)])) _
        exact K92 _
      · refine OGo.step (fun _ kk => XS.ifNo X33.here hx rfl (hb hby at_84) rfl ((if0 _ _).trans (feq f1_).1) kk) ?_
        show OGo p e below (T33.setTop (mkF m 87 #[.val (.long q1), .second, .val (.long q2), .second, .val (.long q3), .second, .val (.long q4), .second, .val (.int p1), .val (.long (9223372036854775807 : Int64)), .second, .val (.long E1_), .second, .val (.long N2_), .second, .unset, .unset, .unset, .unset, .unset, .unset, .unset, .unset, .unset, .unset, .unset, .unset, .unset, .unset, .unset, .unset, .unset, .unset, .unset, .unset, .unset, .unset, .unset, .unset, .unset, .unset] [(.long N2_), (.long E1_), (.ref b), (.ref b)])) _
        refine OGo.step (fun _ kk => XS.iconst X33.here hx rfl (hb hby at_87) kk) ?_
        refine OGo.step (fun _ kk => XS.goto X33.here hx rfl (pc0 := 88) (pc' := 92) rfl (hb hby at_88) (by decide) (by decide) kk) ?_
        show OGo p e below (T33.setTop (mkF m 92 #[.val (.long q1), .second, .val (.long q2), .second, .val (.long q3), .second, .val (.long q4), .second, .val (.int p1), .val (.long (9223372036854775807 : Int64)), .second, .val (.long E1_), .second, .val (.long N2_), .second, .unset, .unset, .unset, .unset, .unset, .unset, .unset, .unset, .unset, .unset, .unset, .unset, .unset, .unset, .unset, .unset, .unset, .unset, .unset, .unset, .unset, .unset, .unset, .unset, .unset, .unset] [(.int (1 : Int32)), (.long N2_), (.long E1_), (.ref b), (.ref b)])) _
        exact K92 _
    refine OGo.step (fun _ kk => XS.lload X32.here hx rfl (hb hby at_50) rfl kk) ?_
    refine OGo.step (fun _ kk => XS.lload X32.here hx rfl (hb hby at_52) rfl kk) ?_
    refine OGo.step (fun _ kk => XS.lcmp X32.here hx rfl (hb hby at_54) rfl kk) ?_
    show OGo p e below (T32.setTop (mkF m 55 #[.val (.long q1), .second, .val (.long q2), .second, .val (.long q3), .second, .val (.long q4), .second, .val (.int p1), .val (.long (9223372036854775807 : Int64)), .second, .val (.long E1_), .second, .val (.long N1_), .second, .unset, .unset, .unset, .unset, .unset, .unset, .unset, .unset, .unset, .unset, .unset, .unset, .unset, .unset, .unset, .unset, .unset, .unset, .unset, .unset, .unset, .unset, .unset, .unset, .unset, .unset] [(.int (lcmpW E1_ (9223372036854775807 : Int64)))])) _
    by_cases m1_ : (lcmpW E1_ (9223372036854775807 : Int64)) = (0 : Int32)
    · refine OGo.step (fun _ kk => XS.ifNo X32.here hx rfl (hb hby at_55) rfl ((if0 _ _).trans (teq m1_).2) kk) ?_
      show OGo p e below (T32.setTop (mkF m 58 #[.val (.long q1), .second, .val (.long q2), .second, .val (.long q3), .second, .val (.long q4), .second, .val (.int p1), .val (.long (9223372036854775807 : Int64)), .second, .val (.long E1_), .second, .val (.long N1_), .second, .unset, .unset, .unset, .unset, .unset, .unset, .unset, .unset, .unset, .unset, .unset, .unset, .unset, .unset, .unset, .unset, .unset, .unset, .unset, .unset, .unset, .unset, .unset, .unset, .unset, .unset] [])) _
      refine OGo.step (fun _ kk => XS.lload X32.here hx rfl (hb hby at_58) rfl kk) ?_
      refine OGo.step (fun _ kk => XS.lload X32.here hx rfl (hb hby at_60) rfl kk) ?_
      refine OGo.step (fun _ kk => XS.lcmp X32.here hx rfl (hb hby at_62) rfl kk) ?_
      show OGo p e below (T32.setTop (mkF m 63 #[.val (.long q1), .second, .val (.long q2), .second, .val (.long q3), .second, .val (.long q4), .second, .val (.int p1), .val (.long (9223372036854775807 : Int64)), .second, .val (.long E1_), .second, .val (.long N1_), .second, .unset, .unset, .unset, .unset, .unset, .unset, .unset, .unset, .unset, .unset, .unset, .unset, .unset, .unset, .unset, .unset, .unset, .unset, .unset, .unset, .unset, .unset, .unset, .unset, .unset, .unset] [(.int (lcmpW N1_ (9223372036854775807 : Int64)))])) _
      by_cases m2_ : (lcmpW N1_ (9223372036854775807 : Int64)) = (0 : Int32)
      · refine OGo.step (fun _ kk => XS.ifNo X32.here hx rfl (hb hby at_63) rfl ((if0 _ _).trans (teq m2_).2) kk) ?_
        show OGo p e below (T32.setTop (mkF m 66 #[.val (.long q1), .second, .val (.long q2), .second, .val (.long q3), .second, .val (.long q4), .second, .val (.int p1), .val (.long (9223372036854775807 : Int64)), .second, .val (.long E1_), .second, .val (.long N1_), .second, .unset, .unset, .unset, .unset, .unset, .unset, .unset, .unset, .unset, .unset, .unset, .unset, .unset, .unset, .unset, .unset, .unset, .unset, .unset, .unset, .unset, .unset, .unset, .unset, .unset, .unset] [])) _
        refine OGo.step (fun _ kk => XS.lload X32.here hx rfl (hb hby at_66) rfl kk) ?_
        refine OGo.step (fun _ kk => XS.lconst X32.here hx rfl (hb hby at_68) kk) ?_
        refine OGo.step (fun _ kk => XS.lsub X32.here hx rfl (hb hby at_69) rfl kk) ?_
        refine OGo.step (fun _ kk => XS.lstore X32.here hx rfl (hb hby at_70) rfl (l' := #[.val (.long q1), .second, .val (.long q2), .second, .val (.long q3), .second, .val (.long q4), .second, .val (.int p1), .val (.long (9223372036854775807 : Int64)), .second, .val (.long E1_), .second, .val (.long ((9223372036854775807 : Int64) - (1 : Int64))), .second, .unset, .unset, .unset, .unset, .unset, .unset, .unset, .unset, .unset, .unset, .unset, .unset, .unset, .unset, .unset, .unset, .unset, .unset, .unset, .unset, .unset, .unset, .unset, .unset, .unset, .unset]) rfl kk) ?_
        show OGo p e below (T32.setTop (mkF m 72 #[.val (.long q1), .second, .val (.long q2), .second, .val (.long q3), .second, .val (.long q4), .second, .val (.int p1), .val (.long (9223372036854775807 : Int64)), .second, .val (.long E1_), .second, .val (.long ((9223372036854775807 : Int64) - (1 : Int64))), .second, .unset, .unset, .unset, .unset, .unset, .unset, .unset, .unset, .unset, .unset, .unset, .unset, .unset, .unset, .unset, .unset, .unset, .unset, .unset, .unset, .unset, .unset, .unset, .unset, .unset, .unset] [])) _
        exact K72 _ (by decide) (fun z => absurd z.2 (by decide))
      · refine OGo.step (fun _ kk => XS.ifYes X32.here hx rfl (pc0 := 63) (pc' := 72) rfl (hb hby at_63) rfl ((if0 _ _).trans (feq m2_).2) (by decide) (by decide) kk) ?_
        show OGo p e below (T32.setTop (mkF m 72 #[.val (.long q1), .second, .val (.long q2), .second, .val (.long q3), .second, .val (.long q4), .second, .val (.int p1), .val (.long (9223372036854775807 : Int64)), .second, .val (.long E1_), .second, .val (.long N1_), .second, .unset, .unset, .unset, .unset, .unset, .unset, .unset, .unset, .unset, .unset, .unset, .unset, .unset, .unset, .unset, .unset, .unset, .unset, .unset, .unset, .unset, .unset, .unset, .unset, .unset, .unset] [])) _
        exact K72 _ hn (fun z => m2_ ((lw_eq _ _).mpr z.2))
    · refine OGo.step (fun _ kk => XS.ifYes X32.here hx rfl (pc0 := 55) (pc' := 72) rfl (hb hby at_55) rfl ((if0 _ _).trans (feq m1_).2) (by decide) (by decide) kk) ?_
      show OGo p e below (T32.setTop (mkF m 72 #[.val (.long q1), .second, .val (.long q2), .second, .val (.long q3), .second, .val (.long q4), .second, .val (.int p1), .val (.long (9223372036854775807 : Int64)), .second, .val (.long E1_), .second, .val (.long N1_), .second, .unset, .unset, .unset, .unset, .unset, .unset, .unset, .unset, .unset, .unset, .unset, .unset, .unset, .unset, .unset, .unset, .unset, .unset, .unset, .unset, .unset, .unset, .unset, .unset, .unset, .unset] [])) _
      exact K72 _ hn (fun z => m1_ ((lw_eq _ _).mpr z.1))
  by_cases b1_ : (p1 &&& (1 : Int32)) = (0 : Int32)
  · refine OGo.step (fun _ kk => XS.ifYes X32.here hx rfl (pc0 := 29) (pc' := 39) rfl (hb hby at_29) rfl ((if0 _ _).trans (teq b1_).1) (by decide) (by decide) kk) ?_
    show OGo p e below (T32.setTop (mkF m 39 #[.val (.long q1), .second, .val (.long q2), .second, .val (.long q3), .second, .val (.long q4), .second, .val (.int p1), .val (.long (9223372036854775807 : Int64)), .second, .val (.long E_0), .second, .val (.long N_0), .second, .unset, .unset, .unset, .unset, .unset, .unset, .unset, .unset, .unset, .unset, .unset, .unset, .unset, .unset, .unset, .unset, .unset, .unset, .unset, .unset, .unset, .unset, .unset, .unset, .unset, .unset] [])) _
    refine OGo.step (fun _ kk => XS.iload X32.here hx rfl (hb hby at_39) rfl kk) ?_
    refine OGo.step (fun _ kk => XS.iconst X32.here hx rfl (hb hby at_41) kk) ?_
    refine OGo.step (fun _ kk => XS.iand X32.here hx rfl (hb hby at_42) rfl kk) ?_
    show OGo p e below (T32.setTop (mkF m 43 #[.val (.long q1), .second, .val (.long q2), .second, .val (.long q3), .second, .val (.long q4), .second, .val (.int p1), .val (.long (9223372036854775807 : Int64)), .second, .val (.long E_0), .second, .val (.long N_0), .second, .unset, .unset, .unset, .unset, .unset, .unset, .unset, .unset, .unset, .unset, .unset, .unset, .unset, .unset, .unset, .unset, .unset, .unset, .unset, .unset, .unset, .unset, .unset, .unset, .unset, .unset] [(.int (p1 &&& (2 : Int32)))])) _
    by_cases b2_ : (p1 &&& (2 : Int32)) = (0 : Int32)
    · refine OGo.step (fun _ kk => XS.ifYes X32.here hx rfl (pc0 := 43) (pc' := 50) rfl (hb hby at_43) rfl ((if0 _ _).trans (teq b2_).1) (by decide) (by decide) kk) ?_
      show OGo p e below (T32.setTop (mkF m 50 #[.val (.long q1), .second, .val (.long q2), .second, .val (.long q3), .second, .val (.long q4), .second, .val (.int p1), .val (.long (9223372036854775807 : Int64)), .second, .val (.long E_0), .second, .val (.long N_0), .second, .unset, .unset, .unset, .unset, .unset, .unset, .unset, .unset, .unset, .unset, .unset, .unset, .unset, .unset, .unset, .unset, .unset, .unset, .unset, .unset, .unset, .unset, .unset, .unset, .unset, .unset] [])) _
      exact K50 _ _ hE_ hN_
    · refine OGo.step (fun _ kk => XS.ifNo X32.here hx rfl (hb hby at_43) rfl ((if0 _ _).trans (feq b2_).1) kk) ?_
      show OGo p e below (T32.setTop (mkF m 46 #[.val (.long q1), .second, .val (.long q2), .second, .val (.long q3), .second, .val (.long q4), .second, .val (.int p1), .val (.long (9223372036854775807 : Int64)), .second, .val (.long E_0), .second, .val (.long N_0), .second, .unset, .unset, .unset, .unset, .unset, .unset, .unset, .unset, .unset, .unset, .unset, .unset, .unset, .unset, .unset, .unset, .unset, .unset, .unset, .unset, .unset, .unset, .unset, .unset, .unset, .unset] [])) _
      refine OGo.step (fun _ kk => XS.lload X32.here hx rfl (hb hby at_46) rfl kk) ?_
      refine OGo.step (fun _ kk => XS.lstore X32.here hx rfl (hb hby at_48) rfl (l' := #[.val (.long q1), .second, .val (.long q2), .second, .val (.long q3), .second, .val (.long q4), .second, .val (.int p1), .val (.long (9223372036854775807 : Int64)), .second, .val (.long E_0), .second, .val (.long (9223372036854775807 : Int64)), .second, .unset, .unset, .unset, .unset, .unset, .unset, .unset, .unset, .unset, .unset, .unset, .unset, .unset, .unset, .unset, .unset, .unset, .unset, .unset, .unset, .unset, .unset, .unset, .unset, .unset, .unset]) rfl kk) ?_
      show OGo p e below (T32.setTop (mkF m 50 #[.val (.long q1), .second, .val (.long q2), .second, .val (.long q3), .second, .val (.long q4), .second, .val (.int p1), .val (.long (9223372036854775807 : Int64)), .second, .val (.long E_0), .second, .val (.long (9223372036854775807 : Int64)), .second, .unset, .unset, .unset, .unset, .unset, .unset, .unset, .unset, .unset, .unset, .unset, .unset, .unset, .unset, .unset, .unset, .unset, .unset, .unset, .unset, .unset, .unset, .unset, .unset, .unset, .unset] [])) _
      exact K50 _ _ hE_ (by decide)
  · refine OGo.step (fun _ kk => XS.ifNo X32.here hx rfl (hb hby at_29) rfl ((if0 _ _).trans (feq b1_).1) kk) ?_
    show OGo p e below (T32.setTop (mkF m 32 #[.val (.long q1), .second, .val (.long q2), .second, .val (.long q3), .second, .val (.long q4), .second, .val (.int p1), .val (.long (9223372036854775807 : Int64)), .second, .val (.long E_0), .second, .val (.long N_0), .second, .unset, .unset, .unset, .unset, .unset, .unset, .unset, .unset, .unset, .unset, .unset, .unset, .unset, .unset, .unset, .unset, .unset, .unset, .unset, .unset, .unset, .unset, .unset, .unset, .unset, .unset] [])) _
    refine OGo.step (fun _ kk => XS.lload X32.here hx rfl (hb hby at_32) rfl kk) ?_
    refine OGo.step (fun _ kk => XS.lstore X32.here hx rfl (hb hby at_34) rfl (l' := #[.val (.long q1), .second, .val (.long q2), .second, .val (.long q3), .second, .val (.long q4), .second, .val (.int p1), .val (.long (9223372036854775807 : Int64)), .second, .val (.long (9223372036854775807 : Int64)), .second, .val (.long N_0), .second, .unset, .unset, .unset, .unset, .unset, .unset, .unset, .unset, .unset, .unset, .unset, .unset, .unset, .unset, .unset, .unset, .unset, .unset, .unset, .unset, .unset, .unset, .unset, .unset, .unset, .unset]) rfl kk) ?_
    refine OGo.step (fun _ kk => XS.goto X32.here hx rfl (pc0 := 36) (pc' := 50) rfl (hb hby at_36) (by decide) (by decide) kk) ?_
    show OGo p e below (T32.setTop (mkF m 50 #[.val (.long q1), .second, .val (.long q2), .second, .val (.long q3), .second, .val (.long q4), .second, .val (.int p1), .val (.long (9223372036854775807 : Int64)), .second, .val (.long (9223372036854775807 : Int64)), .second, .val (.long N_0), .second, .unset, .unset, .unset, .unset, .unset, .unset, .unset, .unset, .unset, .unset, .unset, .unset, .unset, .unset, .unset, .unset, .unset, .unset, .unset, .unset, .unset, .unset, .unset, .unset, .unset, .unset] [])) _
    exact K50 _ _ (by decide) hN_

set_option maxRecDepth 65536 in
set_option maxHeartbeats 40000000 in
theorem comes_1 {Post : Tables → Env → Array Value → State → Outcome → State → Prop} (hpost : ∀ tb e args s v u, (limb_1_1.after args s (.returned v) u = true ∧ limb_1_2.after args s (.returned v) u = true ∧ True) → FrameEnd s (.returned v) u (Jvm.fieldLocs frame_1_writes args s ++ Jvm.arrayLocs frame_1_arrays args s ++ Jvm.staticLocs frame_1_statics s) 16 128 → Post tb e args s (.returned v) u) :
    ArmFor flags0 classFile x code maxLocals ret World_1 tables_1 room_1 Calls_1 rest_1 Pre_1 Post := by
  intro l hfl _ _ p e ha hc hk s m args below hf hA hF happ hP
  obtain ⟨hcalls, hrest, hpre⟩ := hP
  obtain ⟨-, -, -, hnamed, -, -, -, hat⟩ := (Spec.applies_iff hf).mp happ
  obtain ⟨hg, hn⟩ := and_e (Cond.before_iff.mp (show (Jvm.Cond.and given_1 narrow_1).before args s = true from hpre))
  obtain ⟨k45, k45'⟩ := and_e hg
  obtain ⟨k46, k46'⟩ := and_e k45'
  obtain ⟨k47, k47'⟩ := and_e k46'
  obtain ⟨k48, k48'⟩ := and_e k47'
  obtain ⟨k49, k49'⟩ := and_e k48'
  obtain ⟨w0_, w1_, w2_, w3_, w4_, rfl⟩ : ∃ w0_ w1_ w2_ w3_ w4_ : Value, args = #[w0_, w1_, w2_, w3_, w4_] := by
    have hs : args.size = 5 := by simpa [Cond.value, given_1] using k45
    obtain ⟨L⟩ := args
    match L, hs with
    | [w0_, w1_, w2_, w3_, w4_], _ => exact ⟨w0_, w1_, w2_, w3_, w4_, rfl⟩
  have hw := fun d (hd : d ∈ tables_1) => atoms_spec (ws := Jvm.Cond.code x code maxLocals ret :: tables_1) hat d (List.mem_cons_of_mem _ hd)
  have hfit : Fit s := fun {y c} hc i hi => by
    obtain ⟨ha, rfl⟩ := Array.getElem?_eq_some_iff.mp hc
    have q := List.all_eq_true.mp ((Array.all_eq_true_iff_forall_mem.mp hF) _ (Array.getElem_mem ha)) i (List.mem_range.mpr hi)
    simpa [Array.getElem?_eq_getElem hi] using q
  obtain ⟨i0, ei0⟩ := isL_v k46
  obtain rfl : w0_ = (.long i0) := Option.some.inj ei0
  obtain ⟨i1, ei1⟩ := isL_v k47
  obtain rfl : w1_ = (.long i1) := Option.some.inj ei1
  obtain ⟨i2, ei2⟩ := isL_v k48
  obtain rfl : w2_ = (.long i2) := Option.some.inj ei2
  obtain ⟨i3, ei3⟩ := isL_v k49
  obtain rfl : w3_ = (.long i3) := Option.some.inj ei3
  obtain ⟨i4, ei4⟩ := is_v k49'
  obtain rfl : w4_ = (.int i4) := Option.some.inj ei4
  obtain ⟨n, o, h1, h2, h3, _, L, rfl, ⟨rfl, N⟩, hq⟩ := own_rm0 l s _ hw tables_1 i0 i1 i2 i3 i4  s.heap s.heap.size (Nat.le_refl _)  p e ha hc hk s m _ below hf ((Spec.applies_iff_loose hf).mp happ).1 ⟨rfl, State.Warmed39.refl s, rfl⟩ trivial
  exact ⟨n, _, h1, h2, h3, hpost _ _ _ _ _ _ ⟨Cond.after_iff.mpr rfl, Cond.after_iff.mpr (eq_i res_at (Term.int_eval (1)) rfl), trivial⟩ ⟨hq.1, hq.2.1, (hq.2.2.sift fun y hy => Or.inr (N y hy)).mono (by decide) (by decide)⟩⟩
theorem main_1_1 : Claimed_1_1 := comes_1 fun _ _ _ _ _ _ h hF => ⟨h.1, hF⟩
theorem main_1_2 : Claimed_1_2 := comes_1 fun _ _ _ _ _ _ h hF => ⟨h.2.1, hF⟩
end Jvm.Pilot.@@N@@
namespace Jvm.Pilot.@@N@@
open Jvm Jvm.ClassFile Sem Op Lib Jvm.Free Jvm.Stand Jvm.Pilot.@@N@@.Jvm.D
/-! MADE BY PROGRAM (witnessworld.py) out of the Statement's table words and the real class files: 11 classes; the members and pool entries that the words name. The judged class is class 1, her method 3. -/
namespace start1
open Jvm.ClassFile
def u (s : String) : CpInfo := .utf8 (stringToUtf16 s)
/-- a pool by its gaps: so many unusable entries, then the entry; so many at the end -/
def gap : Nat → List CpInfo → List CpInfo
  | 0, r => r
  | n + 1, r => .unusable :: gap n r
def poolList (es : List (Nat × CpInfo)) (last : Nat) : List CpInfo := es.foldr (fun e r => gap e.1 (e.2 :: r)) (gap last [])
def pool (es : List (Nat × CpInfo)) (last : Nat) : Array CpInfo := ⟨poolList es last⟩
def fileOf (pool : Array CpInfo) (this : Nat) (attrs : Array Attribute := #[]) (ms : Array MethodInfo := #[]) (fl : Nat := 33) (sup : Nat := 0) (ifs : Array Nat := #[]) (fds : Array FieldInfo := #[]) : ClassFile where
  minorVersion := 0
  majorVersion := 65
  constantPool := pool
  accessFlags := fl
  thisClass := this
  superClass := sup
  interfaces := ifs
  fields := fds
  methods := ms
  attributes := attrs
def plain (name : String) (sup : Option ClassId) : Class where
  name := name
  kind := .ordinary
  loader := none
  accessFlags := 33
  super := sup
  interfaces := #[]
  cf := none
  fields := #[]
  methods := #[]
  instanceTypes := #[]
  staticTypes := #[]
  resolved := #[]
  callSites := []
  init := .initialized
  statics := none
  mirror := none

def pool0 : Array CpInfo := pool [(5, u "<init>"), (0, u "()V"), (1, .class_ 10), (1, u "java/lang/Object")] 113

def k0c0 : Code := { maxStack := 0, maxLocals := 1, code := object_method_1_code, exceptionTable := #[], attributes := #[] }
def k0m0 : Method := { name := "<init>", desc := "()V", sig := { parameters := [], returnType := none }, accessFlags := 1, code := some k0c0 }
/-- java/lang/Object -/
def k0 : Class := { plain "java/lang/Object" none with
  accessFlags := 33
  interfaces := #[]
  cf := some (fileOf pool0 8 #[] #[{ accessFlags := 1, nameIndex := 5, descriptorIndex := 6, attributes := #[] }] 33 0 #[] #[])
  fields := #[]
  methods := #[k0m0]
  instanceTypes := #[]
  staticTypes := #[]
  resolved := Array.replicate 124 none
  statics := none }

def pool1 : Array CpInfo := pool [(2, .class_ 4), (1, u "java/lang/Object"), (0, u "<init>"), (0, u "()V"), (2, .long 9223372036854775807), (1, .long 3), (1, .long 2), (1, .methodref 16 17), (0, .class_ 18), (0, .nameAndType 19 20), (0, u "java/lang/Math"), (0, u "max"), (0, u "(JJ)J"), (0, .class_ 22), (0, u "com/example/slotwise/slotwise/search/Budget"), (0, .methodref 21 24), (0, .nameAndType 5 25), (0, u "(JJZ)V"), (0, .methodref 27 28), (0, .class_ 29), (0, .nameAndType 30 31), (0, u "com/example/slotwise/slotwise/search/BudgetUsedPinLaw"), (0, u "near"), (0, u "(JJJZ)J"), (0, .methodref 21 33), (0, .nameAndType 34 35), (0, u "used"), (0, u "(JJ)D"), (0, .long 9007199254740992), (1, .methodref 27 39), (0, .nameAndType 40 41), (0, u "maxD"), (0, u "(DD)D"), (0, .double 4602678819172646912), (4, u "law"), (0, u "(JJJJI)Z")] 2

def k1m0 : Method := { name := "<init>", desc := "()V", sig := { parameters := [], returnType := none }, accessFlags := 1, code := none }
def k1c1 : Code := { maxStack := 4, maxLocals := 4, code := method_2_code, exceptionTable := #[], attributes := #[] }
def k1m1 : Method := { name := "maxD", desc := "(DD)D", sig := { parameters := [.double, .double], returnType := some .double }, accessFlags := 10, code := some k1c1 }
def k1c2 : Code := { maxStack := 4, maxLocals := 13, code := method_3_code, exceptionTable := #[], attributes := #[] }
def k1m2 : Method := { name := "near", desc := "(JJJZ)J", sig := { parameters := [.long, .long, .long, .boolean], returnType := some .long }, accessFlags := 10, code := some k1c2 }
def k1c3 : Code := { maxStack := 8, maxLocals := 41, code := code, exceptionTable := #[], attributes := #[] }
def k1m3 : Method := { name := "law", desc := "(JJJJI)Z", sig := { parameters := [.long, .long, .long, .long, .int], returnType := some .boolean }, accessFlags := 9, code := some k1c3 }
/-- com/example/slotwise/slotwise/search/BudgetUsedPinLaw -/
def k1 : Class := { plain "com/example/slotwise/slotwise/search/BudgetUsedPinLaw" (some 0) with
  accessFlags := 49
  interfaces := #[]
  cf := some (fileOf pool1 27 #[] #[{ accessFlags := 1, nameIndex := 5, descriptorIndex := 6, attributes := #[] }, { accessFlags := 10, nameIndex := 40, descriptorIndex := 41, attributes := #[] }, { accessFlags := 10, nameIndex := 30, descriptorIndex := 31, attributes := #[] }, { accessFlags := 9, nameIndex := 47, descriptorIndex := 48, attributes := #[] }] 49 2 #[] #[])
  fields := #[]
  methods := #[k1m0, k1m1, k1m2, k1m3]
  instanceTypes := #[]
  staticTypes := #[]
  resolved := Array.replicate 51 none
  statics := none }

def pool2 : Array CpInfo := pool [(1, .class_ 2), (0, u "java/lang/Math"), (1, .class_ 6), (1, u "java/lang/Object"), (0, u "<init>"), (0, u "()V"), (43, u "(DD)D"), (45, .class_ 100), (1, u "java/lang/Math$RandomNumberGeneratorHolder"), (20, u "(JJ)J"), (50, u "negativeZeroFloatBits"), (0, u "J"), (2, u "negativeZeroDoubleBits"), (21, u "max"), (2, u "min"), (43, u "$assertionsDisabled"), (0, u "Z"), (91, u "twoToTheDoubleScaleDown"), (0, u "D"), (4, u "twoToTheDoubleScaleUp"), (9, u "E"), (3, u "PI"), (2, u "TAU"), (2, u "DEGREES_TO_RADIANS"), (0, u "RADIANS_TO_DEGREES")] 94

def k2m0 : Method := { name := "<init>", desc := "()V", sig := { parameters := [], returnType := none }, accessFlags := 2, code := none }
def k2c1 : Code := { maxStack := 4, maxLocals := 4, code := jdk_29_method_66_code, exceptionTable := #[], attributes := #[] }
def k2m1 : Method := { name := "max", desc := "(JJ)J", sig := { parameters := [.long, .long], returnType := some .long }, accessFlags := 9, code := some k2c1 }
def k2c2 : Code := { maxStack := 4, maxLocals := 4, code := jdk_29_method_68_code, exceptionTable := #[], attributes := #[] }
def k2m2 : Method := { name := "max", desc := "(DD)D", sig := { parameters := [.double, .double], returnType := some .double }, accessFlags := 9, code := some k2c2 }
def k2c3 : Code := { maxStack := 4, maxLocals := 4, code := jdk_29_method_72_code, exceptionTable := #[], attributes := #[] }
def k2m3 : Method := { name := "min", desc := "(DD)D", sig := { parameters := [.double, .double], returnType := some .double }, accessFlags := 9, code := some k2c3 }
/-- java/lang/Math -/
def k2 : Class := { plain "java/lang/Math" (some 0) with
  accessFlags := 49
  interfaces := #[]
  cf := some (fileOf pool2 1 #[.nestMembers #[98]] #[{ accessFlags := 2, nameIndex := 7, descriptorIndex := 8, attributes := #[] }, { accessFlags := 9, nameIndex := 198, descriptorIndex := 121, attributes := #[] }, { accessFlags := 9, nameIndex := 198, descriptorIndex := 52, attributes := #[] }, { accessFlags := 9, nameIndex := 201, descriptorIndex := 52, attributes := #[] }] 49 4 #[] #[{ accessFlags := 25, nameIndex := 354, descriptorIndex := 339, attributes := #[] }, { accessFlags := 25, nameIndex := 358, descriptorIndex := 339, attributes := #[] }, { accessFlags := 25, nameIndex := 361, descriptorIndex := 339, attributes := #[] }, { accessFlags := 26, nameIndex := 364, descriptorIndex := 339, attributes := #[] }, { accessFlags := 26, nameIndex := 365, descriptorIndex := 339, attributes := #[] }, { accessFlags := 26, nameIndex := 172, descriptorIndex := 173, attributes := #[] }, { accessFlags := 26, nameIndex := 176, descriptorIndex := 173, attributes := #[] }, { accessFlags := 8, nameIndex := 344, descriptorIndex := 339, attributes := #[] }, { accessFlags := 8, nameIndex := 338, descriptorIndex := 339, attributes := #[] }, { accessFlags := 4120, nameIndex := 245, descriptorIndex := 246, attributes := #[] }])
  fields := #[{ name := "E", type := .double, accessFlags := 25, slot := 0, constantValue := 0 }, { name := "PI", type := .double, accessFlags := 25, slot := 1, constantValue := 0 }, { name := "TAU", type := .double, accessFlags := 25, slot := 2, constantValue := 0 }, { name := "DEGREES_TO_RADIANS", type := .double, accessFlags := 26, slot := 3, constantValue := 0 }, { name := "RADIANS_TO_DEGREES", type := .double, accessFlags := 26, slot := 4, constantValue := 0 }, { name := "negativeZeroFloatBits", type := .long, accessFlags := 26, slot := 5, constantValue := 0 }, { name := "negativeZeroDoubleBits", type := .long, accessFlags := 26, slot := 6, constantValue := 0 }, { name := "twoToTheDoubleScaleUp", type := .double, accessFlags := 8, slot := 7, constantValue := 0 }, { name := "twoToTheDoubleScaleDown", type := .double, accessFlags := 8, slot := 8, constantValue := 0 }, { name := "$assertionsDisabled", type := .boolean, accessFlags := 4120, slot := 9, constantValue := 0 }]
  methods := #[k2m0, k2m1, k2m2, k2m3]
  instanceTypes := #[]
  staticTypes := #[.double, .double, .double, .double, .double, .long, .long, .double, .double, .boolean]
  resolved := Array.replicate 460 none
  statics := none }

def pool3 : Array CpInfo := pool [(1, .methodref 2 3), (0, .class_ 4), (0, .nameAndType 5 6), (0, u "java/lang/Object"), (0, u "<init>"), (0, u "()V"), (0, .class_ 8), (0, u "java/lang/Record")] 13

def k3c0 : Code := { maxStack := 1, maxLocals := 1, code := jdk_30_method_1_code, exceptionTable := #[], attributes := #[] }
def k3m0 : Method := { name := "<init>", desc := "()V", sig := { parameters := [], returnType := none }, accessFlags := 4, code := some k3c0 }
/-- java/lang/Record -/
def k3 : Class := { plain "java/lang/Record" (some 0) with
  accessFlags := 1057
  interfaces := #[]
  cf := some (fileOf pool3 7 #[] #[{ accessFlags := 4, nameIndex := 5, descriptorIndex := 6, attributes := #[] }] 1057 2 #[] #[])
  fields := #[]
  methods := #[k3m0]
  instanceTypes := #[]
  staticTypes := #[]
  resolved := Array.replicate 22 none
  statics := none }

def pool4 : Array CpInfo := pool [(3, .methodref 4 5), (0, .class_ 6), (0, .nameAndType 7 8), (0, u "java/lang/Record"), (0, u "<init>"), (0, u "()V"), (9, .class_ 19), (0, u "com/example/slotwise/slotwise/search/Budget"), (0, .long 9223372036854775807), (3, .fieldref 18 25), (0, .nameAndType 26 27), (0, u "evaluations"), (0, u "J"), (0, .fieldref 18 29), (0, .nameAndType 30 27), (0, u "nanos"), (0, .fieldref 18 32), (0, .nameAndType 33 34), (0, u "stopWhenFeasible"), (0, u "Z"), (2, u "(JJZ)V"), (0, .methodref 39 40), (0, .class_ 41), (0, .nameAndType 42 43), (0, u "java/lang/Math"), (0, u "max"), (0, u "(DD)D"), (0, .methodref 39 45), (0, .nameAndType 46 43), (0, u "min"), (12, u "UNLIMITED"), (9, u "used"), (0, u "(JJ)D")] 34

def k4c0 : Code := { maxStack := 6, maxLocals := 6, code := prog_44_method_1_code, exceptionTable := #[], attributes := #[] }
def k4m0 : Method := { name := "<init>", desc := "(JJZ)V", sig := { parameters := [.long, .long, .boolean], returnType := none }, accessFlags := 1, code := some k4c0 }
def k4c1 : Code := { maxStack := 6, maxLocals := 9, code := prog_44_method_4_code, exceptionTable := #[], attributes := #[] }
def k4m1 : Method := { name := "used", desc := "(JJ)D", sig := { parameters := [.long, .long], returnType := some .double }, accessFlags := 0, code := some k4c1 }
/-- com/example/slotwise/slotwise/search/Budget -/
def k4 : Class := { plain "com/example/slotwise/slotwise/search/Budget" (some 3) with
  accessFlags := 49
  interfaces := #[]
  cf := some (fileOf pool4 18 #[] #[{ accessFlags := 1, nameIndex := 7, descriptorIndex := 37, attributes := #[] }, { accessFlags := 0, nameIndex := 69, descriptorIndex := 70, attributes := #[] }] 49 4 #[] #[{ accessFlags := 18, nameIndex := 26, descriptorIndex := 27, attributes := #[] }, { accessFlags := 18, nameIndex := 30, descriptorIndex := 27, attributes := #[] }, { accessFlags := 18, nameIndex := 33, descriptorIndex := 34, attributes := #[] }, { accessFlags := 25, nameIndex := 59, descriptorIndex := 27, attributes := #[] }])
  fields := #[{ name := "evaluations", type := .long, accessFlags := 18, slot := 0, constantValue := 0 }, { name := "nanos", type := .long, accessFlags := 18, slot := 1, constantValue := 0 }, { name := "stopWhenFeasible", type := .boolean, accessFlags := 18, slot := 2, constantValue := 0 }, { name := "UNLIMITED", type := .long, accessFlags := 25, slot := 0, constantValue := 0 }]
  methods := #[k4m0, k4m1]
  instanceTypes := #[.long, .long, .boolean]
  staticTypes := #[.long]
  resolved := Array.replicate 105 none
  statics := none }

def pool5 : Array CpInfo := pool [(1, u "java/lang/Cloneable"), (0, .class_ 1), (0, u "java/lang/Object"), (0, .class_ 3)] 3

/-- java/lang/Cloneable -/
def k5 : Class := { plain "java/lang/Cloneable" (some 0) with
  accessFlags := 1537
  interfaces := #[]
  cf := some (fileOf pool5 2 #[] #[] 1537 4 #[] #[])
  fields := #[]
  methods := #[]
  instanceTypes := #[]
  staticTypes := #[]
  resolved := Array.replicate 8 none
  statics := none }

def pool6 : Array CpInfo := pool [(1, u "java/io/Serializable"), (0, .class_ 1), (0, u "java/lang/Object"), (0, .class_ 3)] 3

/-- java/io/Serializable -/
def k6 : Class := { plain "java/io/Serializable" (some 0) with
  accessFlags := 1537
  interfaces := #[]
  cf := some (fileOf pool6 2 #[] #[] 1537 4 #[] #[])
  fields := #[]
  methods := #[]
  instanceTypes := #[]
  staticTypes := #[]
  resolved := Array.replicate 8 none
  statics := none }

/-- the primitive byte -/
def k7 : Class := { plain "byte" none with kind := .primitive 'B', accessFlags := 0x411 }
/-- [B -/
def k8 : Class := { plain "[B" (some 0) with kind := .array 7 .byte, interfaces := #[5, 6], accessFlags := 1041 }

/-- the primitive int -/
def k9 : Class := { plain "int" none with kind := .primitive 'I', accessFlags := 0x411 }
/-- [I -/
def k10 : Class := { plain "[I" (some 0) with kind := .array 9 .int, interfaces := #[5, 6], accessFlags := 1041 }

def heap : Heap := #[]
def classes : Array Class := #[k0, k1, k2, k3, k4, k5, k6, k7, k8, k9, k10]
def interned : List (Array UInt16 × Addr) := []
def slotsUsed : Nat := 0
def theMethod : MethodId := ⟨1, 3⟩
def args0 : Array Value := #[.long 5, .long 7, .long 3, .long 2, .int 1]
def aboutOver (below : List Frame) : State where
  vm := { classes := classes, interned := interned.toArray }
  heap := heap
  slotsUsed := slotsUsed
  threads := #[{ frames := .invoking theMethod args0 :: below }]
def below0 : List Frame := [.native { method := ⟨0, 0⟩, args := #[] }]
def about1 : State := aboutOver below0
def p0 : Program := .bare "" "" ""
def e0 : Env := launch0.env 0 0 0
theorem w_frames : about1.frames = Frame.invoking theMethod args0 :: below0 := rfl
set_option maxRecDepth 65536 in
theorem w_args : argsFit about1.vm theMethod args0 = true := by decide +kernel
set_option maxRecDepth 65536 in
theorem w_heap : heapFits about1 = true := by decide +kernel
set_option maxRecDepth 65536 in
theorem w_runnable : about1.curStatus? = some .runnable := by decide +kernel
set_option maxRecDepth 65536 in
theorem w_alone : about1.alone = true := by decide +kernel
set_option maxRecDepth 65536 in
theorem w_named : about1.methodNamed? x = some theMethod := by decide +kernel
set_option maxRecDepth 65536 in
theorem w_hears : about1.hears theMethod below0 = true := by decide +kernel
set_option maxRecDepth 65536 in
theorem w_ripe : about1.ripe theMethod args0 below0 = true := by decide +kernel
theorem w_running : about1.status = .running := rfl
set_option maxRecDepth 65536 in
theorem w_room : about1.hasRoom e0.platform room_1 = true :=
  launch0.hasRoom_least _ room_1 (by decide +kernel) (by decide +kernel) (by decide +kernel) (by decide +kernel) (by decide +kernel) (by decide +kernel)
theorem allAtoms_all (ts : List Jvm.Cond) (a : Array Jvm.Value) (st : Jvm.State) : (allAtoms ts).before a st = ts.all (fun c => c.before a st) := by
  induction ts with
  | nil => rfl
  | cons c t ih =>
    show (Jvm.Cond.and c (allAtoms t)).before a st = _
    rw [Jvm.Cond.before_and, ih, List.all_cons]
def words1 : List Jvm.Cond := Jvm.Cond.code x code maxLocals ret :: tables_1
/-- a 'code' word, met by the world's own term for the bytes: nothing is compared byte by byte -/
theorem code_word {y : MethodName} {bytes : ByteArray} {mx : Nat} {rt : Option FieldType} {a : Array Value} {s : State} {m : MethodId} {meth : Method} {c : Code} (h1 : s.methodNamed? y = some m) (h2 : s.vm.method? m = some meth) (h3 : meth.code = some c) (h4 : c.code = bytes)
    (h5 : (c.maxLocals == mx && c.exceptionTable.isEmpty && decide (c.maxStack ≤ mostOperands) && decide (meth.sig.returnType = rt) && !meth.locks && decide (parseMethodDescriptor y.desc = some meth.sig)) = true) : (Jvm.Cond.code y bytes mx rt).before a s = true := by
  simp only [Bool.and_eq_true, beq_iff_eq, Bool.not_eq_true', decide_eq_true_eq] at h5
  obtain ⟨⟨⟨⟨⟨g1, g2⟩, g3⟩, g4⟩, g5⟩, g6⟩ := h5
  simp [Cond.before, Cond.holds, Cond.value, h1, h2, h3, h4, g1, g2, g3, g4, g5, g6]
def isCode : Jvm.Cond → Bool
  | .code _ _ _ _ => true
  | _ => false
theorem all_split {L : List Jvm.Cond} {P : Jvm.Cond → Bool} (h1 : L.all (fun c => isCode c || P c) = true) (h2 : ∀ c ∈ L.filter isCode, P c = true) : L.all P = true := by
  refine List.all_eq_true.mpr fun c hc => ?_
  have h := List.all_eq_true.mp h1 c hc
  rcases Bool.eq_false_or_eq_true (isCode c) with hi | hi
  · exact h2 c (List.mem_filter.mpr ⟨hc, hi⟩)
  · simpa [hi] using h
set_option maxRecDepth 65536 in
theorem w_c0 : (Jvm.Cond.code x code maxLocals ret).before args0 about1 = true := code_word (m := ⟨1, 3⟩) (meth := k1m3) (c := k1c3) (by decide +kernel) rfl rfl rfl (by decide +kernel)
set_option maxRecDepth 65536 in
theorem w_c1 : (Jvm.Cond.code ({ cls := "java/lang/Math", name := "max", desc := "(JJ)J" } : Jvm.MethodName) jdk_29_method_66_code (4 : Nat) (Option.some Jvm.ClassFile.FieldType.long)).before args0 about1 = true := code_word (m := ⟨2, 1⟩) (meth := k2m1) (c := k2c1) (by decide +kernel) rfl rfl rfl (by decide +kernel)
set_option maxRecDepth 65536 in
theorem w_c2 : (Jvm.Cond.code ({ cls := "com/example/slotwise/slotwise/search/Budget", name := "<init>", desc := "(JJZ)V" } : Jvm.MethodName) prog_44_method_1_code (6 : Nat) (Option.none : Option Jvm.ClassFile.FieldType)).before args0 about1 = true := code_word (m := ⟨4, 0⟩) (meth := k4m0) (c := k4c0) (by decide +kernel) rfl rfl rfl (by decide +kernel)
set_option maxRecDepth 65536 in
theorem w_c3 : (Jvm.Cond.code ({ cls := "java/lang/Record", name := "<init>", desc := "()V" } : Jvm.MethodName) jdk_30_method_1_code (1 : Nat) (Option.none : Option Jvm.ClassFile.FieldType)).before args0 about1 = true := code_word (m := ⟨3, 0⟩) (meth := k3m0) (c := k3c0) (by decide +kernel) rfl rfl rfl (by decide +kernel)
set_option maxRecDepth 65536 in
theorem w_c4 : (Jvm.Cond.code ({ cls := "java/lang/Object", name := "<init>", desc := "()V" } : Jvm.MethodName) object_method_1_code (1 : Nat) (Option.none : Option Jvm.ClassFile.FieldType)).before args0 about1 = true := code_word (m := ⟨0, 0⟩) (meth := k0m0) (c := k0c0) (by decide +kernel) rfl rfl rfl (by decide +kernel)
set_option maxRecDepth 65536 in
theorem w_c5 : (Jvm.Cond.code ({ cls := "com/example/slotwise/slotwise/search/BudgetUsedPinLaw", name := "near", desc := "(JJJZ)J" } : Jvm.MethodName) method_3_code (13 : Nat) (Option.some Jvm.ClassFile.FieldType.long)).before args0 about1 = true := code_word (m := ⟨1, 2⟩) (meth := k1m2) (c := k1c2) (by decide +kernel) rfl rfl rfl (by decide +kernel)
set_option maxRecDepth 65536 in
theorem w_c6 : (Jvm.Cond.code ({ cls := "com/example/slotwise/slotwise/search/Budget", name := "used", desc := "(JJ)D" } : Jvm.MethodName) prog_44_method_4_code (9 : Nat) (Option.some Jvm.ClassFile.FieldType.double)).before args0 about1 = true := code_word (m := ⟨4, 1⟩) (meth := k4m1) (c := k4c1) (by decide +kernel) rfl rfl rfl (by decide +kernel)
set_option maxRecDepth 65536 in
theorem w_c7 : (Jvm.Cond.code ({ cls := "java/lang/Math", name := "max", desc := "(DD)D" } : Jvm.MethodName) jdk_29_method_68_code (4 : Nat) (Option.some Jvm.ClassFile.FieldType.double)).before args0 about1 = true := code_word (m := ⟨2, 2⟩) (meth := k2m2) (c := k2c2) (by decide +kernel) rfl rfl rfl (by decide +kernel)
set_option maxRecDepth 65536 in
theorem w_c8 : (Jvm.Cond.code ({ cls := "java/lang/Math", name := "min", desc := "(DD)D" } : Jvm.MethodName) jdk_29_method_72_code (4 : Nat) (Option.some Jvm.ClassFile.FieldType.double)).before args0 about1 = true := code_word (m := ⟨2, 3⟩) (meth := k2m3) (c := k2c3) (by decide +kernel) rfl rfl rfl (by decide +kernel)
set_option maxRecDepth 65536 in
theorem w_c9 : (Jvm.Cond.code ({ cls := "com/example/slotwise/slotwise/search/BudgetUsedPinLaw", name := "maxD", desc := "(DD)D" } : Jvm.MethodName) method_2_code (4 : Nat) (Option.some Jvm.ClassFile.FieldType.double)).before args0 about1 = true := code_word (m := ⟨1, 1⟩) (meth := k1m1) (c := k1c1) (by decide +kernel) rfl rfl rfl (by decide +kernel)
def codes1 : List Jvm.Cond := [Jvm.Cond.code x code maxLocals ret, Jvm.Cond.code ({ cls := "java/lang/Math", name := "max", desc := "(JJ)J" } : Jvm.MethodName) jdk_29_method_66_code (4 : Nat) (Option.some Jvm.ClassFile.FieldType.long), Jvm.Cond.code ({ cls := "com/example/slotwise/slotwise/search/Budget", name := "<init>", desc := "(JJZ)V" } : Jvm.MethodName) prog_44_method_1_code (6 : Nat) (Option.none : Option Jvm.ClassFile.FieldType), Jvm.Cond.code ({ cls := "java/lang/Record", name := "<init>", desc := "()V" } : Jvm.MethodName) jdk_30_method_1_code (1 : Nat) (Option.none : Option Jvm.ClassFile.FieldType), Jvm.Cond.code ({ cls := "java/lang/Object", name := "<init>", desc := "()V" } : Jvm.MethodName) object_method_1_code (1 : Nat) (Option.none : Option Jvm.ClassFile.FieldType), Jvm.Cond.code ({ cls := "com/example/slotwise/slotwise/search/BudgetUsedPinLaw", name := "near", desc := "(JJJZ)J" } : Jvm.MethodName) method_3_code (13 : Nat) (Option.some Jvm.ClassFile.FieldType.long), Jvm.Cond.code ({ cls := "com/example/slotwise/slotwise/search/Budget", name := "used", desc := "(JJ)D" } : Jvm.MethodName) prog_44_method_4_code (9 : Nat) (Option.some Jvm.ClassFile.FieldType.double), Jvm.Cond.code ({ cls := "java/lang/Math", name := "max", desc := "(DD)D" } : Jvm.MethodName) jdk_29_method_68_code (4 : Nat) (Option.some Jvm.ClassFile.FieldType.double), Jvm.Cond.code ({ cls := "java/lang/Math", name := "min", desc := "(DD)D" } : Jvm.MethodName) jdk_29_method_72_code (4 : Nat) (Option.some Jvm.ClassFile.FieldType.double), Jvm.Cond.code ({ cls := "com/example/slotwise/slotwise/search/BudgetUsedPinLaw", name := "maxD", desc := "(DD)D" } : Jvm.MethodName) method_2_code (4 : Nat) (Option.some Jvm.ClassFile.FieldType.double)]
set_option maxRecDepth 65536 in
theorem codes_eq : words1.filter isCode = codes1 := rfl
theorem w_codes : ∀ c ∈ words1.filter isCode, c.before args0 about1 = true := by
  rw [codes_eq]
  intro c hc
  simp only [codes1, List.mem_cons, List.not_mem_nil, or_false] at hc
  rcases hc with rfl | rfl | rfl | rfl | rfl | rfl | rfl | rfl | rfl | rfl
  · exact w_c0
  · exact w_c1
  · exact w_c2
  · exact w_c3
  · exact w_c4
  · exact w_c5
  · exact w_c6
  · exact w_c7
  · exact w_c8
  · exact w_c9
set_option maxRecDepth 65536 in
theorem w_t1 : (words1.take 24).all (fun c => isCode c || c.before args0 about1) = true := by decide +kernel
set_option maxRecDepth 65536 in
theorem w_t2 : ((words1.drop 24).take 24).all (fun c => isCode c || c.before args0 about1) = true := by decide +kernel
set_option maxRecDepth 65536 in
theorem w_t3 : ((words1.drop 24).drop 24).all (fun c => isCode c || c.before args0 about1) = true := by decide +kernel
theorem w_tables : (allAtoms (Jvm.Cond.code x code maxLocals ret :: tables_1)).before args0 about1 = true := by
  rw [allAtoms_all]
  show words1.all (fun c => c.before args0 about1) = true
  refine all_split ?_ w_codes
  rw [← List.take_append_drop 24 words1, List.all_append, w_t1, ← List.take_append_drop 24 (words1.drop 24), List.all_append, w_t2, w_t3]
  rfl
set_option maxRecDepth 65536 in
theorem w_case : (Jvm.Cond.and given_1 narrow_1).before args0 about1 = true := by decide +kernel
theorem w_applies : (headSpec (Jvm.Cond.code x code maxLocals ret :: tables_1) room_1).applies x e0.platform about1 = true :=
  (Spec.applies_iff w_frames).mpr ⟨w_running, w_runnable, w_alone, w_named, w_hears, w_ripe, w_room, w_tables⟩
theorem atStart : AtStart classFile x code maxLocals ret World_1 tables_1 room_1 Calls_1 rest_1 Pre_1 launch0 p0 e0 about1 theMethod args0 below0 :=
  ⟨lists_1, trivial, launch0.admits_env _ _ _, launch0.least_env, fairChoices_fair.cas, fairChoices_fair.clock, w_frames, w_args, w_heap, w_applies, trivial, trivial, w_case⟩
end start1
theorem witness_1 : WitnessClaimed_1 := ⟨start1.p0, start1.e0, start1.about1, start1.theMethod, start1.args0, start1.below0, start1.atStart⟩
end Jvm.Pilot.@@N@@
