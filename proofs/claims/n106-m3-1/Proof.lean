import JvmDerived
import JvmDerived.Pilot.@@N@@Statement
import JvmDerived.Pilot.@@N@@Code
set_option linter.unusedVariables false
set_option linter.unusedSimpArgs false
@@BLOCK:NumsL.lean.txt@@
namespace Jvm.Pilot.@@N@@
open Jvm Jvm.ClassFile Sem Op Lib Jvm.Free Jvm.Stand Jvm.LawKit Jvm.RoadKit Bundle Jvm.Pilot.@@N@@.Jvm.D
section Own
variable {p : Program} {l : Launch} {e : Env} {R : Room} {s : State} {m : MethodId} {args : Array Value} {below : List Frame} {meth : Method} {c : Code} {T : State} {locs : List Loc} {cells slots : Nat} {Z : State} {a0 : Array Value} {h : Heap}
/-- from U the run comes to the method's end, and P holds there -/
def OGo (p : Program) (e : Env) (below : List Frame) (U : State) (P : State → Outcome → Prop) : Prop :=
  ∃ t o, Steps p.tables e below U t ∧ t.status = .running ∧ Ended t below o ∧ P t o
theorem OGo.step {U U' : State} {P : State → Outcome → Prop} (k : ∀ t, Steps p.tables e below U' t → Steps p.tables e below U t) (g : OGo p e below U' P) : OGo p e below U P := by
  obtain ⟨t, o, h1, h2⟩ := g
  exact ⟨t, o, k t h1, h2⟩
def OEnd (s : State) (Q : Option Value → Heap → List Loc → Prop) (kc ks : Nat) (t : State) (o : Outcome) : Prop :=
  ∃ v L, o = .returned v ∧ Q v t.heap L ∧ FrameEnd s o t L kc ks
/-- the contract of one body, at one array of arguments and one heap -/
abbrev OMet (l : Launch) (Z : State) (y : MethodName) (bytes : ByteArray) (maxL : Nat) (ret : Option FieldType) (ws : List Jvm.Cond) (rm : Room) (as' : Array Value) (h0 : Heap) (Q : Option Value → Heap → List Loc → Prop) : Prop :=
  MetFree l y (head1 (Jvm.Cond.code y bytes maxL ret :: ws) rm) (fun a U => a = as' ∧ Z.Warmed39 U.vm ∧ U.heap = h0) (fun _ _ _ _ _ => True) (fun _ U o U' => ∃ v L, o = .returned v ∧ Q v U'.heap L ∧ FrameEnd U o U' L rm.cells rm.slots)
theorem OMet.body {y : MethodName} {bytes : ByteArray} {maxL : Nat} {ret : Option FieldType} {ws : List Jvm.Cond} {rm : Room} {as' : Array Value} {h0 : Heap} {Q : Option Value → Heap → List Loc → Prop} (hpn : plainFor y = true)
    (b : ∀ (p : Program) (e : Env) (s : State) (m : MethodId) (below : List Frame) (meth : Method) (c : Code) (s₁ : State), p.tables.exec = Jvm.exec → c.code = bytes → c.maxLocals = maxL → s.vm.findClass y.cls = some m.cls → meth.name = y.name → meth.sig.returnType = ret → meth.locks = false → Z.Warmed39 s.vm →
      Stand p l e rm s m as' below meth c s₁ [] 0 0 → s₁.heap = h0 → OGo p e below (s₁.setTop (entryFrame m as' maxL)) (OEnd s Q rm.cells rm.slots)) : OMet l Z y bytes maxL ret ws rm as' h0 Q := by
  refine MetFree.of_bodySF hpn hisR ?_
  intro p e s m args below meth c s₁ Bd hml0 hP hK
  obtain ⟨rfl, hZ, hh⟩ := hP
  exact b p e s m below meth c s₁ Bd.exec Bd.bytes hml0 (findClass_of_methodNamed Bd.named) (name_of_methodNamed Bd.named Bd.method).1 Bd.returns Bd.notSynchronized hZ (Stand.of_body Bd) (by rw [← hh, Bd.state]; rfl)
theorem own_ret (X : Stand p l e R s m args below meth c T locs cells slots) (hx : p.tables.exec = Jvm.exec) (hlk : meth.locks = false) {pc : Nat} {Ls : Array Slot} {w : Value} {t : FieldType} {i : Instr} {rest : List Value} (hret : meth.sig.returnType = some t) (hn : narrow t w = w)
    (hi : (i = .ireturn ∧ (t = .int ∨ t = .boolean ∨ t = .byte ∨ t = .char ∨ t = .short) ∧ ∃ z, w = .int z) ∨ (i = .lreturn ∧ t = .long ∧ ∃ z, w = .long z) ∨ (i = .dreturn ∧ t = .double ∧ ∃ z, w = .double z) ∨ (i = .freturn ∧ t = .float ∧ ∃ z, w = .float z) ∨ (i = .areturn ∧ t.isReference = true ∧ w.isRef = true))
    (hd : decode c.code pc = .ok (i, 1)) {Q : Option Value → Heap → List Loc → Prop} {kc ks : Nat} (hQ : Q (some w) T.heap locs) (h1 : cells ≤ kc) (h2 : slots ≤ ks) : OGo p e below (T.setTop (mkF m pc Ls (w :: rest))) (OEnd s Q kc ks) := by
  obtain ⟨fs, hr, hrun, hended, hW, hsame⟩ := X.leave (v := some w) (fun h => by rw [hret] at h; cases h) hlk
  exact ⟨_, _, retOut X hx hret hn hi hd hr, hrun, hended, _, _, rfl, hQ, ⟨_, rfl⟩, hW, hsame.mono h1 h2⟩
theorem own_retN (X : Stand p l e R s m args below meth c T locs cells slots) (hx : p.tables.exec = Jvm.exec) (hlk : meth.locks = false) {pc : Nat} {Ls : Array Slot} {z : Int32} {t : FieldType} {rest : List Value} (hret : meth.sig.returnType = some t) (ht : t = .boolean ∨ t = .byte ∨ t = .char ∨ t = .short)
    (hd : decode c.code pc = .ok (.ireturn, 1)) {Q : Option Value → Heap → List Loc → Prop} {kc ks : Nat} (hQ : Q (some (.int (nar t z))) T.heap locs) (h1 : cells ≤ kc) (h2 : slots ≤ ks) : OGo p e below (T.setTop (mkF m pc Ls (.int z :: rest))) (OEnd s Q kc ks) := by
  obtain ⟨fs, hr, hrun, hended, hW, hsame⟩ := X.leave (v := some (.int (nar t z))) (fun h => by rw [hret] at h; cases h) hlk
  exact ⟨_, _, retN X hx hret ht hd hr, hrun, hended, _, _, rfl, hQ, ⟨_, rfl⟩, hW, hsame.mono h1 h2⟩
theorem own_ret0 (X : Stand p l e R s m args below meth c T locs cells slots) (hx : p.tables.exec = Jvm.exec) (hlk : meth.locks = false) {pc : Nat} {Ls : Array Slot} (hret : meth.sig.returnType = none)
    (hd : decode c.code pc = .ok (.return_, 1)) {Q : Option Value → Heap → List Loc → Prop} {kc ks : Nat} (hQ : Q none T.heap locs) (h1 : cells ≤ kc) (h2 : slots ≤ ks) : OGo p e below (T.setTop (mkF m pc Ls [])) (OEnd s Q kc ks) := by
  obtain ⟨fs, hr, hrun, hended, hW, hsame⟩ := X.leave (v := none) (fun _ => rfl) hlk
  exact ⟨_, _, X.returnOut hx hret hd hr, hrun, hended, _, _, rfl, hQ, ⟨_, rfl⟩, hW, hsame.mono h1 h2⟩
/-- who pays a call: at these arguments and this heap -/
abbrev OBack (l : Launch) (R : Room) (p : Program) (e : Env) (below : List Frame) (s : State) (args : Array Value) (y : MethodName) (len W : Nat) (as' : Array Value) (h : Heap) (kc ks : Nat) (Q : Option Value → Heap → List Loc → Prop) : Prop :=
  Back l R p e below s args y len W (fun P a => a = as' ∧ P.U.heap = h ∧ P.cells + kc ≤ R.cells ∧ P.slots + ks ≤ R.slots) (fun P _ v B => ∃ L, Q v B.U.heap L ∧ B.locs = P.locs ++ L ∧ B.cells = P.cells + kc ∧ B.slots = P.slots + ks)
/-- a static call by the callee's contract -/
theorem own_callSK (X : Stand p l e R s m args below meth c T locs cells slots) (hx : p.tables.exec = Jvm.exec) (hZ : Z.Warmed39 s.vm) {own : String} {index : Nat} {y : MethodName} {bytes : ByteArray} {maxL : Nat} {ret : Option FieldType}
    (hown : s.vm.findClass own = some m.cls) (w1 : (Jvm.Cond.methodLink own index y).before a0 Z = true) (w2 : (Jvm.Cond.static y).before a0 Z = true) (w3 : (Jvm.Cond.initialized y.cls).before a0 Z = true)
    (w4 : (Jvm.Cond.code y bytes maxL ret).before a0 Z = true) (hy : y.cls ≠ "java/lang/invoke/MethodHandle" ∧ y.cls ≠ "java/lang/invoke/VarHandle")
    {W : Nat} {kc ks : Nat} {argsL rest : List Value} {Q : Option Value → Heap → List Loc → Prop} (hK : OBack l R p e below s args y 3 W argsL.toArray h kc ks Q) (eT : T.heap = h)
    {pc : Nat} {Ls : Array Slot} (hsize : Ls.size = c.maxLocals) (hlen : ∀ sig, parseMethodDescriptor y.desc = some sig → argsL.length = sig.parameters.length) (hW : (rest.map fun v => v.category).sum = W)
    (hd : decode c.code pc = .ok (.invokestatic index, 3)) (hc : cells + kc ≤ R.cells) (hs : slots + ks ≤ R.slots) {P : State → Outcome → Prop}
    (k : ∀ (v : Option Value) (T' : State) (L : List Loc), Stand p l e R s m args below meth c T' (locs ++ L) (cells + kc) (slots + ks) → Q v T'.heap L → OGo p e below (T'.setTop (mkF m (pc + 3) Ls (v.toList ++ rest))) P) :
    OGo p e below (T.setTop (mkF m pc Ls (argsL.reverse ++ rest))) P := by
  obtain ⟨v, vm, ⟨T', L', k', n'⟩, -, X', ⟨L, hQ, l1, y1, z1⟩, st⟩ := Jvm.LawKit.callS X hx (y := y) hown (mvT hZ w1) (mvT hZ w2) (mvT hZ w3) (mvT hZ w4) hy hK (g := mkF m pc Ls (argsL.reverse ++ rest)) rfl hsize (argsL := argsL) (rest := rest) hlen rfl
    (by show 2 * 0 + _ ≤ _; rw [hW]; omega) hd (fun _ _ => ⟨rfl, eT, hc, hs⟩)
  dsimp only [Pt.U, Pt.locs, Pt.cells, Pt.slots] at X' l1 y1 z1 st hQ
  subst l1 y1 z1
  exact OGo.step st (k v T' L X' hQ)
theorem own_callS (X : Stand p l e R s m args below meth c T locs cells slots) (hx : p.tables.exec = Jvm.exec) (hZ : Z.Warmed39 s.vm) {own : String} {index : Nat} {y : MethodName} {bytes : ByteArray} {maxL : Nat} {ret : Option FieldType}
    (hown : s.vm.findClass own = some m.cls) (w1 : (Jvm.Cond.methodLink own index y).before a0 Z = true) (w2 : (Jvm.Cond.static y).before a0 Z = true) (w3 : (Jvm.Cond.initialized y.cls).before a0 Z = true)
    (w4 : (Jvm.Cond.code y bytes maxL ret).before a0 Z = true) (hy : y.cls ≠ "java/lang/invoke/MethodHandle" ∧ y.cls ≠ "java/lang/invoke/VarHandle")
    {W : Nat} {rm : Room} {argsL rest : List Value} {Q : Option Value → Heap → List Loc → Prop} (hM : OMet l Z y bytes maxL ret [] rm argsL.toArray h Q) (eT : T.heap = h)
    {pc : Nat} {Ls : Array Slot} (hsize : Ls.size = c.maxLocals) (hlen : ∀ sig, parseMethodDescriptor y.desc = some sig → argsL.length = sig.parameters.length) (hW : (rest.map fun v => v.category).sum = W)
    (hd : decode c.code pc = .ok (.invokestatic index, 3)) (hf : rm.frames + 1 ≤ R.frames) (hl : W + (maxL + 11) + rm.locals ≤ R.locals) (hc : cells + rm.cells ≤ R.cells) (hs : slots + rm.slots ≤ R.slots) {P : State → Outcome → Prop}
    (k : ∀ (v : Option Value) (T' : State) (L : List Loc), Stand p l e R s m args below meth c T' (locs ++ L) (cells + rm.cells) (slots + rm.slots) → Q v T'.heap L → OGo p e below (T'.setTop (mkF m (pc + 3) Ls (v.toList ++ rest))) P) :
    OGo p e below (T.setTop (mkF m pc Ls (argsL.reverse ++ rest))) P := 
  own_callSK X hx hZ hown w1 w2 w3 w4 hy (backOf (W := W) hM hZ w4 w3 hf hl) eT hsize hlen hW hd hc hs k
/-- a constructor by its contract -/
theorem own_specialK (X : Stand p l e R s m args below meth c T locs cells slots) (hx : p.tables.exec = Jvm.exec) (hZ : Z.Warmed39 s.vm) {own : String} {index : Nat} {y : MethodName} {bytes : ByteArray} {maxL : Nat} (hy1 : y.name = "<init>")
    (hown : s.vm.findClass own = some m.cls) (w1 : (Jvm.Cond.methodLink own index y).before a0 Z = true) (w2 : (Jvm.Cond.instanceMethod y).before a0 Z = true)
    (w4 : (Jvm.Cond.code y bytes maxL none).before a0 Z = true) (hy : y.cls ≠ "java/lang/invoke/MethodHandle" ∧ y.cls ≠ "java/lang/invoke/VarHandle") {a : Addr}
    {W : Nat} {kc ks : Nat} {argsL rest : List Value} {Q : Option Value → Heap → List Loc → Prop} (hK : OBack l R p e below s args y 3 W (.ref a :: argsL).toArray h kc ks Q) (eT : T.heap = h)
    {pc : Nat} {Ls : Array Slot} (hsize : Ls.size = c.maxLocals) (hlen : ∀ sig, parseMethodDescriptor y.desc = some sig → argsL.length = sig.parameters.length) (hW : (rest.map fun v => v.category).sum = W)
    (hd : decode c.code pc = .ok (.invokespecial index, 3)) (hc : cells + kc ≤ R.cells) (hs : slots + ks ≤ R.slots) {P : State → Outcome → Prop}
    (k : ∀ (v : Option Value) (T' : State) (L : List Loc), Stand p l e R s m args below meth c T' (locs ++ L) (cells + kc) (slots + ks) → Q v T'.heap L → OGo p e below (T'.setTop (mkF m (pc + 3) Ls (v.toList ++ rest))) P) :
    OGo p e below (T.setTop (mkF m pc Ls (argsL.reverse ++ .ref a :: rest))) P := by
  obtain ⟨v, vm, ⟨T', L', k', n'⟩, -, X', ⟨L, hQ, l1, y1, z1⟩, st⟩ := X.specialBack hx (y := y) hy1 hown (mvT hZ w1) (mvT hZ w2) (mvT hZ w4) hy hK (g := mkF m pc Ls (argsL.reverse ++ .ref a :: rest)) rfl hsize (Steps.refl _) (a := a) (argsL := argsL) (rest := rest) hlen rfl
    (by show 2 * 0 + _ ≤ _; rw [hW]; omega) hd (fun _ _ => ⟨rfl, eT, hc, hs⟩)
  dsimp only [Pt.U, Pt.locs, Pt.cells, Pt.slots] at X' l1 y1 z1 st hQ
  subst l1 y1 z1
  exact OGo.step (fun _ kk => st.trans kk) (k v T' L X' hQ)
theorem own_special (X : Stand p l e R s m args below meth c T locs cells slots) (hx : p.tables.exec = Jvm.exec) (hZ : Z.Warmed39 s.vm) {own : String} {index : Nat} {y : MethodName} {bytes : ByteArray} {maxL : Nat} (hy1 : y.name = "<init>")
    (hown : s.vm.findClass own = some m.cls) (w1 : (Jvm.Cond.methodLink own index y).before a0 Z = true) (w2 : (Jvm.Cond.instanceMethod y).before a0 Z = true)
    (w4 : (Jvm.Cond.code y bytes maxL none).before a0 Z = true) (w3 : (Jvm.Cond.initialized y.cls).before a0 Z = true) (hy : y.cls ≠ "java/lang/invoke/MethodHandle" ∧ y.cls ≠ "java/lang/invoke/VarHandle") {a : Addr}
    {W : Nat} {rm : Room} {argsL rest : List Value} {Q : Option Value → Heap → List Loc → Prop} (hM : OMet l Z y bytes maxL none [] rm (.ref a :: argsL).toArray h Q) (eT : T.heap = h)
    {pc : Nat} {Ls : Array Slot} (hsize : Ls.size = c.maxLocals) (hlen : ∀ sig, parseMethodDescriptor y.desc = some sig → argsL.length = sig.parameters.length) (hW : (rest.map fun v => v.category).sum = W)
    (hd : decode c.code pc = .ok (.invokespecial index, 3)) (hf : rm.frames + 1 ≤ R.frames) (hl : W + (maxL + 11) + rm.locals ≤ R.locals) (hc : cells + rm.cells ≤ R.cells) (hs : slots + rm.slots ≤ R.slots) {P : State → Outcome → Prop}
    (k : ∀ (v : Option Value) (T' : State) (L : List Loc), Stand p l e R s m args below meth c T' (locs ++ L) (cells + rm.cells) (slots + rm.slots) → Q v T'.heap L → OGo p e below (T'.setTop (mkF m (pc + 3) Ls (v.toList ++ rest))) P) :
    OGo p e below (T.setTop (mkF m pc Ls (argsL.reverse ++ .ref a :: rest))) P := 
  own_specialK X hx hZ hy1 hown w1 w2 w4 hy (backOf (W := W) hM hZ w4 w3 hf hl) eT hsize hlen hW hd hc hs k
/-- an instance method by its contract -/
theorem own_virtualK (X : Stand p l e R s m args below meth c T locs cells slots) (hx : p.tables.exec = Jvm.exec) (hZ : Z.Warmed39 s.vm) {own C : String} {index : Nat} {y z : MethodName}
    (hown : s.vm.findClass own = some m.cls) (w1 : (Jvm.Cond.methodLink own index y).before a0 Z = true) (w2 : (Jvm.Cond.declares y).before a0 Z = true) (hnf : NotFace s y) (w5 : (Jvm.Cond.selects C y z).before a0 Z = true) (w6 : (Jvm.Cond.instanceMethod z).before a0 Z = true)
    (hy : y.cls ≠ "java/lang/invoke/MethodHandle" ∧ y.cls ≠ "java/lang/invoke/VarHandle") {b : Addr} (hb : Exa Z h b C)
    {W : Nat} {kc ks : Nat} {argsL rest : List Value} {Q : Option Value → Heap → List Loc → Prop} (hK : OBack l R p e below s args z 3 W (.ref b :: argsL).toArray h kc ks Q) (eT : T.heap = h)
    {pc : Nat} {Ls : Array Slot} (hsize : Ls.size = c.maxLocals) (hlen : ∀ sig, parseMethodDescriptor y.desc = some sig → argsL.length = sig.parameters.length) (hW : (rest.map fun v => v.category).sum = W)
    (hd : decode c.code pc = .ok (.invokevirtual index, 3)) (hc : cells + kc ≤ R.cells) (hs : slots + ks ≤ R.slots) {P : State → Outcome → Prop}
    (k : ∀ (v : Option Value) (T' : State) (L : List Loc), Stand p l e R s m args below meth c T' (locs ++ L) (cells + kc) (slots + ks) → Q v T'.heap L → OGo p e below (T'.setTop (mkF m (pc + 3) Ls (v.toList ++ rest))) P) :
    OGo p e below (T.setTop (mkF m pc Ls (argsL.reverse ++ .ref b :: rest))) P := by
  obtain ⟨cq, kq, qa, qb, qc⟩ := isOf hZ eT hb
  obtain ⟨v, vm, ⟨T', L', k', n'⟩, -, X', ⟨L, hQ, l1, y1, z1⟩, st⟩ := X.virtualBack hx (y := y) (z := z) hown (mvT hZ w1) (mvT hZ w2) hnf (mvT hZ w5) (mvT hZ w6) hy hK qa qc (g := mkF m pc Ls (argsL.reverse ++ .ref b :: rest)) rfl hsize (Steps.refl _) (argsL := argsL) (rest := rest) hlen rfl
    (by show 2 * 0 + _ ≤ _; rw [hW]; omega) hd (fun _ _ => ⟨rfl, eT, hc, hs⟩)
  dsimp only [Pt.U, Pt.locs, Pt.cells, Pt.slots] at X' l1 y1 z1 st hQ
  subst l1 y1 z1
  exact OGo.step (fun _ kk => st.trans kk) (k v T' L X' hQ)
theorem own_virtual (X : Stand p l e R s m args below meth c T locs cells slots) (hx : p.tables.exec = Jvm.exec) (hZ : Z.Warmed39 s.vm) {own C : String} {index : Nat} {y z : MethodName} {bytes : ByteArray} {maxL : Nat} {ret : Option FieldType}
    (hown : s.vm.findClass own = some m.cls) (w1 : (Jvm.Cond.methodLink own index y).before a0 Z = true) (w2 : (Jvm.Cond.declares y).before a0 Z = true) (hnf : NotFace s y) (w5 : (Jvm.Cond.selects C y z).before a0 Z = true) (w6 : (Jvm.Cond.instanceMethod z).before a0 Z = true)
    (hy : y.cls ≠ "java/lang/invoke/MethodHandle" ∧ y.cls ≠ "java/lang/invoke/VarHandle") (w4 : (Jvm.Cond.code z bytes maxL ret).before a0 Z = true) (w3 : (Jvm.Cond.initialized z.cls).before a0 Z = true) {b : Addr} (hb : Exa Z h b C)
    {W : Nat} {rm : Room} {argsL rest : List Value} {Q : Option Value → Heap → List Loc → Prop} (hM : OMet l Z z bytes maxL ret [] rm (.ref b :: argsL).toArray h Q) (eT : T.heap = h)
    {pc : Nat} {Ls : Array Slot} (hsize : Ls.size = c.maxLocals) (hlen : ∀ sig, parseMethodDescriptor y.desc = some sig → argsL.length = sig.parameters.length) (hW : (rest.map fun v => v.category).sum = W)
    (hd : decode c.code pc = .ok (.invokevirtual index, 3)) (hf : rm.frames + 1 ≤ R.frames) (hl : W + (maxL + 11) + rm.locals ≤ R.locals) (hc : cells + rm.cells ≤ R.cells) (hs : slots + rm.slots ≤ R.slots) {P : State → Outcome → Prop}
    (k : ∀ (v : Option Value) (T' : State) (L : List Loc), Stand p l e R s m args below meth c T' (locs ++ L) (cells + rm.cells) (slots + rm.slots) → Q v T'.heap L → OGo p e below (T'.setTop (mkF m (pc + 3) Ls (v.toList ++ rest))) P) :
    OGo p e below (T.setTop (mkF m pc Ls (argsL.reverse ++ .ref b :: rest))) P := 
  own_virtualK X hx hZ hown w1 w2 hnf w5 w6 hy hb (backOf (W := W) hM hZ w4 w3 hf hl) eT hsize hlen hW hd hc hs k
/-- an instance method that an ancestor declares, by its contract -/
theorem own_virtualUpK (X : Stand p l e R s m args below meth c T locs cells slots) (hx : p.tables.exec = Jvm.exec) (hZ : Z.Warmed39 s.vm) {own C owner : String} {index : Nat} {y z : MethodName}
    (hown : s.vm.findClass own = some m.cls) (w1 : (Jvm.Cond.methodLink own index y).before a0 Z = true) (w7 : (Jvm.Cond.sameMethod y.cls owner y.name y.desc).before a0 Z = true) (w2 : (Jvm.Cond.declares ⟨owner, y.name, y.desc⟩).before a0 Z = true) (w5 : (Jvm.Cond.selects C y z).before a0 Z = true) (w6 : (Jvm.Cond.instanceMethod z).before a0 Z = true)
    (hy : owner ≠ "java/lang/invoke/MethodHandle" ∧ owner ≠ "java/lang/invoke/VarHandle") {b : Addr} (hb : Exa Z h b C)
    {W : Nat} {kc ks : Nat} {argsL rest : List Value} {Q : Option Value → Heap → List Loc → Prop} (hK : OBack l R p e below s args z 3 W (.ref b :: argsL).toArray h kc ks Q) (eT : T.heap = h)
    {pc : Nat} {Ls : Array Slot} (hsize : Ls.size = c.maxLocals) (hlen : ∀ sig, parseMethodDescriptor y.desc = some sig → argsL.length = sig.parameters.length) (hW : (rest.map fun v => v.category).sum = W)
    (hd : decode c.code pc = .ok (.invokevirtual index, 3)) (hc : cells + kc ≤ R.cells) (hs : slots + ks ≤ R.slots) {P : State → Outcome → Prop}
    (k : ∀ (v : Option Value) (T' : State) (L : List Loc), Stand p l e R s m args below meth c T' (locs ++ L) (cells + kc) (slots + ks) → Q v T'.heap L → OGo p e below (T'.setTop (mkF m (pc + 3) Ls (v.toList ++ rest))) P) :
    OGo p e below (T.setTop (mkF m pc Ls (argsL.reverse ++ .ref b :: rest))) P := by
  obtain ⟨cq, kq, qa, qb, qc⟩ := isOf hZ eT hb
  obtain ⟨v, vm, ⟨T', L', k', n'⟩, -, X', ⟨L, hQ, l1, y1, z1⟩, st⟩ := X.virtualBackUp hx (x := y) (y := z) hown (mvT hZ w1) (mvT hZ w7) (mvT hZ w2) hy (mvT hZ w5) (mvT hZ w6) hK qa qc (g := mkF m pc Ls (argsL.reverse ++ .ref b :: rest)) rfl hsize (Steps.refl _) (argsL := argsL) (rest := rest) hlen rfl
    (by show 2 * 0 + _ ≤ _; rw [hW]; omega) hd (fun _ _ => ⟨rfl, eT, hc, hs⟩)
  dsimp only [Pt.U, Pt.locs, Pt.cells, Pt.slots] at X' l1 y1 z1 st hQ
  subst l1 y1 z1
  exact OGo.step (fun _ kk => st.trans kk) (k v T' L X' hQ)
theorem own_virtualUp (X : Stand p l e R s m args below meth c T locs cells slots) (hx : p.tables.exec = Jvm.exec) (hZ : Z.Warmed39 s.vm) {own C owner : String} {index : Nat} {y z : MethodName} {bytes : ByteArray} {maxL : Nat} {ret : Option FieldType}
    (hown : s.vm.findClass own = some m.cls) (w1 : (Jvm.Cond.methodLink own index y).before a0 Z = true) (w7 : (Jvm.Cond.sameMethod y.cls owner y.name y.desc).before a0 Z = true) (w2 : (Jvm.Cond.declares ⟨owner, y.name, y.desc⟩).before a0 Z = true) (w5 : (Jvm.Cond.selects C y z).before a0 Z = true) (w6 : (Jvm.Cond.instanceMethod z).before a0 Z = true)
    (hy : owner ≠ "java/lang/invoke/MethodHandle" ∧ owner ≠ "java/lang/invoke/VarHandle") (w4 : (Jvm.Cond.code z bytes maxL ret).before a0 Z = true) (w3 : (Jvm.Cond.initialized z.cls).before a0 Z = true) {b : Addr} (hb : Exa Z h b C)
    {W : Nat} {rm : Room} {argsL rest : List Value} {Q : Option Value → Heap → List Loc → Prop} (hM : OMet l Z z bytes maxL ret [] rm (.ref b :: argsL).toArray h Q) (eT : T.heap = h)
    {pc : Nat} {Ls : Array Slot} (hsize : Ls.size = c.maxLocals) (hlen : ∀ sig, parseMethodDescriptor y.desc = some sig → argsL.length = sig.parameters.length) (hW : (rest.map fun v => v.category).sum = W)
    (hd : decode c.code pc = .ok (.invokevirtual index, 3)) (hf : rm.frames + 1 ≤ R.frames) (hl : W + (maxL + 11) + rm.locals ≤ R.locals) (hc : cells + rm.cells ≤ R.cells) (hs : slots + rm.slots ≤ R.slots) {P : State → Outcome → Prop}
    (k : ∀ (v : Option Value) (T' : State) (L : List Loc), Stand p l e R s m args below meth c T' (locs ++ L) (cells + rm.cells) (slots + rm.slots) → Q v T'.heap L → OGo p e below (T'.setTop (mkF m (pc + 3) Ls (v.toList ++ rest))) P) :
    OGo p e below (T.setTop (mkF m pc Ls (argsL.reverse ++ .ref b :: rest))) P := 
  own_virtualUpK X hx hZ hown w1 w7 w2 w5 w6 hy hb (backOf (W := W) hM hZ w4 w3 hf hl) eT hsize hlen hW hd hc hs k
theorem own_cat {v : Value} (q : v.isRef = true) : v.category = 1 := by cases v <;> first | rfl | (simp [Value.isRef] at q)
theorem own_narR {v : Value} {t : FieldType} (q : v.isRef = true) (ht : t.isReference = true := by rfl) : narrow t v = v := by cases v <;> first | (simp [Value.isRef] at q; done) | (cases t <;> first | rfl | (cases ht))
theorem own_fitR {v : Value} {t : FieldType} (q : v.isRef = true) (ht : t.isReference = true := by rfl) : fits t v = true := by cases v <;> first | (simp [Value.isRef] at q; done) | (cases t <;> first | rfl | (cases ht))
theorem own_store1 {l l' : Array Slot} {i : Nat} {v : Value} {o : Slot} (hold : l[i]? = some o) (ho : o = .unset ∨ ∃ w, o = .val w ∧ w.category = 1) (hv : v.category = 1) (hl' : l.setIfInBounds i (.val v) = l' := by rfl) : storeLocals l i v = some l' := by
  rw [XS.store1 hold ho hv, hl']
end Own
theorem own_eqv {args : Array Value} {s : State} {a b : Term} {y : Value} (h : (Jvm.Cond.eq a b).value args s none s [] = some true) (hb : b.eval args s none [] s = some y) : a.eval args s none [] s = some y := by
  cases ha : a.eval args s none [] s with
  | none => simp [Cond.value, ha] at h
  | some x => cases x <;> cases y <;> simp_all [Cond.value]
theorem own_len {args : Array Value} {s : State} {t : Term} {a : Addr} {cl : Cell} {ty : FieldType} {n : Int32} (ev : t.eval args s none [] s = some (.ref a)) (A : Arr s s.heap a cl ty) (h : (Term.length t).eval args s none [] s = some (.int n)) : cl.slots.size < 2 ^ 31 ∧ cl.slots.size.toInt32 = n := by
  have ha : s.arrayAt? a = some cl := Arr.fin (State.WarmedH.refl s).alike A
  by_cases q : cl.slots.size < 2 ^ 31
  · rw [len_f ev ha q] at h
    exact ⟨q, Value.int.inj (Option.some.inj h)⟩
  · simp [Term.eval, ev, ha] at h
    omega
theorem own_elem {args : Array Value} {s : State} {t u : Term} {a : Addr} {cl : Cell} {ty : FieldType} {j : Int32} {v : Value} (ev : t.eval args s none [] s = some (.ref a)) (A : Arr s s.heap a cl ty) (h : (Term.elem t (Term.int j)).eval args s none [] s = some v) (hn : ¬ j < 0 := by decide) : cl.slots[j.toNatClampNeg]? = some v := by
  have ha : s.arrayAt? a = some cl := Arr.fin (State.WarmedH.refl s).alike A
  rw [← elem_f ev (Term.int_eval j) ha hn]; exact h
theorem own_pd0 : parseMethodDescriptor "(Lcom/example/lease/lease/model/Backoff$Kind;J)V" = some ⟨[(.object "com/example/lease/lease/model/Backoff$Kind"), .long], none⟩ := by decide +kernel
theorem own_pd1 : parseMethodDescriptor "(J)Lcom/example/lease/lease/model/Backoff;" = some ⟨[.long], some (.object "com/example/lease/lease/model/Backoff")⟩ := by decide +kernel
theorem own_pd2 : parseMethodDescriptor "()Lcom/example/lease/lease/model/Backoff$Kind;" = some ⟨[], some (.object "com/example/lease/lease/model/Backoff$Kind")⟩ := by decide +kernel
theorem own_pd3 : parseMethodDescriptor "()J" = some ⟨[], some .long⟩ := by decide +kernel
theorem own_pn0 : plainName "com/example/lease/lease/model/Backoff" = true := by first | (simp [plainName, overriddenIn]; done) | decide +kernel
theorem own_pn1 : plainName "com/example/lease/lease/model/BackoffExponentialPinLaw" = true := by first | (simp [plainName, overriddenIn]; done) | decide +kernel
theorem own_d_prog_5_method_1_code_0 : decode prog_5_method_1_code 0 = .ok (.aload_n 0, 1) := by decide +kernel
theorem own_d_prog_5_method_1_code_1 : decode prog_5_method_1_code 1 = .ok (.invokespecial 3, 3) := by decide +kernel
theorem own_d_prog_5_method_1_code_4 : decode prog_5_method_1_code 4 = .ok (.lload_n 2, 1) := by decide +kernel
theorem own_d_prog_5_method_1_code_5 : decode prog_5_method_1_code 5 = .ok (.lconst 0, 1) := by decide +kernel
theorem own_d_prog_5_method_1_code_6 : decode prog_5_method_1_code 6 = .ok (.lcmp, 1) := by decide +kernel
theorem own_d_prog_5_method_1_code_7 : decode prog_5_method_1_code 7 = .ok (.ifCond .lt 11, 3) := by decide +kernel
theorem own_d_prog_5_method_1_code_10 : decode prog_5_method_1_code 10 = .ok (.lload_n 2, 1) := by decide +kernel
theorem own_d_prog_5_method_1_code_11 : decode prog_5_method_1_code 11 = .ok (.ldc2_w 11, 3) := by decide +kernel
theorem own_d_prog_5_method_1_code_14 : decode prog_5_method_1_code 14 = .ok (.lcmp, 1) := by decide +kernel
theorem own_d_prog_5_method_1_code_15 : decode prog_5_method_1_code 15 = .ok (.ifCond .le 17, 3) := by decide +kernel
theorem own_d_prog_5_method_1_code_32 : decode prog_5_method_1_code 32 = .ok (.aload_n 0, 1) := by decide +kernel
theorem own_d_prog_5_method_1_code_33 : decode prog_5_method_1_code 33 = .ok (.aload_n 1, 1) := by decide +kernel
theorem own_d_prog_5_method_1_code_34 : decode prog_5_method_1_code 34 = .ok (.putfield 22, 3) := by decide +kernel
theorem own_d_prog_5_method_1_code_37 : decode prog_5_method_1_code 37 = .ok (.aload_n 0, 1) := by decide +kernel
theorem own_d_prog_5_method_1_code_38 : decode prog_5_method_1_code 38 = .ok (.lload_n 2, 1) := by decide +kernel
theorem own_d_prog_5_method_1_code_39 : decode prog_5_method_1_code 39 = .ok (.putfield 26, 3) := by decide +kernel
theorem own_d_prog_5_method_1_code_42 : decode prog_5_method_1_code 42 = .ok (.return_, 1) := by decide +kernel
theorem own_d_prog_5_method_3_code_0 : decode prog_5_method_3_code 0 = .ok (.new 9, 3) := by decide +kernel
theorem own_d_prog_5_method_3_code_3 : decode prog_5_method_3_code 3 = .ok (.dup, 1) := by decide +kernel
theorem own_d_prog_5_method_3_code_4 : decode prog_5_method_3_code 4 = .ok (.getstatic 38, 3) := by decide +kernel
theorem own_d_prog_5_method_3_code_7 : decode prog_5_method_3_code 7 = .ok (.lload_n 0, 1) := by decide +kernel
theorem own_d_prog_5_method_3_code_8 : decode prog_5_method_3_code 8 = .ok (.invokespecial 35, 3) := by decide +kernel
theorem own_d_prog_5_method_3_code_11 : decode prog_5_method_3_code 11 = .ok (.areturn, 1) := by decide +kernel
theorem own_d_prog_5_method_5_code_0 : decode prog_5_method_5_code 0 = .ok (.aload_n 0, 1) := by decide +kernel
theorem own_d_prog_5_method_5_code_1 : decode prog_5_method_5_code 1 = .ok (.getfield 22, 3) := by decide +kernel
theorem own_d_prog_5_method_5_code_4 : decode prog_5_method_5_code 4 = .ok (.areturn, 1) := by decide +kernel
theorem own_d_prog_5_method_6_code_0 : decode prog_5_method_6_code 0 = .ok (.aload_n 0, 1) := by decide +kernel
theorem own_d_prog_5_method_6_code_1 : decode prog_5_method_6_code 1 = .ok (.getfield 26, 3) := by decide +kernel
theorem own_d_prog_5_method_6_code_4 : decode prog_5_method_6_code 4 = .ok (.lreturn, 1) := by decide +kernel

theorem own_rng (x : Int64) : ¬ ((x &&& 9223372036854775807) - ((x &&& 9223372036854775807) / 4503599627370497) * 4503599627370497) < 0 ∧ ¬ (4503599627370496 : Int64) < ((x &&& 9223372036854775807) - ((x &&& 9223372036854775807) / 4503599627370497) * 4503599627370497) := by
  have e1 : (x &&& 9223372036854775807).toInt = x.toInt % 2 ^ 63 := Jvm.Kit.i64_mask x 9223372036854775807 (k := 63) (by decide) (by decide)
  have e2 : ((x &&& 9223372036854775807) - ((x &&& 9223372036854775807) / 4503599627370497) * 4503599627370497).toInt = (x &&& 9223372036854775807).toInt % (4503599627370497 : Int64).toInt := Jvm.Kit.i64_rem_nonneg (by omega)
  have e6 : (4503599627370497 : Int64).toInt = 4503599627370497 := by decide
  have e7 : (4503599627370496 : Int64).toInt = 4503599627370496 := by decide
  have e8 : (0 : Int64).toInt = 0 := by decide
  rw [e6] at e2
  rw [Int64.lt_iff_toInt_lt, Int64.lt_iff_toInt_lt, e7, e8]
  omega

set_option maxRecDepth 65536 in
set_option maxHeartbeats 40000000 in
theorem own_rm2 (l : Launch) (Z : State) (a0 : Array Value) (hw : ∀ d ∈ tables_1, d.before a0 Z = true) (ws : List Jvm.Cond) (a1 k1 : Addr) (q1 : Int64) (u1 u2 : Value) (h0 : Heap) (n0 : Nat) (Z0 : n0 ≤ h0.size) (E1 : Exa Z h0 a1 "com/example/lease/lease/model/Backoff") (Fk : Fld Z h0 a1 "com/example/lease/lease/model/Backoff" "kind" "Lcom/example/lease/lease/model/Backoff$Kind;" u1) (Fm : Fld Z h0 a1 "com/example/lease/lease/model/Backoff" "millis" "J" u2) (g1 : n0 ≤ a1) (hq0 : ¬ q1 < 0) (hq1 : ¬ (4503599627370496 : Int64) < q1) :
    OMet l Z (⟨"com/example/lease/lease/model/Backoff", "<init>", "(Lcom/example/lease/lease/model/Backoff$Kind;J)V"⟩ : MethodName) prog_5_method_1_code 4 none ws ({ frames := 1, cells := 0, slots := 0, locals := 12 } : Room) #[(.ref a1), (.ref k1), (.long q1)] h0 (fun v h L => v = none ∧ Fr n0 L ∧ Keep h0 h [a1] ∧ Exa Z h a1 "com/example/lease/lease/model/Backoff" ∧ Fld Z h a1 "com/example/lease/lease/model/Backoff" "kind" "Lcom/example/lease/lease/model/Backoff$Kind;" (.ref k1) ∧ Fld Z h a1 "com/example/lease/lease/model/Backoff" "millis" "J" (.long q1)) := by
  refine OMet.body (plainFor_of_name own_pn0) ?_
  intro p e s m below meth c s₁ hx hby hml hown hnm hret hlk hZ X0 e0
  refine OGo.step (fun _ kk => castTop (show entryFrame m #[(.ref a1), (.ref k1), (.long q1)] 4 = (mkF m 0 #[.val (.ref a1), .val (.ref k1), .val (.long q1), .second] []) from by first | (simp [entryFrame, mkF, argsToLocals, Value.category]; done) | rfl) kk) ?_
  show OGo p e below (s₁.setTop (mkF m 0 #[.val (.ref a1), .val (.ref k1), .val (.long q1), .second] [])) (OEnd s (fun v h L => v = none ∧ Fr n0 L ∧ Keep h0 h [a1] ∧ Exa Z h a1 "com/example/lease/lease/model/Backoff" ∧ Fld Z h a1 "com/example/lease/lease/model/Backoff" "kind" "Lcom/example/lease/lease/model/Backoff$Kind;" (.ref k1) ∧ Fld Z h a1 "com/example/lease/lease/model/Backoff" "millis" "J" (.long q1)) ({ frames := 1, cells := 0, slots := 0, locals := 12 } : Room).cells ({ frames := 1, cells := 0, slots := 0, locals := 12 } : Room).slots)
  have N0 := Fr.nil n0
  refine OGo.step (fun _ kk => XS.aloadN X0.here hx rfl (hb hby own_d_prog_5_method_1_code_0) rfl rfl kk) ?_
  show OGo p e below (s₁.setTop (mkF m 1 #[.val (.ref a1), .val (.ref k1), .val (.long q1), .second] [(.ref a1)])) (OEnd s (fun v h L => v = none ∧ Fr n0 L ∧ Keep h0 h [a1] ∧ Exa Z h a1 "com/example/lease/lease/model/Backoff" ∧ Fld Z h a1 "com/example/lease/lease/model/Backoff" "kind" "Lcom/example/lease/lease/model/Backoff$Kind;" (.ref k1) ∧ Fld Z h a1 "com/example/lease/lease/model/Backoff" "millis" "J" (.long q1)) ({ frames := 1, cells := 0, slots := 0, locals := 12 } : Room).cells ({ frames := 1, cells := 0, slots := 0, locals := 12 } : Room).slots)
  obtain ⟨T1, X1, e1, st1⟩ := initO X0 hx hZ hown (hw _ (List.mem_of_getElem? (i := 14) rfl)) (hw _ (List.mem_of_getElem? (i := 15) rfl)) (hw _ (List.mem_of_getElem? (i := 16) rfl)) e0 (g := (mkF m 1 #[.val (.ref a1), .val (.ref k1), .val (.long q1), .second] [(.ref a1)])) rfl (by rw [hml]; rfl) rfl (hb hby own_d_prog_5_method_1_code_1) (by decide) (W := 0) (by show 2 * 0 + _ ≤ _; exact Nat.le_of_eq rfl) (by decide)
  refine OGo.step st1 ?_
  show OGo p e below (T1.setTop (mkF m 4 #[.val (.ref a1), .val (.ref k1), .val (.long q1), .second] [])) (OEnd s (fun v h L => v = none ∧ Fr n0 L ∧ Keep h0 h [a1] ∧ Exa Z h a1 "com/example/lease/lease/model/Backoff" ∧ Fld Z h a1 "com/example/lease/lease/model/Backoff" "kind" "Lcom/example/lease/lease/model/Backoff$Kind;" (.ref k1) ∧ Fld Z h a1 "com/example/lease/lease/model/Backoff" "millis" "J" (.long q1)) ({ frames := 1, cells := 0, slots := 0, locals := 12 } : Room).cells ({ frames := 1, cells := 0, slots := 0, locals := 12 } : Room).slots)
  refine OGo.step (fun _ kk => XS.lloadN X1.here hx rfl (hb hby own_d_prog_5_method_1_code_4) rfl kk) ?_
  show OGo p e below (T1.setTop (mkF m 5 #[.val (.ref a1), .val (.ref k1), .val (.long q1), .second] [(.long q1)])) (OEnd s (fun v h L => v = none ∧ Fr n0 L ∧ Keep h0 h [a1] ∧ Exa Z h a1 "com/example/lease/lease/model/Backoff" ∧ Fld Z h a1 "com/example/lease/lease/model/Backoff" "kind" "Lcom/example/lease/lease/model/Backoff$Kind;" (.ref k1) ∧ Fld Z h a1 "com/example/lease/lease/model/Backoff" "millis" "J" (.long q1)) ({ frames := 1, cells := 0, slots := 0, locals := 12 } : Room).cells ({ frames := 1, cells := 0, slots := 0, locals := 12 } : Room).slots)
  refine OGo.step (fun _ kk => XS.lconst X1.here hx rfl (hb hby own_d_prog_5_method_1_code_5) kk) ?_
  show OGo p e below (T1.setTop (mkF m 6 #[.val (.ref a1), .val (.ref k1), .val (.long q1), .second] [(.long (0 : Int64)), (.long q1)])) (OEnd s (fun v h L => v = none ∧ Fr n0 L ∧ Keep h0 h [a1] ∧ Exa Z h a1 "com/example/lease/lease/model/Backoff" ∧ Fld Z h a1 "com/example/lease/lease/model/Backoff" "kind" "Lcom/example/lease/lease/model/Backoff$Kind;" (.ref k1) ∧ Fld Z h a1 "com/example/lease/lease/model/Backoff" "millis" "J" (.long q1)) ({ frames := 1, cells := 0, slots := 0, locals := 12 } : Room).cells ({ frames := 1, cells := 0, slots := 0, locals := 12 } : Room).slots)
  refine OGo.step (fun _ kk => XS.lcmp X1.here hx rfl (hb hby own_d_prog_5_method_1_code_6) rfl kk) ?_
  show OGo p e below (T1.setTop (mkF m 7 #[.val (.ref a1), .val (.ref k1), .val (.long q1), .second] [(.int (lcmpW q1 (0 : Int64)))])) (OEnd s (fun v h L => v = none ∧ Fr n0 L ∧ Keep h0 h [a1] ∧ Exa Z h a1 "com/example/lease/lease/model/Backoff" ∧ Fld Z h a1 "com/example/lease/lease/model/Backoff" "kind" "Lcom/example/lease/lease/model/Backoff$Kind;" (.ref k1) ∧ Fld Z h a1 "com/example/lease/lease/model/Backoff" "millis" "J" (.long q1)) ({ frames := 1, cells := 0, slots := 0, locals := 12 } : Room).cells ({ frames := 1, cells := 0, slots := 0, locals := 12 } : Room).slots)
  refine OGo.step (fun _ kk => XS.ifNo X1.here hx rfl (hb hby own_d_prog_5_method_1_code_7) rfl ((if0 _ _).trans (flt (fun z => hq0 ((lw_lt _ _).mp z))).1) kk) ?_
  show OGo p e below (T1.setTop (mkF m 10 #[.val (.ref a1), .val (.ref k1), .val (.long q1), .second] [])) (OEnd s (fun v h L => v = none ∧ Fr n0 L ∧ Keep h0 h [a1] ∧ Exa Z h a1 "com/example/lease/lease/model/Backoff" ∧ Fld Z h a1 "com/example/lease/lease/model/Backoff" "kind" "Lcom/example/lease/lease/model/Backoff$Kind;" (.ref k1) ∧ Fld Z h a1 "com/example/lease/lease/model/Backoff" "millis" "J" (.long q1)) ({ frames := 1, cells := 0, slots := 0, locals := 12 } : Room).cells ({ frames := 1, cells := 0, slots := 0, locals := 12 } : Room).slots)
  refine OGo.step (fun _ kk => XS.lloadN X1.here hx rfl (hb hby own_d_prog_5_method_1_code_10) rfl kk) ?_
  show OGo p e below (T1.setTop (mkF m 11 #[.val (.ref a1), .val (.ref k1), .val (.long q1), .second] [(.long q1)])) (OEnd s (fun v h L => v = none ∧ Fr n0 L ∧ Keep h0 h [a1] ∧ Exa Z h a1 "com/example/lease/lease/model/Backoff" ∧ Fld Z h a1 "com/example/lease/lease/model/Backoff" "kind" "Lcom/example/lease/lease/model/Backoff$Kind;" (.ref k1) ∧ Fld Z h a1 "com/example/lease/lease/model/Backoff" "millis" "J" (.long q1)) ({ frames := 1, cells := 0, slots := 0, locals := 12 } : Room).cells ({ frames := 1, cells := 0, slots := 0, locals := 12 } : Room).slots)
  refine OGo.step (fun _ kk => X1.ldc2Long hx hown (mvT hZ (hw _ (List.mem_of_getElem? (i := 17) rfl))) (g := (mkF m 11 #[.val (.ref a1), .val (.ref k1), .val (.long q1), .second] [(.long q1)])) rfl (hb hby own_d_prog_5_method_1_code_11) _ kk) ?_
  show OGo p e below (T1.setTop (mkF m 14 #[.val (.ref a1), .val (.ref k1), .val (.long q1), .second] [(.long (4503599627370496 : Int64)), (.long q1)])) (OEnd s (fun v h L => v = none ∧ Fr n0 L ∧ Keep h0 h [a1] ∧ Exa Z h a1 "com/example/lease/lease/model/Backoff" ∧ Fld Z h a1 "com/example/lease/lease/model/Backoff" "kind" "Lcom/example/lease/lease/model/Backoff$Kind;" (.ref k1) ∧ Fld Z h a1 "com/example/lease/lease/model/Backoff" "millis" "J" (.long q1)) ({ frames := 1, cells := 0, slots := 0, locals := 12 } : Room).cells ({ frames := 1, cells := 0, slots := 0, locals := 12 } : Room).slots)
  refine OGo.step (fun _ kk => XS.lcmp X1.here hx rfl (hb hby own_d_prog_5_method_1_code_14) rfl kk) ?_
  show OGo p e below (T1.setTop (mkF m 15 #[.val (.ref a1), .val (.ref k1), .val (.long q1), .second] [(.int (lcmpW q1 (4503599627370496 : Int64)))])) (OEnd s (fun v h L => v = none ∧ Fr n0 L ∧ Keep h0 h [a1] ∧ Exa Z h a1 "com/example/lease/lease/model/Backoff" ∧ Fld Z h a1 "com/example/lease/lease/model/Backoff" "kind" "Lcom/example/lease/lease/model/Backoff$Kind;" (.ref k1) ∧ Fld Z h a1 "com/example/lease/lease/model/Backoff" "millis" "J" (.long q1)) ({ frames := 1, cells := 0, slots := 0, locals := 12 } : Room).cells ({ frames := 1, cells := 0, slots := 0, locals := 12 } : Room).slots)
  refine OGo.step (fun _ kk => XS.ifYes X1.here hx rfl (pc0 := 15) (pc' := 32) rfl (hb hby own_d_prog_5_method_1_code_15) rfl ((if0 _ _).trans (flt (fun z => hq1 ((lw_gt _ _).mp z))).2.2.2) (by decide) (by decide) kk) ?_
  show OGo p e below (T1.setTop (mkF m 32 #[.val (.ref a1), .val (.ref k1), .val (.long q1), .second] [])) (OEnd s (fun v h L => v = none ∧ Fr n0 L ∧ Keep h0 h [a1] ∧ Exa Z h a1 "com/example/lease/lease/model/Backoff" ∧ Fld Z h a1 "com/example/lease/lease/model/Backoff" "kind" "Lcom/example/lease/lease/model/Backoff$Kind;" (.ref k1) ∧ Fld Z h a1 "com/example/lease/lease/model/Backoff" "millis" "J" (.long q1)) ({ frames := 1, cells := 0, slots := 0, locals := 12 } : Room).cells ({ frames := 1, cells := 0, slots := 0, locals := 12 } : Room).slots)
  refine OGo.step (fun _ kk => XS.aloadN X1.here hx rfl (hb hby own_d_prog_5_method_1_code_32) rfl rfl kk) ?_
  show OGo p e below (T1.setTop (mkF m 33 #[.val (.ref a1), .val (.ref k1), .val (.long q1), .second] [(.ref a1)])) (OEnd s (fun v h L => v = none ∧ Fr n0 L ∧ Keep h0 h [a1] ∧ Exa Z h a1 "com/example/lease/lease/model/Backoff" ∧ Fld Z h a1 "com/example/lease/lease/model/Backoff" "kind" "Lcom/example/lease/lease/model/Backoff$Kind;" (.ref k1) ∧ Fld Z h a1 "com/example/lease/lease/model/Backoff" "millis" "J" (.long q1)) ({ frames := 1, cells := 0, slots := 0, locals := 12 } : Room).cells ({ frames := 1, cells := 0, slots := 0, locals := 12 } : Room).slots)
  refine OGo.step (fun _ kk => XS.aloadN X1.here hx rfl (hb hby own_d_prog_5_method_1_code_33) rfl rfl kk) ?_
  show OGo p e below (T1.setTop (mkF m 34 #[.val (.ref a1), .val (.ref k1), .val (.long q1), .second] [(.ref k1), (.ref a1)])) (OEnd s (fun v h L => v = none ∧ Fr n0 L ∧ Keep h0 h [a1] ∧ Exa Z h a1 "com/example/lease/lease/model/Backoff" ∧ Fld Z h a1 "com/example/lease/lease/model/Backoff" "kind" "Lcom/example/lease/lease/model/Backoff$Kind;" (.ref k1) ∧ Fld Z h a1 "com/example/lease/lease/model/Backoff" "millis" "J" (.long q1)) ({ frames := 1, cells := 0, slots := 0, locals := 12 } : Room).cells ({ frames := 1, cells := 0, slots := 0, locals := 12 } : Room).slots)
  obtain ⟨T2, h2, X2, e2, W2, st2⟩ := putF X1 hx hZ hown (host := "") (Or.inl (hw _ (List.mem_of_getElem? (i := 18) rfl))) Via.refl e1 Fk E1 (Or.inr ⟨(hw _ (List.mem_of_getElem? (i := 19) rfl)), rfl, hnm⟩) (hw _ (List.mem_of_getElem? (i := 7) rfl)) (ty := (.object "com/example/lease/lease/model/Backoff$Kind")) (by decide) rfl rfl (g := (mkF m 34 #[.val (.ref a1), .val (.ref k1), .val (.long q1), .second] [(.ref k1), (.ref a1)])) rfl rfl (hb hby own_d_prog_5_method_1_code_34)
  refine OGo.step st2 ?_
  show OGo p e below (T2.setTop (mkF m 37 #[.val (.ref a1), .val (.ref k1), .val (.long q1), .second] [])) (OEnd s (fun v h L => v = none ∧ Fr n0 L ∧ Keep h0 h [a1] ∧ Exa Z h a1 "com/example/lease/lease/model/Backoff" ∧ Fld Z h a1 "com/example/lease/lease/model/Backoff" "kind" "Lcom/example/lease/lease/model/Backoff$Kind;" (.ref k1) ∧ Fld Z h a1 "com/example/lease/lease/model/Backoff" "millis" "J" (.long q1)) ({ frames := 1, cells := 0, slots := 0, locals := 12 } : Room).cells ({ frames := 1, cells := 0, slots := 0, locals := 12 } : Room).slots)
  have Fk' := Fk.same W2
  have E1' := E1.wr W2
  have Fm' := Fm.other W2 (Or.inr (slot_ne (Or.inr (hw _ (List.mem_of_getElem? (i := 21) rfl))) (Or.inr (hw _ (List.mem_of_getElem? (i := 19) rfl))) (by decide) (t := .long) (t' := (.object "com/example/lease/lease/model/Backoff$Kind")) (by decide) (by decide)))
  have K1 := (Keep.refl h0 [a1]).wr W2 (Or.inl (List.mem_of_getElem? (i := 0) rfl))
  have N1 := Fr.snoc X2 N0 g1
  refine OGo.step (fun _ kk => XS.aloadN X2.here hx rfl (hb hby own_d_prog_5_method_1_code_37) rfl rfl kk) ?_
  show OGo p e below (T2.setTop (mkF m 38 #[.val (.ref a1), .val (.ref k1), .val (.long q1), .second] [(.ref a1)])) (OEnd s (fun v h L => v = none ∧ Fr n0 L ∧ Keep h0 h [a1] ∧ Exa Z h a1 "com/example/lease/lease/model/Backoff" ∧ Fld Z h a1 "com/example/lease/lease/model/Backoff" "kind" "Lcom/example/lease/lease/model/Backoff$Kind;" (.ref k1) ∧ Fld Z h a1 "com/example/lease/lease/model/Backoff" "millis" "J" (.long q1)) ({ frames := 1, cells := 0, slots := 0, locals := 12 } : Room).cells ({ frames := 1, cells := 0, slots := 0, locals := 12 } : Room).slots)
  refine OGo.step (fun _ kk => XS.lloadN X2.here hx rfl (hb hby own_d_prog_5_method_1_code_38) rfl kk) ?_
  show OGo p e below (T2.setTop (mkF m 39 #[.val (.ref a1), .val (.ref k1), .val (.long q1), .second] [(.long q1), (.ref a1)])) (OEnd s (fun v h L => v = none ∧ Fr n0 L ∧ Keep h0 h [a1] ∧ Exa Z h a1 "com/example/lease/lease/model/Backoff" ∧ Fld Z h a1 "com/example/lease/lease/model/Backoff" "kind" "Lcom/example/lease/lease/model/Backoff$Kind;" (.ref k1) ∧ Fld Z h a1 "com/example/lease/lease/model/Backoff" "millis" "J" (.long q1)) ({ frames := 1, cells := 0, slots := 0, locals := 12 } : Room).cells ({ frames := 1, cells := 0, slots := 0, locals := 12 } : Room).slots)
  obtain ⟨T3, h3, X3, e3, W3, st3⟩ := putF X2 hx hZ hown (host := "") (Or.inl (hw _ (List.mem_of_getElem? (i := 20) rfl))) Via.refl e2 Fm' E1' (Or.inr ⟨(hw _ (List.mem_of_getElem? (i := 21) rfl)), rfl, hnm⟩) (hw _ (List.mem_of_getElem? (i := 7) rfl)) (ty := .long) (by decide) rfl rfl (g := (mkF m 39 #[.val (.ref a1), .val (.ref k1), .val (.long q1), .second] [(.long q1), (.ref a1)])) rfl rfl (hb hby own_d_prog_5_method_1_code_39)
  refine OGo.step st3 ?_
  show OGo p e below (T3.setTop (mkF m 42 #[.val (.ref a1), .val (.ref k1), .val (.long q1), .second] [])) (OEnd s (fun v h L => v = none ∧ Fr n0 L ∧ Keep h0 h [a1] ∧ Exa Z h a1 "com/example/lease/lease/model/Backoff" ∧ Fld Z h a1 "com/example/lease/lease/model/Backoff" "kind" "Lcom/example/lease/lease/model/Backoff$Kind;" (.ref k1) ∧ Fld Z h a1 "com/example/lease/lease/model/Backoff" "millis" "J" (.long q1)) ({ frames := 1, cells := 0, slots := 0, locals := 12 } : Room).cells ({ frames := 1, cells := 0, slots := 0, locals := 12 } : Room).slots)
  have Fm2 := Fm'.same W3
  have Fk2 := Fk'.other W3 (Or.inr (slot_ne (Or.inr (hw _ (List.mem_of_getElem? (i := 19) rfl))) (Or.inr (hw _ (List.mem_of_getElem? (i := 21) rfl))) (by decide) (t := (.object "com/example/lease/lease/model/Backoff$Kind")) (t' := .long) (by decide) (by decide)))
  have K2 := K1.wr W3 (Or.inl (List.mem_of_getElem? (i := 0) rfl))
  have N2 := Fr.snoc X3 N1 g1
  exact own_ret0 X3 hx hlk hret (hb hby own_d_prog_5_method_1_code_42) (by rw [e3]; exact ⟨rfl, N2, K2, E1'.wr W3, Fk2, Fm2⟩) (by decide) (by decide)

set_option maxRecDepth 65536 in
set_option maxHeartbeats 40000000 in
theorem own_rm1 (l : Launch) (Z : State) (a0 : Array Value) (hw : ∀ d ∈ tables_1, d.before a0 Z = true) (ws : List Jvm.Cond) (q1 : Int64) (k1 : Addr) (h0 : Heap) (n0 : Nat) (Z0 : n0 ≤ h0.size) (SX : Sta Z Z.heap "com/example/lease/lease/model/Backoff$Kind" "EXPONENTIAL" "Lcom/example/lease/lease/model/Backoff$Kind;" (.ref k1)) (O0 : Old Z n0 h0) (hq0 : ¬ q1 < 0) (hq1 : ¬ (4503599627370496 : Int64) < q1) :
    OMet l Z (⟨"com/example/lease/lease/model/Backoff", "exponential", "(J)Lcom/example/lease/lease/model/Backoff;"⟩ : MethodName) prog_5_method_3_code 2 (some (.object "com/example/lease/lease/model/Backoff")) ws ({ frames := 2, cells := 1, slots := 2, locals := 28 } : Room) #[(.long q1)] h0 (fun v h L => ∃ b : Addr, v = some (.ref b) ∧ n0 ≤ b ∧ Fr n0 L ∧ Old Z n0 h ∧ Exa Z h b "com/example/lease/lease/model/Backoff" ∧ Fld Z h b "com/example/lease/lease/model/Backoff" "kind" "Lcom/example/lease/lease/model/Backoff$Kind;" (.ref k1) ∧ Fld Z h b "com/example/lease/lease/model/Backoff" "millis" "J" (.long q1)) := by
  refine OMet.body (plainFor_of_name own_pn0) ?_
  intro p e s m below meth c s₁ hx hby hml hown hnm hret hlk hZ X0 e0
  refine OGo.step (fun _ kk => castTop (show entryFrame m #[(.long q1)] 2 = (mkF m 0 #[.val (.long q1), .second] []) from by first | (simp [entryFrame, mkF, argsToLocals, Value.category]; done) | rfl) kk) ?_
  show OGo p e below (s₁.setTop (mkF m 0 #[.val (.long q1), .second] [])) (OEnd s (fun v h L => ∃ b : Addr, v = some (.ref b) ∧ n0 ≤ b ∧ Fr n0 L ∧ Old Z n0 h ∧ Exa Z h b "com/example/lease/lease/model/Backoff" ∧ Fld Z h b "com/example/lease/lease/model/Backoff" "kind" "Lcom/example/lease/lease/model/Backoff$Kind;" (.ref k1) ∧ Fld Z h b "com/example/lease/lease/model/Backoff" "millis" "J" (.long q1)) ({ frames := 2, cells := 1, slots := 2, locals := 28 } : Room).cells ({ frames := 2, cells := 1, slots := 2, locals := 28 } : Room).slots)
  have N0 := Fr.nil n0
  obtain ⟨T4, h4, X4, e4, E4, A4, D4, U4, st4⟩ := newO X0 hx hZ hown (hw _ (List.mem_of_getElem? (i := 6) rfl)) (hw _ (List.mem_of_getElem? (i := 7) rfl)) (hw _ (List.mem_of_getElem? (i := 4) rfl)) e0 (g := (mkF m 0 #[.val (.long q1), .second] [])) rfl (hb hby own_d_prog_5_method_3_code_0) (by decide) (by decide)
  obtain ⟨b, g4⟩ : ∃ z, z = h0.size := ⟨_, rfl⟩
  rw [← g4] at A4 D4 U4 st4
  refine OGo.step st4 ?_
  show OGo p e below (T4.setTop (mkF m 3 #[.val (.long q1), .second] [(.ref b)])) (OEnd s (fun v h L => ∃ b : Addr, v = some (.ref b) ∧ n0 ≤ b ∧ Fr n0 L ∧ Old Z n0 h ∧ Exa Z h b "com/example/lease/lease/model/Backoff" ∧ Fld Z h b "com/example/lease/lease/model/Backoff" "kind" "Lcom/example/lease/lease/model/Backoff$Kind;" (.ref k1) ∧ Fld Z h b "com/example/lease/lease/model/Backoff" "millis" "J" (.long q1)) ({ frames := 2, cells := 1, slots := 2, locals := 28 } : Room).cells ({ frames := 2, cells := 1, slots := 2, locals := 28 } : Room).slots)
  have O1 := O0.ext E4
  have gb : n0 ≤ b := Nat.le_trans Z0 (Nat.le_of_eq g4.symm)
  have Fk : Fld Z h4 b "com/example/lease/lease/model/Backoff" "kind" "Lcom/example/lease/lease/model/Backoff$Kind;" .null := D4 (Or.inr (hw _ (List.mem_of_getElem? (i := 19) rfl))) (ty := (.object "com/example/lease/lease/model/Backoff$Kind")) (by decide)
  have Fm : Fld Z h4 b "com/example/lease/lease/model/Backoff" "millis" "J" (.long (0 : Int64)) := D4 (Or.inr (hw _ (List.mem_of_getElem? (i := 21) rfl))) (ty := .long) (by decide)
  refine OGo.step (fun _ kk => XS.dup X4.here hx rfl (hb hby own_d_prog_5_method_3_code_3) rfl rfl kk) ?_
  show OGo p e below (T4.setTop (mkF m 4 #[.val (.long q1), .second] [(.ref b), (.ref b)])) (OEnd s (fun v h L => ∃ b : Addr, v = some (.ref b) ∧ n0 ≤ b ∧ Fr n0 L ∧ Old Z n0 h ∧ Exa Z h b "com/example/lease/lease/model/Backoff" ∧ Fld Z h b "com/example/lease/lease/model/Backoff" "kind" "Lcom/example/lease/lease/model/Backoff$Kind;" (.ref k1) ∧ Fld Z h b "com/example/lease/lease/model/Backoff" "millis" "J" (.long q1)) ({ frames := 2, cells := 1, slots := 2, locals := 28 } : Room).cells ({ frames := 2, cells := 1, slots := 2, locals := 28 } : Room).slots)
  obtain ⟨T5, X5, e5, st5⟩ := getS2 X4 hx hZ hown (host := "") (Or.inl (hw _ (List.mem_of_getElem? (i := 8) rfl))) Via.refl e4 (SX.ext O1.2) (g := (mkF m 4 #[.val (.long q1), .second] [(.ref b), (.ref b)])) rfl (hb hby own_d_prog_5_method_3_code_4)
  refine OGo.step st5 ?_
  show OGo p e below (T5.setTop (mkF m 7 #[.val (.long q1), .second] [(.ref k1), (.ref b), (.ref b)])) (OEnd s (fun v h L => ∃ b : Addr, v = some (.ref b) ∧ n0 ≤ b ∧ Fr n0 L ∧ Old Z n0 h ∧ Exa Z h b "com/example/lease/lease/model/Backoff" ∧ Fld Z h b "com/example/lease/lease/model/Backoff" "kind" "Lcom/example/lease/lease/model/Backoff$Kind;" (.ref k1) ∧ Fld Z h b "com/example/lease/lease/model/Backoff" "millis" "J" (.long q1)) ({ frames := 2, cells := 1, slots := 2, locals := 28 } : Room).cells ({ frames := 2, cells := 1, slots := 2, locals := 28 } : Room).slots)
  refine OGo.step (fun _ kk => XS.lloadN X5.here hx rfl (hb hby own_d_prog_5_method_3_code_7) rfl kk) ?_
  show OGo p e below (T5.setTop (mkF m 8 #[.val (.long q1), .second] [(.long q1), (.ref k1), (.ref b), (.ref b)])) (OEnd s (fun v h L => ∃ b : Addr, v = some (.ref b) ∧ n0 ≤ b ∧ Fr n0 L ∧ Old Z n0 h ∧ Exa Z h b "com/example/lease/lease/model/Backoff" ∧ Fld Z h b "com/example/lease/lease/model/Backoff" "kind" "Lcom/example/lease/lease/model/Backoff$Kind;" (.ref k1) ∧ Fld Z h b "com/example/lease/lease/model/Backoff" "millis" "J" (.long q1)) ({ frames := 2, cells := 1, slots := 2, locals := 28 } : Room).cells ({ frames := 2, cells := 1, slots := 2, locals := 28 } : Room).slots)
  refine own_special X5 hx hZ (y := (⟨"com/example/lease/lease/model/Backoff", "<init>", "(Lcom/example/lease/lease/model/Backoff$Kind;J)V"⟩ : MethodName)) rfl hown (hw _ (List.mem_of_getElem? (i := 11) rfl)) (hw _ (List.mem_of_getElem? (i := 12) rfl)) (hw _ (List.mem_of_getElem? (i := 13) rfl)) (hw _ (List.mem_of_getElem? (i := 4) rfl)) (by decide) (a := b) (W := 1) (own_rm2 l Z a0 hw [] b k1 q1 _ _ h4 n0 (Nat.le_trans Z0 E4.1) A4 Fk Fm gb hq0 hq1) e5  (pc := 8) (Ls := #[.val (.long q1), .second]) (argsL := [(.ref k1), (.long q1)]) (rest := [(.ref b)]) (by rw [hml]; rfl) (lenOf own_pd0 rfl) rfl (hb hby own_d_prog_5_method_3_code_8) (by decide) (by decide) (by decide) (by decide) ?_
  intro v6 T6 L6 X6 hQ6
  obtain ⟨rfl, N6, K6, Eb, Gk, Gm⟩ := hQ6
  show OGo p e below (T6.setTop (mkF m 11 #[.val (.long q1), .second] [(.ref b)])) (OEnd s (fun v h L => ∃ b : Addr, v = some (.ref b) ∧ n0 ≤ b ∧ Fr n0 L ∧ Old Z n0 h ∧ Exa Z h b "com/example/lease/lease/model/Backoff" ∧ Fld Z h b "com/example/lease/lease/model/Backoff" "kind" "Lcom/example/lease/lease/model/Backoff$Kind;" (.ref k1) ∧ Fld Z h b "com/example/lease/lease/model/Backoff" "millis" "J" (.long q1)) ({ frames := 2, cells := 1, slots := 2, locals := 28 } : Room).cells ({ frames := 2, cells := 1, slots := 2, locals := 28 } : Room).slots)
  exact own_ret X6 hx hlk hret rfl (Or.inr (Or.inr (Or.inr (Or.inr ⟨rfl, rfl, rfl⟩)))) (hb hby own_d_prog_5_method_3_code_11) ⟨b, rfl, gb, N0.app N6, O1.keep K6 (allS gb all0), Eb, Gk, Gm⟩ (by decide) (by decide)

set_option maxRecDepth 65536 in
set_option maxHeartbeats 40000000 in
theorem own_rm4 (l : Launch) (Z : State) (a0 : Array Value) (hw : ∀ d ∈ tables_1, d.before a0 Z = true) (ws : List Jvm.Cond) (a1 : Addr) (k1 : Addr) (h0 : Heap) (n0 : Nat) (Z0 : n0 ≤ h0.size) (F1 : Fld Z h0 a1 "com/example/lease/lease/model/Backoff" "kind" "Lcom/example/lease/lease/model/Backoff$Kind;" (.ref k1)) :
    OMet l Z (⟨"com/example/lease/lease/model/Backoff", "kind", "()Lcom/example/lease/lease/model/Backoff$Kind;"⟩ : MethodName) prog_5_method_5_code 1 (some (.object "com/example/lease/lease/model/Backoff$Kind")) ws ({ frames := 0, cells := 0, slots := 0, locals := 0 } : Room) #[(.ref a1)] h0 (fun v h L => v = some (.ref k1) ∧ Fr n0 L ∧ h = h0) := by
  refine OMet.body (plainFor_of_name own_pn0) ?_
  intro p e s m below meth c s₁ hx hby hml hown hnm hret hlk hZ X0 e0
  refine OGo.step (fun _ kk => castTop (show entryFrame m #[(.ref a1)] 1 = (mkF m 0 #[.val (.ref a1)] []) from by first | (simp [entryFrame, mkF, argsToLocals, Value.category]; done) | rfl) kk) ?_
  show OGo p e below (s₁.setTop (mkF m 0 #[.val (.ref a1)] [])) (OEnd s (fun v h L => v = some (.ref k1) ∧ Fr n0 L ∧ h = h0) ({ frames := 0, cells := 0, slots := 0, locals := 0 } : Room).cells ({ frames := 0, cells := 0, slots := 0, locals := 0 } : Room).slots)
  have N0 := Fr.nil n0
  refine OGo.step (fun _ kk => XS.aloadN X0.here hx rfl (hb hby own_d_prog_5_method_5_code_0) rfl rfl kk) ?_
  show OGo p e below (s₁.setTop (mkF m 1 #[.val (.ref a1)] [(.ref a1)])) (OEnd s (fun v h L => v = some (.ref k1) ∧ Fr n0 L ∧ h = h0) ({ frames := 0, cells := 0, slots := 0, locals := 0 } : Room).cells ({ frames := 0, cells := 0, slots := 0, locals := 0 } : Room).slots)
  obtain ⟨T7, X7, e7, st7⟩ := getF X0 hx hZ hown (host := "") (Or.inl (hw _ (List.mem_of_getElem? (i := 18) rfl))) Via.refl e0 F1 (g := (mkF m 1 #[.val (.ref a1)] [(.ref a1)])) rfl rfl (hb hby own_d_prog_5_method_5_code_1)
  refine OGo.step st7 ?_
  show OGo p e below (T7.setTop (mkF m 4 #[.val (.ref a1)] [(.ref k1)])) (OEnd s (fun v h L => v = some (.ref k1) ∧ Fr n0 L ∧ h = h0) ({ frames := 0, cells := 0, slots := 0, locals := 0 } : Room).cells ({ frames := 0, cells := 0, slots := 0, locals := 0 } : Room).slots)
  exact own_ret X7 hx hlk hret rfl (Or.inr (Or.inr (Or.inr (Or.inr ⟨rfl, rfl, rfl⟩)))) (hb hby own_d_prog_5_method_5_code_4) ⟨rfl, N0, e7⟩ (by decide) (by decide)

set_option maxRecDepth 65536 in
set_option maxHeartbeats 40000000 in
theorem own_rm5 (l : Launch) (Z : State) (a0 : Array Value) (hw : ∀ d ∈ tables_1, d.before a0 Z = true) (ws : List Jvm.Cond) (a1 : Addr) (q1 : Int64) (h0 : Heap) (n0 : Nat) (Z0 : n0 ≤ h0.size) (F1 : Fld Z h0 a1 "com/example/lease/lease/model/Backoff" "millis" "J" (.long q1)) :
    OMet l Z (⟨"com/example/lease/lease/model/Backoff", "millis", "()J"⟩ : MethodName) prog_5_method_6_code 1 (some .long) ws ({ frames := 0, cells := 0, slots := 0, locals := 0 } : Room) #[(.ref a1)] h0 (fun v h L => v = some (.long q1) ∧ Fr n0 L ∧ h = h0) := by
  refine OMet.body (plainFor_of_name own_pn0) ?_
  intro p e s m below meth c s₁ hx hby hml hown hnm hret hlk hZ X0 e0
  refine OGo.step (fun _ kk => castTop (show entryFrame m #[(.ref a1)] 1 = (mkF m 0 #[.val (.ref a1)] []) from by first | (simp [entryFrame, mkF, argsToLocals, Value.category]; done) | rfl) kk) ?_
  show OGo p e below (s₁.setTop (mkF m 0 #[.val (.ref a1)] [])) (OEnd s (fun v h L => v = some (.long q1) ∧ Fr n0 L ∧ h = h0) ({ frames := 0, cells := 0, slots := 0, locals := 0 } : Room).cells ({ frames := 0, cells := 0, slots := 0, locals := 0 } : Room).slots)
  have N0 := Fr.nil n0
  refine OGo.step (fun _ kk => XS.aloadN X0.here hx rfl (hb hby own_d_prog_5_method_6_code_0) rfl rfl kk) ?_
  show OGo p e below (s₁.setTop (mkF m 1 #[.val (.ref a1)] [(.ref a1)])) (OEnd s (fun v h L => v = some (.long q1) ∧ Fr n0 L ∧ h = h0) ({ frames := 0, cells := 0, slots := 0, locals := 0 } : Room).cells ({ frames := 0, cells := 0, slots := 0, locals := 0 } : Room).slots)
  obtain ⟨T8, X8, e8, st8⟩ := getF X0 hx hZ hown (host := "") (Or.inl (hw _ (List.mem_of_getElem? (i := 20) rfl))) Via.refl e0 F1 (g := (mkF m 1 #[.val (.ref a1)] [(.ref a1)])) rfl rfl (hb hby own_d_prog_5_method_6_code_1)
  refine OGo.step st8 ?_
  show OGo p e below (T8.setTop (mkF m 4 #[.val (.ref a1)] [(.long q1)])) (OEnd s (fun v h L => v = some (.long q1) ∧ Fr n0 L ∧ h = h0) ({ frames := 0, cells := 0, slots := 0, locals := 0 } : Room).cells ({ frames := 0, cells := 0, slots := 0, locals := 0 } : Room).slots)
  exact own_ret X8 hx hlk hret rfl (Or.inr (Or.inl ⟨rfl, rfl, _, rfl⟩)) (hb hby own_d_prog_5_method_6_code_4) ⟨rfl, N0, e8⟩ (by decide) (by decide)

set_option maxRecDepth 65536 in
set_option maxHeartbeats 40000000 in
theorem own_rm0 (l : Launch) (Z : State) (a0 : Array Value) (hw : ∀ d ∈ tables_1, d.before a0 Z = true) (ws : List Jvm.Cond) (p1 : Int64) (k1 : Addr) (h0 : Heap) (n0 : Nat) (Z0 : n0 ≤ h0.size) (SX : Sta Z Z.heap "com/example/lease/lease/model/Backoff$Kind" "EXPONENTIAL" "Lcom/example/lease/lease/model/Backoff$Kind;" (.ref k1)) (O0 : Old Z n0 h0) :
    OMet l Z x code maxLocals ret ws room_1 #[(.long p1)] h0 (fun v h L => v = some (.int (1 : Int32)) ∧ Fr n0 L) := by
  refine OMet.body (plainFor_of_name own_pn1) ?_
  intro p e s m below meth c s₁ hx hby hml hown hnm hret hlk hZ X0 e0
  have hml : c.maxLocals = 5 := hml
  refine OGo.step (fun _ kk => castTop (show entryFrame m #[(.long p1)] maxLocals = (mkF m 0 #[.val (.long p1), .second, .unset, .unset, .unset] []) from by first | (simp [entryFrame, mkF, argsToLocals, Value.category, maxLocals]; done) | rfl) kk) ?_
  show OGo p e below (s₁.setTop (mkF m 0 #[.val (.long p1), .second, .unset, .unset, .unset] [])) (OEnd s (fun v h L => v = some (.int (1 : Int32)) ∧ Fr n0 L) room_1.cells room_1.slots)
  refine OGo.step (fun _ kk => XS.lloadN X0.here hx rfl (hb hby at_0) rfl kk) ?_
  show OGo p e below (s₁.setTop (mkF m 1 #[.val (.long p1), .second, .unset, .unset, .unset] [(.long p1)])) (OEnd s (fun v h L => v = some (.int (1 : Int32)) ∧ Fr n0 L) room_1.cells room_1.slots)
  refine OGo.step (fun _ kk => X0.ldc2Long hx hown (mvT hZ (hw _ (List.mem_of_getElem? (i := 0) rfl))) (g := (mkF m 1 #[.val (.long p1), .second, .unset, .unset, .unset] [(.long p1)])) rfl (hb hby at_1) _ kk) ?_
  show OGo p e below (s₁.setTop (mkF m 4 #[.val (.long p1), .second, .unset, .unset, .unset] [(.long (9223372036854775807 : Int64)), (.long p1)])) (OEnd s (fun v h L => v = some (.int (1 : Int32)) ∧ Fr n0 L) room_1.cells room_1.slots)
  refine OGo.step (fun _ kk => XS.land X0.here hx rfl (hb hby at_4) rfl kk) ?_
  show OGo p e below (s₁.setTop (mkF m 5 #[.val (.long p1), .second, .unset, .unset, .unset] [(.long (p1 &&& (9223372036854775807 : Int64)))])) (OEnd s (fun v h L => v = some (.int (1 : Int32)) ∧ Fr n0 L) room_1.cells room_1.slots)
  refine OGo.step (fun _ kk => X0.ldc2Long hx hown (mvT hZ (hw _ (List.mem_of_getElem? (i := 1) rfl))) (g := (mkF m 5 #[.val (.long p1), .second, .unset, .unset, .unset] [(.long (p1 &&& (9223372036854775807 : Int64)))])) rfl (hb hby at_5) _ kk) ?_
  show OGo p e below (s₁.setTop (mkF m 8 #[.val (.long p1), .second, .unset, .unset, .unset] [(.long (4503599627370497 : Int64)), (.long (p1 &&& (9223372036854775807 : Int64)))])) (OEnd s (fun v h L => v = some (.int (1 : Int32)) ∧ Fr n0 L) room_1.cells room_1.slots)
  refine OGo.step (fun _ kk => XS.lrem X0.here hx rfl (hb hby at_8) rfl (by decide) kk) ?_
  show OGo p e below (s₁.setTop (mkF m 9 #[.val (.long p1), .second, .unset, .unset, .unset] [(.long ((p1 &&& (9223372036854775807 : Int64)) - ((p1 &&& (9223372036854775807 : Int64)) / (4503599627370497 : Int64)) * (4503599627370497 : Int64)))])) (OEnd s (fun v h L => v = some (.int (1 : Int32)) ∧ Fr n0 L) room_1.cells room_1.slots)
  have hr := own_rng p1
  obtain ⟨q1, hq⟩ : ∃ z, z = ((p1 &&& (9223372036854775807 : Int64)) - ((p1 &&& (9223372036854775807 : Int64)) / (4503599627370497 : Int64)) * (4503599627370497 : Int64)) := ⟨_, rfl⟩
  rw [← hq] at hr
  rw [← hq]
  show OGo p e below (s₁.setTop (mkF m 9 #[.val (.long p1), .second, .unset, .unset, .unset] [(.long q1)])) (OEnd s (fun v h L => v = some (.int (1 : Int32)) ∧ Fr n0 L) room_1.cells room_1.slots)
  refine OGo.step (fun _ kk => XS.lstoreN X0.here hx rfl (hb hby at_9) rfl (l' := #[.val (.long p1), .second, .val (.long q1), .second, .unset]) rfl kk) ?_
  show OGo p e below (s₁.setTop (mkF m 10 #[.val (.long p1), .second, .val (.long q1), .second, .unset] [])) (OEnd s (fun v h L => v = some (.int (1 : Int32)) ∧ Fr n0 L) room_1.cells room_1.slots)
  refine OGo.step (fun _ kk => XS.lloadN X0.here hx rfl (hb hby at_10) rfl kk) ?_
  show OGo p e below (s₁.setTop (mkF m 11 #[.val (.long p1), .second, .val (.long q1), .second, .unset] [(.long q1)])) (OEnd s (fun v h L => v = some (.int (1 : Int32)) ∧ Fr n0 L) room_1.cells room_1.slots)
  refine own_callS X0 hx hZ (y := (⟨"com/example/lease/lease/model/Backoff", "exponential", "(J)Lcom/example/lease/lease/model/Backoff;"⟩ : MethodName)) hown (hw _ (List.mem_of_getElem? (i := 2) rfl)) (hw _ (List.mem_of_getElem? (i := 3) rfl)) (hw _ (List.mem_of_getElem? (i := 4) rfl)) (hw _ (List.mem_of_getElem? (i := 5) rfl)) (by decide) (W := 0) (own_rm1 l Z a0 hw [] q1 k1 h0 n0 Z0 SX O0 hr.1 hr.2) e0  (pc := 11) (Ls := #[.val (.long p1), .second, .val (.long q1), .second, .unset]) (argsL := [(.long q1)]) (rest := []) (by rw [hml]; rfl) (lenOf own_pd1 rfl) rfl (hb hby at_11) (by decide) (by decide) (by decide) (by decide) ?_
  intro v9 T9 L9 X9 hQ9
  obtain ⟨b, rfl, gb, N9, O1, Eb, Gk, Gm⟩ := hQ9
  show OGo p e below (T9.setTop (mkF m 14 #[.val (.long p1), .second, .val (.long q1), .second, .unset] [(.ref b)])) (OEnd s (fun v h L => v = some (.int (1 : Int32)) ∧ Fr n0 L) room_1.cells room_1.slots)
  refine OGo.step (fun _ kk => XS.astore X9.here hx rfl (hb hby at_14) rfl rfl (l' := #[.val (.long p1), .second, .val (.long q1), .second, .val (.ref b)]) rfl kk) ?_
  show OGo p e below (T9.setTop (mkF m 16 #[.val (.long p1), .second, .val (.long q1), .second, .val (.ref b)] [])) (OEnd s (fun v h L => v = some (.int (1 : Int32)) ∧ Fr n0 L) room_1.cells room_1.slots)
  refine OGo.step (fun _ kk => XS.aload X9.here hx rfl (hb hby at_16) rfl rfl kk) ?_
  show OGo p e below (T9.setTop (mkF m 18 #[.val (.long p1), .second, .val (.long q1), .second, .val (.ref b)] [(.ref b)])) (OEnd s (fun v h L => v = some (.int (1 : Int32)) ∧ Fr n0 L) room_1.cells room_1.slots)
  refine OGo.step (fun _ kk => XS.ifnonnullYes X9.here hx rfl (pc0 := 18) (pc' := 23) rfl (hb hby at_18) rfl (by decide) (by decide) kk) ?_
  show OGo p e below (T9.setTop (mkF m 23 #[.val (.long p1), .second, .val (.long q1), .second, .val (.ref b)] [])) (OEnd s (fun v h L => v = some (.int (1 : Int32)) ∧ Fr n0 L) room_1.cells room_1.slots)
  refine OGo.step (fun _ kk => XS.aload X9.here hx rfl (hb hby at_23) rfl rfl kk) ?_
  show OGo p e below (T9.setTop (mkF m 25 #[.val (.long p1), .second, .val (.long q1), .second, .val (.ref b)] [(.ref b)])) (OEnd s (fun v h L => v = some (.int (1 : Int32)) ∧ Fr n0 L) room_1.cells room_1.slots)
  refine own_virtual X9 hx hZ (y := (⟨"com/example/lease/lease/model/Backoff", "kind", "()Lcom/example/lease/lease/model/Backoff$Kind;"⟩ : MethodName)) (z := (⟨"com/example/lease/lease/model/Backoff", "kind", "()Lcom/example/lease/lease/model/Backoff$Kind;"⟩ : MethodName)) hown (hw _ (List.mem_of_getElem? (i := 22) rfl)) (hw _ (List.mem_of_getElem? (i := 23) rfl)) (notFace_of_selects (args := #[]) (mvT hZ (hw _ (List.mem_of_getElem? (i := 25) rfl)))) (hw _ (List.mem_of_getElem? (i := 25) rfl)) (hw _ (List.mem_of_getElem? (i := 24) rfl)) (by decide) (hw _ (List.mem_of_getElem? (i := 26) rfl)) (hw _ (List.mem_of_getElem? (i := 4) rfl)) (b := b) Eb (W := 0) (own_rm4 l Z a0 hw [] b k1 _ n0 (Nat.le_trans gb (Nat.le_of_lt Eb.lt)) Gk) rfl  (pc := 25) (Ls := #[.val (.long p1), .second, .val (.long q1), .second, .val (.ref b)]) (argsL := []) (rest := []) (by rw [hml]; rfl) (lenOf own_pd2 rfl) rfl (hb hby at_25) (by decide) (by decide) (by decide) (by decide) ?_
  intro v10 T10 L10 X10 hQ10
  obtain ⟨rfl, N10, e10⟩ := hQ10
  show OGo p e below (T10.setTop (mkF m 28 #[.val (.long p1), .second, .val (.long q1), .second, .val (.ref b)] [(.ref k1)])) (OEnd s (fun v h L => v = some (.int (1 : Int32)) ∧ Fr n0 L) room_1.cells room_1.slots)
  obtain ⟨T11, X11, e11, st11⟩ := getS2 X10 hx hZ hown (host := "") (Or.inl (hw _ (List.mem_of_getElem? (i := 27) rfl))) Via.refl e10 (SX.ext O1.2) (g := (mkF m 28 #[.val (.long p1), .second, .val (.long q1), .second, .val (.ref b)] [(.ref k1)])) rfl (hb hby at_28)
  refine OGo.step st11 ?_
  show OGo p e below (T11.setTop (mkF m 31 #[.val (.long p1), .second, .val (.long q1), .second, .val (.ref b)] [(.ref k1), (.ref k1)])) (OEnd s (fun v h L => v = some (.int (1 : Int32)) ∧ Fr n0 L) room_1.cells room_1.slots)
  refine OGo.step (fun _ kk => Jvm.RoadKit.acmp (g := (mkF m 31 #[.val (.long p1), .second, .val (.long q1), .second, .val (.ref b)] [(.ref k1), (.ref k1)])) X11 hx rfl rfl rfl (pc0 := 31) (pc' := 34) (same := true) rfl (hb hby at_31) rfl (decide_eq_true rfl) (by decide) (by decide) kk) ?_
  show OGo p e below (T11.setTop (mkF m 34 #[.val (.long p1), .second, .val (.long q1), .second, .val (.ref b)] [])) (OEnd s (fun v h L => v = some (.int (1 : Int32)) ∧ Fr n0 L) room_1.cells room_1.slots)
  refine OGo.step (fun _ kk => XS.aload X11.here hx rfl (hb hby at_34) rfl rfl kk) ?_
  show OGo p e below (T11.setTop (mkF m 36 #[.val (.long p1), .second, .val (.long q1), .second, .val (.ref b)] [(.ref b)])) (OEnd s (fun v h L => v = some (.int (1 : Int32)) ∧ Fr n0 L) room_1.cells room_1.slots)
  refine own_virtual X11 hx hZ (y := (⟨"com/example/lease/lease/model/Backoff", "millis", "()J"⟩ : MethodName)) (z := (⟨"com/example/lease/lease/model/Backoff", "millis", "()J"⟩ : MethodName)) hown (hw _ (List.mem_of_getElem? (i := 28) rfl)) (hw _ (List.mem_of_getElem? (i := 29) rfl)) (notFace_of_selects (args := #[]) (mvT hZ (hw _ (List.mem_of_getElem? (i := 31) rfl)))) (hw _ (List.mem_of_getElem? (i := 31) rfl)) (hw _ (List.mem_of_getElem? (i := 30) rfl)) (by decide) (hw _ (List.mem_of_getElem? (i := 32) rfl)) (hw _ (List.mem_of_getElem? (i := 4) rfl)) (b := b) Eb (W := 0) (own_rm5 l Z a0 hw [] b q1 _ n0 (Nat.le_trans gb (Nat.le_of_lt Eb.lt)) Gm) e11  (pc := 36) (Ls := #[.val (.long p1), .second, .val (.long q1), .second, .val (.ref b)]) (argsL := []) (rest := []) (by rw [hml]; rfl) (lenOf own_pd3 rfl) rfl (hb hby at_36) (by decide) (by decide) (by decide) (by decide) ?_
  intro v12 T12 L12 X12 hQ12
  obtain ⟨rfl, N12, e12⟩ := hQ12
  show OGo p e below (T12.setTop (mkF m 39 #[.val (.long p1), .second, .val (.long q1), .second, .val (.ref b)] [(.long q1)])) (OEnd s (fun v h L => v = some (.int (1 : Int32)) ∧ Fr n0 L) room_1.cells room_1.slots)
  refine OGo.step (fun _ kk => XS.lloadN X12.here hx rfl (hb hby at_39) rfl kk) ?_
  show OGo p e below (T12.setTop (mkF m 40 #[.val (.long p1), .second, .val (.long q1), .second, .val (.ref b)] [(.long q1), (.long q1)])) (OEnd s (fun v h L => v = some (.int (1 : Int32)) ∧ Fr n0 L) room_1.cells room_1.slots)
  refine OGo.step (fun _ kk => XS.lcmp X12.here hx rfl (hb hby at_40) rfl kk) ?_
  show OGo p e below (T12.setTop (mkF m 41 #[.val (.long p1), .second, .val (.long q1), .second, .val (.ref b)] [(.int (lcmpW q1 q1))])) (OEnd s (fun v h L => v = some (.int (1 : Int32)) ∧ Fr n0 L) room_1.cells room_1.slots)
  refine OGo.step (fun _ kk => XS.ifNo X12.here hx rfl (hb hby at_41) rfl ((if0 _ _).trans (teq ((lw_eq q1 q1).mpr rfl)).2) kk) ?_
  show OGo p e below (T12.setTop (mkF m 44 #[.val (.long p1), .second, .val (.long q1), .second, .val (.ref b)] [])) (OEnd s (fun v h L => v = some (.int (1 : Int32)) ∧ Fr n0 L) room_1.cells room_1.slots)
  refine OGo.step (fun _ kk => XS.iconst X12.here hx rfl (hb hby at_44) kk) ?_
  show OGo p e below (T12.setTop (mkF m 45 #[.val (.long p1), .second, .val (.long q1), .second, .val (.ref b)] [(.int (1 : Int32))])) (OEnd s (fun v h L => v = some (.int (1 : Int32)) ∧ Fr n0 L) room_1.cells room_1.slots)
  refine OGo.step (fun _ kk => XS.goto X12.here hx rfl (pc0 := 45) (pc' := 49) rfl (hb hby at_45) (by decide) (by decide) kk) ?_
  show OGo p e below (T12.setTop (mkF m 49 #[.val (.long p1), .second, .val (.long q1), .second, .val (.ref b)] [(.int (1 : Int32))])) (OEnd s (fun v h L => v = some (.int (1 : Int32)) ∧ Fr n0 L) room_1.cells room_1.slots)
  exact own_retN X12 hx hlk hret (by simp) (hb hby at_49) ⟨rfl, (((Fr.nil n0).app N9).app N10).app N12⟩ (by decide) (by decide)

set_option maxRecDepth 65536 in
set_option maxHeartbeats 40000000 in
theorem comes_1 {Post : Tables → Env → Array Value → State → Outcome → State → Prop} (hpost : ∀ tb e args s v u, (limb_1_1.after args s (.returned v) u = true ∧ limb_1_2.after args s (.returned v) u = true ∧ True) → FrameEnd s (.returned v) u (Jvm.fieldLocs frame_1_writes args s ++ Jvm.arrayLocs frame_1_arrays args s ++ Jvm.staticLocs frame_1_statics s) 16 128 → Post tb e args s (.returned v) u) :
    ArmFor flags0 classFile x code maxLocals ret World_1 tables_1 room_1 Calls_1 rest_1 Pre_1 Post := by
  intro l hfl _ _ p e ha hc hk s m args below hf hA hF happ hP
  obtain ⟨hcalls, hrest, hpre⟩ := hP
  obtain ⟨-, -, -, hnamed, -, -, -, hat⟩ := (Spec.applies_iff hf).mp happ
  obtain ⟨hg, hn⟩ := and_e (Cond.before_iff.mp (show (Jvm.Cond.and given_1 narrow_1).before args s = true from hpre))
  obtain ⟨k13, k13'⟩ := and_e hg
  obtain ⟨w0_, rfl⟩ : ∃ w0_ : Value, args = #[w0_] := by
    have hs : args.size = 1 := by simpa [Cond.value, given_1] using k13
    obtain ⟨L⟩ := args
    match L, hs with
    | [w0_], _ => exact ⟨w0_, rfl⟩
  have hw := fun d (hd : d ∈ tables_1) => atoms_spec (ws := Jvm.Cond.code x code maxLocals ret :: tables_1) hat d (List.mem_cons_of_mem _ hd)
  have hfit : Fit s := fun {y c} hc i hi => by
    obtain ⟨ha, rfl⟩ := Array.getElem?_eq_some_iff.mp hc
    have q := List.all_eq_true.mp ((Array.all_eq_true_iff_forall_mem.mp hF) _ (Array.getElem_mem ha)) i (List.mem_range.mpr hi)
    simpa [Array.getElem?_eq_getElem hi] using q
  obtain ⟨i0, ei0⟩ := isL_v k13'
  obtain rfl : w0_ = (.long i0) := Option.some.inj ei0
  obtain ⟨a_EXPONENTIAL, ev_EXPONENTIAL⟩ := exa_v hn
  have S_EXPONENTIAL := Sta.start ev_EXPONENTIAL (Or.inr ⟨(hw _ (List.mem_of_getElem? (i := 9) rfl)), (hw _ (List.mem_of_getElem? (i := 10) rfl))⟩)
  have E_EXPONENTIAL := Exa.start ev_EXPONENTIAL hn
  obtain ⟨n, o, h1, h2, h3, _, L, rfl, ⟨rfl, N⟩, hq⟩ := own_rm0 l s _ hw tables_1 i0 a_EXPONENTIAL s.heap s.heap.size (Nat.le_refl _) S_EXPONENTIAL (Old.start s) p e ha hc hk s m _ below hf ((Spec.applies_iff_loose hf).mp happ).1 ⟨rfl, State.Warmed39.refl s, rfl⟩ trivial
  exact ⟨n, _, h1, h2, h3, hpost _ _ _ _ _ _ ⟨Cond.after_iff.mpr rfl, Cond.after_iff.mpr (eq_i res_at (Term.int_eval (1)) rfl), trivial⟩ ⟨hq.1, hq.2.1, (hq.2.2.sift fun y hy => Or.inr (N y hy)).mono (by decide) (by decide)⟩⟩
theorem main_1_1 : Claimed_1_1 := comes_1 fun _ _ _ _ _ _ h hF => ⟨h.1, hF⟩
theorem main_1_2 : Claimed_1_2 := comes_1 fun _ _ _ _ _ _ h hF => ⟨h.2.1, hF⟩
end Jvm.Pilot.@@N@@
namespace Jvm.Pilot.@@N@@
open Jvm Jvm.ClassFile Sem Op Lib Jvm.Free Jvm.Stand Jvm.Pilot.@@N@@.Jvm.D
/-! MADE BY PROGRAM (witnessworld.py) out of the Statement's table words and the real class files: 13 classes; the members and pool entries that the words name. The judged class is class 1, her method 1. -/
namespace start1
open Jvm.ClassFile
def u (s : String) : CpInfo := .utf8 (stringToUtf16 s)
/-- a pool by its gaps: so many unusable entries, then the entry; so many at the end -/
def gap : Nat → List CpInfo → List CpInfo
  | 0, r => r
  | n + 1, r => .unusable :: gap n r
def poolList (es : List (Nat × CpInfo)) (last : Nat) : List CpInfo := es.foldr (fun e r => gap e.1 (e.2 :: r)) (gap last [])
def pool (es : List (Nat × CpInfo)) (last : Nat) : Array CpInfo := ⟨poolList es last⟩
def fileOf (pool : Array CpInfo) (this : Nat) (attrs : Array Attribute := #[]) (ms : Array MethodInfo := #[]) (fl : Nat := 33) (sup : Nat := 0) (ifs : Array Nat := #[]) (fds : Array FieldInfo := #[]) : ClassFile where
  minorVersion := 0
  majorVersion := 65
  constantPool := pool
  accessFlags := fl
  thisClass := this
  superClass := sup
  interfaces := ifs
  fields := fds
  methods := ms
  attributes := attrs
def plain (name : String) (sup : Option ClassId) : Class where
  name := name
  kind := .ordinary
  loader := none
  accessFlags := 33
  super := sup
  interfaces := #[]
  cf := none
  fields := #[]
  methods := #[]
  instanceTypes := #[]
  staticTypes := #[]
  resolved := #[]
  callSites := []
  init := .initialized
  statics := none
  mirror := none

def pool0 : Array CpInfo := pool [(5, u "<init>"), (0, u "()V"), (1, .class_ 10), (1, u "java/lang/Object")] 113

def k0c0 : Code := { maxStack := 0, maxLocals := 1, code := object_method_1_code, exceptionTable := #[], attributes := #[] }
def k0m0 : Method := { name := "<init>", desc := "()V", sig := { parameters := [], returnType := none }, accessFlags := 1, code := some k0c0 }
/-- java/lang/Object -/
def k0 : Class := { plain "java/lang/Object" none with
  accessFlags := 33
  interfaces := #[]
  cf := some (fileOf pool0 8 #[] #[{ accessFlags := 1, nameIndex := 5, descriptorIndex := 6, attributes := #[] }] 33 0 #[] #[])
  fields := #[]
  methods := #[k0m0]
  instanceTypes := #[]
  staticTypes := #[]
  resolved := Array.replicate 124 none
  statics := none }

def pool1 : Array CpInfo := pool [(2, .class_ 4), (1, u "java/lang/Object"), (0, u "<init>"), (0, u "()V"), (2, .long 9223372036854775807), (1, .long 4503599627370497), (1, .methodref 14 15), (0, .class_ 16), (0, .nameAndType 17 18), (0, u "com/example/lease/lease/model/Backoff"), (0, u "exponential"), (0, u "(J)Lcom/example/lease/lease/model/Backoff;"), (0, .methodref 14 20), (0, .nameAndType 21 22), (0, u "kind"), (0, u "()Lcom/example/lease/lease/model/Backoff$Kind;"), (0, .fieldref 24 25), (0, .class_ 26), (0, .nameAndType 27 28), (0, u "com/example/lease/lease/model/Backoff$Kind"), (0, u "EXPONENTIAL"), (0, u "Lcom/example/lease/lease/model/Backoff$Kind;"), (0, .methodref 14 30), (0, .nameAndType 31 32), (0, u "millis"), (0, u "()J"), (0, .class_ 34), (0, u "com/example/lease/lease/model/BackoffExponentialPinLaw"), (2, u "law"), (0, u "(J)Z")] 5

def k1m0 : Method := { name := "<init>", desc := "()V", sig := { parameters := [], returnType := none }, accessFlags := 1, code := none }
def k1c1 : Code := { maxStack := 4, maxLocals := 5, code := code, exceptionTable := #[], attributes := #[] }
def k1m1 : Method := { name := "law", desc := "(J)Z", sig := { parameters := [.long], returnType := some .boolean }, accessFlags := 9, code := some k1c1 }
/-- com/example/lease/lease/model/BackoffExponentialPinLaw -/
def k1 : Class := { plain "com/example/lease/lease/model/BackoffExponentialPinLaw" (some 0) with
  accessFlags := 49
  interfaces := #[]
  cf := some (fileOf pool1 33 #[] #[{ accessFlags := 1, nameIndex := 5, descriptorIndex := 6, attributes := #[] }, { accessFlags := 9, nameIndex := 37, descriptorIndex := 38, attributes := #[] }] 49 2 #[] #[])
  fields := #[]
  methods := #[k1m0, k1m1]
  instanceTypes := #[]
  staticTypes := #[]
  resolved := Array.replicate 44 none
  statics := none }

def pool2 : Array CpInfo := pool [(3, .methodref 4 5), (0, .class_ 6), (0, .nameAndType 7 8), (0, u "java/lang/Object"), (0, u "<init>"), (0, u "()V"), (0, .class_ 10), (0, u "com/example/lease/lease/model/Backoff"), (0, .long 4503599627370496), (10, .fieldref 9 23), (0, .nameAndType 24 25), (0, u "kind"), (0, u "Lcom/example/lease/lease/model/Backoff$Kind;"), (0, .fieldref 9 27), (0, .nameAndType 28 29), (0, u "millis"), (0, u "J"), (1, .class_ 33), (1, u "com/example/lease/lease/model/Backoff$Kind"), (1, .methodref 9 36), (0, .nameAndType 7 37), (0, u "(Lcom/example/lease/lease/model/Backoff$Kind;J)V"), (0, .fieldref 31 39), (0, .nameAndType 40 25), (0, u "EXPONENTIAL"), (42, u "MAX_MILLIS"), (5, u "(J)Lcom/example/lease/lease/model/Backoff;"), (0, u "exponential"), (2, u "()Lcom/example/lease/lease/model/Backoff$Kind;"), (0, u "()J")] 26

def k2c0 : Code := { maxStack := 4, maxLocals := 4, code := prog_5_method_1_code, exceptionTable := #[], attributes := #[] }
def k2m0 : Method := { name := "<init>", desc := "(Lcom/example/lease/lease/model/Backoff$Kind;J)V", sig := { parameters := [(.object "com/example/lease/lease/model/Backoff$Kind"), .long], returnType := none }, accessFlags := 2, code := some k2c0 }
def k2c1 : Code := { maxStack := 5, maxLocals := 2, code := prog_5_method_3_code, exceptionTable := #[], attributes := #[] }
def k2m1 : Method := { name := "exponential", desc := "(J)Lcom/example/lease/lease/model/Backoff;", sig := { parameters := [.long], returnType := some (.object "com/example/lease/lease/model/Backoff") }, accessFlags := 9, code := some k2c1 }
def k2c2 : Code := { maxStack := 1, maxLocals := 1, code := prog_5_method_5_code, exceptionTable := #[], attributes := #[] }
def k2m2 : Method := { name := "kind", desc := "()Lcom/example/lease/lease/model/Backoff$Kind;", sig := { parameters := [], returnType := some (.object "com/example/lease/lease/model/Backoff$Kind") }, accessFlags := 1, code := some k2c2 }
def k2c3 : Code := { maxStack := 2, maxLocals := 1, code := prog_5_method_6_code, exceptionTable := #[], attributes := #[] }
def k2m3 : Method := { name := "millis", desc := "()J", sig := { parameters := [], returnType := some .long }, accessFlags := 1, code := some k2c3 }
/-- com/example/lease/lease/model/Backoff -/
def k2 : Class := { plain "com/example/lease/lease/model/Backoff" (some 0) with
  accessFlags := 49
  interfaces := #[]
  cf := some (fileOf pool2 9 #[.nestMembers #[31]] #[{ accessFlags := 2, nameIndex := 7, descriptorIndex := 37, attributes := #[] }, { accessFlags := 9, nameIndex := 90, descriptorIndex := 89, attributes := #[] }, { accessFlags := 1, nameIndex := 24, descriptorIndex := 93, attributes := #[] }, { accessFlags := 1, nameIndex := 28, descriptorIndex := 94, attributes := #[] }] 49 4 #[] #[{ accessFlags := 25, nameIndex := 83, descriptorIndex := 29, attributes := #[] }, { accessFlags := 18, nameIndex := 24, descriptorIndex := 25, attributes := #[] }, { accessFlags := 18, nameIndex := 28, descriptorIndex := 29, attributes := #[] }])
  fields := #[{ name := "MAX_MILLIS", type := .long, accessFlags := 25, slot := 0, constantValue := 0 }, { name := "kind", type := (.object "com/example/lease/lease/model/Backoff$Kind"), accessFlags := 18, slot := 0, constantValue := 0 }, { name := "millis", type := .long, accessFlags := 18, slot := 1, constantValue := 0 }]
  methods := #[k2m0, k2m1, k2m2, k2m3]
  instanceTypes := #[(.object "com/example/lease/lease/model/Backoff$Kind"), .long]
  staticTypes := #[.long]
  resolved := Array.replicate 121 none
  statics := none }

def pool3 : Array CpInfo := pool [(1, .class_ 2), (0, u "java/lang/constant/Constable"), (0, .class_ 4), (0, u "java/lang/Object")] 6

/-- java/lang/constant/Constable -/
def k3 : Class := { plain "java/lang/constant/Constable" (some 0) with
  accessFlags := 1537
  interfaces := #[]
  cf := some (fileOf pool3 1 #[] #[] 1537 3 #[] #[])
  fields := #[]
  methods := #[]
  instanceTypes := #[]
  staticTypes := #[]
  resolved := Array.replicate 11 none
  statics := none }

def pool4 : Array CpInfo := pool [(1, .class_ 2), (0, u "java/lang/Comparable"), (0, .class_ 4), (0, u "java/lang/Object")] 7

/-- java/lang/Comparable -/
def k4 : Class := { plain "java/lang/Comparable" (some 0) with
  accessFlags := 1537
  interfaces := #[]
  cf := some (fileOf pool4 1 #[] #[] 1537 3 #[] #[])
  fields := #[]
  methods := #[]
  instanceTypes := #[]
  staticTypes := #[]
  resolved := Array.replicate 12 none
  statics := none }

def pool5 : Array CpInfo := pool [(1, .class_ 2), (0, u "java/io/Serializable"), (0, .class_ 4), (0, u "java/lang/Object")] 2

/-- java/io/Serializable -/
def k5 : Class := { plain "java/io/Serializable" (some 0) with
  accessFlags := 1537
  interfaces := #[]
  cf := some (fileOf pool5 1 #[] #[] 1537 3 #[] #[])
  fields := #[]
  methods := #[]
  instanceTypes := #[]
  staticTypes := #[]
  resolved := Array.replicate 7 none
  statics := none }

def pool6 : Array CpInfo := pool [(2, .class_ 4), (1, u "java/lang/Enum"), (0, u "name"), (0, u "Ljava/lang/String;"), (2, u "ordinal"), (0, u "I"), (1, .class_ 14), (1, u "java/lang/Object"), (4, u "hash"), (86, .class_ 108), (1, u "java/lang/Enum$EnumDesc"), (2, .class_ 112), (0, u "java/lang/constant/Constable"), (0, .class_ 114), (0, u "java/lang/Comparable"), (0, .class_ 116), (0, u "java/io/Serializable")] 87

/-- java/lang/Enum -/
def k6 : Class := { plain "java/lang/Enum" (some 0) with
  accessFlags := 1057
  interfaces := #[3, 4, 5]
  cf := some (fileOf pool6 2 #[.nestMembers #[106]] #[] 1057 12 #[111, 113, 115] #[{ accessFlags := 18, nameIndex := 5, descriptorIndex := 6, attributes := #[] }, { accessFlags := 18, nameIndex := 9, descriptorIndex := 10, attributes := #[] }, { accessFlags := 2, nameIndex := 19, descriptorIndex := 10, attributes := #[] }])
  fields := #[{ name := "name", type := (.object "java/lang/String"), accessFlags := 18, slot := 0, constantValue := 0 }, { name := "ordinal", type := .int, accessFlags := 18, slot := 1, constantValue := 0 }, { name := "hash", type := .int, accessFlags := 2, slot := 2, constantValue := 0 }]
  methods := #[]
  instanceTypes := #[(.object "java/lang/String"), .int, .int]
  staticTypes := #[]
  resolved := Array.replicate 204 none
  statics := none }

def pool7 : Array CpInfo := pool [(1, .class_ 2), (0, u "com/example/lease/lease/model/Backoff$Kind"), (2, u "FIXED"), (0, u "Lcom/example/lease/lease/model/Backoff$Kind;"), (2, u "EXPONENTIAL"), (2, u "$VALUES"), (0, u "[Lcom/example/lease/lease/model/Backoff$Kind;"), (6, .class_ 22), (1, u "java/lang/Enum"), (47, .class_ 71), (0, u "com/example/lease/lease/model/Backoff")] 16

/-- com/example/lease/lease/model/Backoff$Kind -/
def k7 : Class := { plain "com/example/lease/lease/model/Backoff$Kind" (some 6) with
  accessFlags := 16433
  interfaces := #[]
  cf := some (fileOf pool7 1 #[.nestHost 70] #[] 16433 20 #[] #[{ accessFlags := 16409, nameIndex := 5, descriptorIndex := 6, attributes := #[] }, { accessFlags := 16409, nameIndex := 9, descriptorIndex := 6, attributes := #[] }, { accessFlags := 4122, nameIndex := 12, descriptorIndex := 13, attributes := #[] }])
  fields := #[{ name := "FIXED", type := (.object "com/example/lease/lease/model/Backoff$Kind"), accessFlags := 16409, slot := 0, constantValue := 0 }, { name := "EXPONENTIAL", type := (.object "com/example/lease/lease/model/Backoff$Kind"), accessFlags := 16409, slot := 1, constantValue := 0 }, { name := "$VALUES", type := (.array (.object "com/example/lease/lease/model/Backoff$Kind")), accessFlags := 4122, slot := 2, constantValue := 0 }]
  methods := #[]
  instanceTypes := #[(.object "java/lang/String"), .int, .int]
  staticTypes := #[(.object "com/example/lease/lease/model/Backoff$Kind"), (.object "com/example/lease/lease/model/Backoff$Kind"), (.array (.object "com/example/lease/lease/model/Backoff$Kind"))]
  resolved := Array.replicate 88 none
  statics := some 0 }

def pool8 : Array CpInfo := pool [(1, u "java/lang/Cloneable"), (0, .class_ 1), (0, u "java/lang/Object"), (0, .class_ 3)] 3

/-- java/lang/Cloneable -/
def k8 : Class := { plain "java/lang/Cloneable" (some 0) with
  accessFlags := 1537
  interfaces := #[]
  cf := some (fileOf pool8 2 #[] #[] 1537 4 #[] #[])
  fields := #[]
  methods := #[]
  instanceTypes := #[]
  staticTypes := #[]
  resolved := Array.replicate 8 none
  statics := none }

/-- the primitive byte -/
def k9 : Class := { plain "byte" none with kind := .primitive 'B', accessFlags := 0x411 }
/-- [B -/
def k10 : Class := { plain "[B" (some 0) with kind := .array 9 .byte, interfaces := #[8, 5], accessFlags := 1041 }

/-- the primitive int -/
def k11 : Class := { plain "int" none with kind := .primitive 'I', accessFlags := 0x411 }
/-- [I -/
def k12 : Class := { plain "[I" (some 0) with kind := .array 11 .int, interfaces := #[8, 5], accessFlags := 1041 }

def heap : Heap := #[{ cls := 7, slots := #[.null, .ref 1, .null], vm := .statics 7 },
  { cls := 7, slots := #[.null, .int 1, .int 0], vm := .none }]
def classes : Array Class := #[k0, k1, k2, k3, k4, k5, k6, k7, k8, k9, k10, k11, k12]
def interned : List (Array UInt16 × Addr) := []
def slotsUsed : Nat := 6
def theMethod : MethodId := ⟨1, 1⟩
def args0 : Array Value := #[.long 5]
def aboutOver (below : List Frame) : State where
  vm := { classes := classes, interned := interned.toArray }
  heap := heap
  slotsUsed := slotsUsed
  threads := #[{ frames := .invoking theMethod args0 :: below }]
def below0 : List Frame := [.native { method := ⟨0, 0⟩, args := #[] }]
def about1 : State := aboutOver below0
def p0 : Program := .bare "" "" ""
def e0 : Env := launch0.env 0 0 0
theorem w_frames : about1.frames = Frame.invoking theMethod args0 :: below0 := rfl
set_option maxRecDepth 65536 in
theorem w_args : argsFit about1.vm theMethod args0 = true := by decide +kernel
set_option maxRecDepth 65536 in
theorem w_heap : heapFits about1 = true := by decide +kernel
set_option maxRecDepth 65536 in
theorem w_runnable : about1.curStatus? = some .runnable := by decide +kernel
set_option maxRecDepth 65536 in
theorem w_alone : about1.alone = true := by decide +kernel
set_option maxRecDepth 65536 in
theorem w_named : about1.methodNamed? x = some theMethod := by decide +kernel
set_option maxRecDepth 65536 in
theorem w_hears : about1.hears theMethod below0 = true := by decide +kernel
set_option maxRecDepth 65536 in
theorem w_ripe : about1.ripe theMethod args0 below0 = true := by decide +kernel
theorem w_running : about1.status = .running := rfl
set_option maxRecDepth 65536 in
theorem w_room : about1.hasRoom e0.platform room_1 = true :=
  launch0.hasRoom_least _ room_1 (by decide +kernel) (by decide +kernel) (by decide +kernel) (by decide +kernel) (by decide +kernel) (by decide +kernel)
theorem allAtoms_all (ts : List Jvm.Cond) (a : Array Jvm.Value) (st : Jvm.State) : (allAtoms ts).before a st = ts.all (fun c => c.before a st) := by
  induction ts with
  | nil => rfl
  | cons c t ih =>
    show (Jvm.Cond.and c (allAtoms t)).before a st = _
    rw [Jvm.Cond.before_and, ih, List.all_cons]
def words1 : List Jvm.Cond := Jvm.Cond.code x code maxLocals ret :: tables_1
/-- a 'code' word, met by the world's own term for the bytes: nothing is compared byte by byte -/
theorem code_word {y : MethodName} {bytes : ByteArray} {mx : Nat} {rt : Option FieldType} {a : Array Value} {s : State} {m : MethodId} {meth : Method} {c : Code} (h1 : s.methodNamed? y = some m) (h2 : s.vm.method? m = some meth) (h3 : meth.code = some c) (h4 : c.code = bytes)
    (h5 : (c.maxLocals == mx && c.exceptionTable.isEmpty && decide (c.maxStack ≤ mostOperands) && decide (meth.sig.returnType = rt) && !meth.locks && decide (parseMethodDescriptor y.desc = some meth.sig)) = true) : (Jvm.Cond.code y bytes mx rt).before a s = true := by
  simp only [Bool.and_eq_true, beq_iff_eq, Bool.not_eq_true', decide_eq_true_eq] at h5
  obtain ⟨⟨⟨⟨⟨g1, g2⟩, g3⟩, g4⟩, g5⟩, g6⟩ := h5
  simp [Cond.before, Cond.holds, Cond.value, h1, h2, h3, h4, g1, g2, g3, g4, g5, g6]
def isCode : Jvm.Cond → Bool
  | .code _ _ _ _ => true
  | _ => false
theorem all_split {L : List Jvm.Cond} {P : Jvm.Cond → Bool} (h1 : L.all (fun c => isCode c || P c) = true) (h2 : ∀ c ∈ L.filter isCode, P c = true) : L.all P = true := by
  refine List.all_eq_true.mpr fun c hc => ?_
  have h := List.all_eq_true.mp h1 c hc
  rcases Bool.eq_false_or_eq_true (isCode c) with hi | hi
  · exact h2 c (List.mem_filter.mpr ⟨hc, hi⟩)
  · simpa [hi] using h
set_option maxRecDepth 65536 in
theorem w_c0 : (Jvm.Cond.code x code maxLocals ret).before args0 about1 = true := code_word (m := ⟨1, 1⟩) (meth := k1m1) (c := k1c1) (by decide +kernel) rfl rfl rfl (by decide +kernel)
set_option maxRecDepth 65536 in
theorem w_c1 : (Jvm.Cond.code ({ cls := "com/example/lease/lease/model/Backoff", name := "exponential", desc := "(J)Lcom/example/lease/lease/model/Backoff;" } : Jvm.MethodName) prog_5_method_3_code (2 : Nat) (Option.some (Jvm.ClassFile.FieldType.object "com/example/lease/lease/model/Backoff"))).before args0 about1 = true := code_word (m := ⟨2, 1⟩) (meth := k2m1) (c := k2c1) (by decide +kernel) rfl rfl rfl (by decide +kernel)
set_option maxRecDepth 65536 in
theorem w_c2 : (Jvm.Cond.code ({ cls := "com/example/lease/lease/model/Backoff", name := "<init>", desc := "(Lcom/example/lease/lease/model/Backoff$Kind;J)V" } : Jvm.MethodName) prog_5_method_1_code (4 : Nat) (Option.none : Option Jvm.ClassFile.FieldType)).before args0 about1 = true := code_word (m := ⟨2, 0⟩) (meth := k2m0) (c := k2c0) (by decide +kernel) rfl rfl rfl (by decide +kernel)
set_option maxRecDepth 65536 in
theorem w_c3 : (Jvm.Cond.code ({ cls := "java/lang/Object", name := "<init>", desc := "()V" } : Jvm.MethodName) object_method_1_code (1 : Nat) (Option.none : Option Jvm.ClassFile.FieldType)).before args0 about1 = true := code_word (m := ⟨0, 0⟩) (meth := k0m0) (c := k0c0) (by decide +kernel) rfl rfl rfl (by decide +kernel)
set_option maxRecDepth 65536 in
theorem w_c4 : (Jvm.Cond.code ({ cls := "com/example/lease/lease/model/Backoff", name := "kind", desc := "()Lcom/example/lease/lease/model/Backoff$Kind;" } : Jvm.MethodName) prog_5_method_5_code (1 : Nat) (Option.some (Jvm.ClassFile.FieldType.object "com/example/lease/lease/model/Backoff$Kind"))).before args0 about1 = true := code_word (m := ⟨2, 2⟩) (meth := k2m2) (c := k2c2) (by decide +kernel) rfl rfl rfl (by decide +kernel)
set_option maxRecDepth 65536 in
theorem w_c5 : (Jvm.Cond.code ({ cls := "com/example/lease/lease/model/Backoff", name := "millis", desc := "()J" } : Jvm.MethodName) prog_5_method_6_code (1 : Nat) (Option.some Jvm.ClassFile.FieldType.long)).before args0 about1 = true := code_word (m := ⟨2, 3⟩) (meth := k2m3) (c := k2c3) (by decide +kernel) rfl rfl rfl (by decide +kernel)
def codes1 : List Jvm.Cond := [Jvm.Cond.code x code maxLocals ret, Jvm.Cond.code ({ cls := "com/example/lease/lease/model/Backoff", name := "exponential", desc := "(J)Lcom/example/lease/lease/model/Backoff;" } : Jvm.MethodName) prog_5_method_3_code (2 : Nat) (Option.some (Jvm.ClassFile.FieldType.object "com/example/lease/lease/model/Backoff")), Jvm.Cond.code ({ cls := "com/example/lease/lease/model/Backoff", name := "<init>", desc := "(Lcom/example/lease/lease/model/Backoff$Kind;J)V" } : Jvm.MethodName) prog_5_method_1_code (4 : Nat) (Option.none : Option Jvm.ClassFile.FieldType), Jvm.Cond.code ({ cls := "java/lang/Object", name := "<init>", desc := "()V" } : Jvm.MethodName) object_method_1_code (1 : Nat) (Option.none : Option Jvm.ClassFile.FieldType), Jvm.Cond.code ({ cls := "com/example/lease/lease/model/Backoff", name := "kind", desc := "()Lcom/example/lease/lease/model/Backoff$Kind;" } : Jvm.MethodName) prog_5_method_5_code (1 : Nat) (Option.some (Jvm.ClassFile.FieldType.object "com/example/lease/lease/model/Backoff$Kind")), Jvm.Cond.code ({ cls := "com/example/lease/lease/model/Backoff", name := "millis", desc := "()J" } : Jvm.MethodName) prog_5_method_6_code (1 : Nat) (Option.some Jvm.ClassFile.FieldType.long)]
set_option maxRecDepth 65536 in
theorem codes_eq : words1.filter isCode = codes1 := rfl
theorem w_codes : ∀ c ∈ words1.filter isCode, c.before args0 about1 = true := by
  rw [codes_eq]
  intro c hc
  simp only [codes1, List.mem_cons, List.not_mem_nil, or_false] at hc
  rcases hc with rfl | rfl | rfl | rfl | rfl | rfl
  · exact w_c0
  · exact w_c1
  · exact w_c2
  · exact w_c3
  · exact w_c4
  · exact w_c5
set_option maxRecDepth 65536 in
theorem w_t1 : (words1.take 24).all (fun c => isCode c || c.before args0 about1) = true := by decide +kernel
set_option maxRecDepth 65536 in
theorem w_t2 : (words1.drop 24).all (fun c => isCode c || c.before args0 about1) = true := by decide +kernel
theorem w_tables : (allAtoms (Jvm.Cond.code x code maxLocals ret :: tables_1)).before args0 about1 = true := by
  rw [allAtoms_all]
  show words1.all (fun c => c.before args0 about1) = true
  refine all_split ?_ w_codes
  rw [← List.take_append_drop 24 words1, List.all_append, w_t1, w_t2]
  rfl
set_option maxRecDepth 65536 in
theorem w_case : (Jvm.Cond.and given_1 narrow_1).before args0 about1 = true := by decide +kernel
theorem w_applies : (headSpec (Jvm.Cond.code x code maxLocals ret :: tables_1) room_1).applies x e0.platform about1 = true :=
  (Spec.applies_iff w_frames).mpr ⟨w_running, w_runnable, w_alone, w_named, w_hears, w_ripe, w_room, w_tables⟩
theorem atStart : AtStart classFile x code maxLocals ret World_1 tables_1 room_1 Calls_1 rest_1 Pre_1 launch0 p0 e0 about1 theMethod args0 below0 :=
  ⟨lists_1, trivial, launch0.admits_env _ _ _, launch0.least_env, fairChoices_fair.cas, fairChoices_fair.clock, w_frames, w_args, w_heap, w_applies, trivial, trivial, w_case⟩
end start1
theorem witness_1 : WitnessClaimed_1 := ⟨start1.p0, start1.e0, start1.about1, start1.theMethod, start1.args0, start1.below0, start1.atStart⟩
end Jvm.Pilot.@@N@@
