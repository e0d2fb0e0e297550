import JvmDerived
import JvmDerived.Pilot.@@N@@Statement
import JvmDerived.Pilot.@@N@@Code
set_option linter.unusedVariables false
set_option linter.unusedSimpArgs false
@@BLOCK:NumsL.lean.txt@@
namespace Jvm.Pilot.@@N@@
open Jvm Jvm.ClassFile Sem Op Lib Jvm.Free Jvm.Stand Jvm.LawKit Jvm.RoadKit Bundle Jvm.Pilot.@@N@@.Jvm.D
section Own
variable {p : Program} {l : Launch} {e : Env} {R : Room} {s : State} {m : MethodId} {args : Array Value} {below : List Frame} {meth : Method} {c : Code} {T : State} {locs : List Loc} {cells slots : Nat} {Z : State} {a0 : Array Value} {h : Heap}
/-- from U the run comes to the method's end, and P holds there -/
def OGo (p : Program) (e : Env) (below : List Frame) (U : State) (P : State → Outcome → Prop) : Prop :=
  ∃ t o, Steps p.tables e below U t ∧ t.status = .running ∧ Ended t below o ∧ P t o
theorem OGo.step {U U' : State} {P : State → Outcome → Prop} (k : ∀ t, Steps p.tables e below U' t → Steps p.tables e below U t) (g : OGo p e below U' P) : OGo p e below U P := by
  obtain ⟨t, o, h1, h2⟩ := g
  exact ⟨t, o, k t h1, h2⟩
def OEnd (s : State) (Q : Option Value → Heap → List Loc → Prop) (kc ks : Nat) (t : State) (o : Outcome) : Prop :=
  ∃ v L, o = .returned v ∧ Q v t.heap L ∧ FrameEnd s o t L kc ks
/-- the contract of one body, at one array of arguments and one heap -/
abbrev OMet (l : Launch) (Z : State) (y : MethodName) (bytes : ByteArray) (maxL : Nat) (ret : Option FieldType) (ws : List Jvm.Cond) (rm : Room) (as' : Array Value) (h0 : Heap) (Q : Option Value → Heap → List Loc → Prop) : Prop :=
  MetFree l y (head1 (Jvm.Cond.code y bytes maxL ret :: ws) rm) (fun a U => a = as' ∧ Z.Warmed39 U.vm ∧ U.heap = h0) (fun _ _ _ _ _ => True) (fun _ U o U' => ∃ v L, o = .returned v ∧ Q v U'.heap L ∧ FrameEnd U o U' L rm.cells rm.slots)
theorem OMet.body {y : MethodName} {bytes : ByteArray} {maxL : Nat} {ret : Option FieldType} {ws : List Jvm.Cond} {rm : Room} {as' : Array Value} {h0 : Heap} {Q : Option Value → Heap → List Loc → Prop} (hpn : plainFor y = true)
    (b : ∀ (p : Program) (e : Env) (s : State) (m : MethodId) (below : List Frame) (meth : Method) (c : Code) (s₁ : State), p.tables.exec = Jvm.exec → c.code = bytes → c.maxLocals = maxL → s.vm.findClass y.cls = some m.cls → meth.name = y.name → meth.sig.returnType = ret → meth.locks = false → Z.Warmed39 s.vm →
      Stand p l e rm s m as' below meth c s₁ [] 0 0 → s₁.heap = h0 → OGo p e below (s₁.setTop (entryFrame m as' maxL)) (OEnd s Q rm.cells rm.slots)) : OMet l Z y bytes maxL ret ws rm as' h0 Q := by
  refine MetFree.of_bodySF hpn hisR ?_
  intro p e s m args below meth c s₁ Bd hml0 hP hK
  obtain ⟨rfl, hZ, hh⟩ := hP
  exact b p e s m below meth c s₁ Bd.exec Bd.bytes hml0 (findClass_of_methodNamed Bd.named) (name_of_methodNamed Bd.named Bd.method).1 Bd.returns Bd.notSynchronized hZ (Stand.of_body Bd) (by rw [← hh, Bd.state]; rfl)
theorem own_ret (X : Stand p l e R s m args below meth c T locs cells slots) (hx : p.tables.exec = Jvm.exec) (hlk : meth.locks = false) {pc : Nat} {Ls : Array Slot} {w : Value} {t : FieldType} {i : Instr} {rest : List Value} (hret : meth.sig.returnType = some t) (hn : narrow t w = w)
    (hi : (i = .ireturn ∧ (t = .int ∨ t = .boolean ∨ t = .byte ∨ t = .char ∨ t = .short) ∧ ∃ z, w = .int z) ∨ (i = .lreturn ∧ t = .long ∧ ∃ z, w = .long z) ∨ (i = .dreturn ∧ t = .double ∧ ∃ z, w = .double z) ∨ (i = .freturn ∧ t = .float ∧ ∃ z, w = .float z) ∨ (i = .areturn ∧ t.isReference = true ∧ w.isRef = true))
    (hd : decode c.code pc = .ok (i, 1)) {Q : Option Value → Heap → List Loc → Prop} {kc ks : Nat} (hQ : Q (some w) T.heap locs) (h1 : cells ≤ kc) (h2 : slots ≤ ks) : OGo p e below (T.setTop (mkF m pc Ls (w :: rest))) (OEnd s Q kc ks) := by
  obtain ⟨fs, hr, hrun, hended, hW, hsame⟩ := X.leave (v := some w) (fun h => by rw [hret] at h; cases h) hlk
  exact ⟨_, _, retOut X hx hret hn hi hd hr, hrun, hended, _, _, rfl, hQ, ⟨_, rfl⟩, hW, hsame.mono h1 h2⟩
theorem own_retN (X : Stand p l e R s m args below meth c T locs cells slots) (hx : p.tables.exec = Jvm.exec) (hlk : meth.locks = false) {pc : Nat} {Ls : Array Slot} {z : Int32} {t : FieldType} {rest : List Value} (hret : meth.sig.returnType = some t) (ht : t = .boolean ∨ t = .byte ∨ t = .char ∨ t = .short)
    (hd : decode c.code pc = .ok (.ireturn, 1)) {Q : Option Value → Heap → List Loc → Prop} {kc ks : Nat} (hQ : Q (some (.int (nar t z))) T.heap locs) (h1 : cells ≤ kc) (h2 : slots ≤ ks) : OGo p e below (T.setTop (mkF m pc Ls (.int z :: rest))) (OEnd s Q kc ks) := by
  obtain ⟨fs, hr, hrun, hended, hW, hsame⟩ := X.leave (v := some (.int (nar t z))) (fun h => by rw [hret] at h; cases h) hlk
  exact ⟨_, _, retN X hx hret ht hd hr, hrun, hended, _, _, rfl, hQ, ⟨_, rfl⟩, hW, hsame.mono h1 h2⟩
theorem own_ret0 (X : Stand p l e R s m args below meth c T locs cells slots) (hx : p.tables.exec = Jvm.exec) (hlk : meth.locks = false) {pc : Nat} {Ls : Array Slot} (hret : meth.sig.returnType = none)
    (hd : decode c.code pc = .ok (.return_, 1)) {Q : Option Value → Heap → List Loc → Prop} {kc ks : Nat} (hQ : Q none T.heap locs) (h1 : cells ≤ kc) (h2 : slots ≤ ks) : OGo p e below (T.setTop (mkF m pc Ls [])) (OEnd s Q kc ks) := by
  obtain ⟨fs, hr, hrun, hended, hW, hsame⟩ := X.leave (v := none) (fun _ => rfl) hlk
  exact ⟨_, _, X.returnOut hx hret hd hr, hrun, hended, _, _, rfl, hQ, ⟨_, rfl⟩, hW, hsame.mono h1 h2⟩
/-- who pays a call: at these arguments and this heap -/
abbrev OBack (l : Launch) (R : Room) (p : Program) (e : Env) (below : List Frame) (s : State) (args : Array Value) (y : MethodName) (len W : Nat) (as' : Array Value) (h : Heap) (kc ks : Nat) (Q : Option Value → Heap → List Loc → Prop) : Prop :=
  Back l R p e below s args y len W (fun P a => a = as' ∧ P.U.heap = h ∧ P.cells + kc ≤ R.cells ∧ P.slots + ks ≤ R.slots) (fun P _ v B => ∃ L, Q v B.U.heap L ∧ B.locs = P.locs ++ L ∧ B.cells = P.cells + kc ∧ B.slots = P.slots + ks)
/-- a static call by the callee's contract -/
theorem own_callSK (X : Stand p l e R s m args below meth c T locs cells slots) (hx : p.tables.exec = Jvm.exec) (hZ : Z.Warmed39 s.vm) {own : String} {index : Nat} {y : MethodName} {bytes : ByteArray} {maxL : Nat} {ret : Option FieldType}
    (hown : s.vm.findClass own = some m.cls) (w1 : (Jvm.Cond.methodLink own index y).before a0 Z = true) (w2 : (Jvm.Cond.static y).before a0 Z = true) (w3 : (Jvm.Cond.initialized y.cls).before a0 Z = true)
    (w4 : (Jvm.Cond.code y bytes maxL ret).before a0 Z = true) (hy : y.cls ≠ "java/lang/invoke/MethodHandle" ∧ y.cls ≠ "java/lang/invoke/VarHandle")
    {W : Nat} {kc ks : Nat} {argsL rest : List Value} {Q : Option Value → Heap → List Loc → Prop} (hK : OBack l R p e below s args y 3 W argsL.toArray h kc ks Q) (eT : T.heap = h)
    {pc : Nat} {Ls : Array Slot} (hsize : Ls.size = c.maxLocals) (hlen : ∀ sig, parseMethodDescriptor y.desc = some sig → argsL.length = sig.parameters.length) (hW : (rest.map fun v => v.category).sum = W)
    (hd : decode c.code pc = .ok (.invokestatic index, 3)) (hc : cells + kc ≤ R.cells) (hs : slots + ks ≤ R.slots) {P : State → Outcome → Prop}
    (k : ∀ (v : Option Value) (T' : State) (L : List Loc), Stand p l e R s m args below meth c T' (locs ++ L) (cells + kc) (slots + ks) → Q v T'.heap L → OGo p e below (T'.setTop (mkF m (pc + 3) Ls (v.toList ++ rest))) P) :
    OGo p e below (T.setTop (mkF m pc Ls (argsL.reverse ++ rest))) P := by
  obtain ⟨v, vm, ⟨T', L', k', n'⟩, -, X', ⟨L, hQ, l1, y1, z1⟩, st⟩ := Jvm.LawKit.callS X hx (y := y) hown (mvT hZ w1) (mvT hZ w2) (mvT hZ w3) (mvT hZ w4) hy hK (g := mkF m pc Ls (argsL.reverse ++ rest)) rfl hsize (argsL := argsL) (rest := rest) hlen rfl
    (by show 2 * 0 + _ ≤ _; rw [hW]; omega) hd (fun _ _ => ⟨rfl, eT, hc, hs⟩)
  dsimp only [Pt.U, Pt.locs, Pt.cells, Pt.slots] at X' l1 y1 z1 st hQ
  subst l1 y1 z1
  exact OGo.step st (k v T' L X' hQ)
theorem own_callS (X : Stand p l e R s m args below meth c T locs cells slots) (hx : p.tables.exec = Jvm.exec) (hZ : Z.Warmed39 s.vm) {own : String} {index : Nat} {y : MethodName} {bytes : ByteArray} {maxL : Nat} {ret : Option FieldType}
    (hown : s.vm.findClass own = some m.cls) (w1 : (Jvm.Cond.methodLink own index y).before a0 Z = true) (w2 : (Jvm.Cond.static y).before a0 Z = true) (w3 : (Jvm.Cond.initialized y.cls).before a0 Z = true)
    (w4 : (Jvm.Cond.code y bytes maxL ret).before a0 Z = true) (hy : y.cls ≠ "java/lang/invoke/MethodHandle" ∧ y.cls ≠ "java/lang/invoke/VarHandle")
    {W : Nat} {rm : Room} {argsL rest : List Value} {Q : Option Value → Heap → List Loc → Prop} (hM : OMet l Z y bytes maxL ret [] rm argsL.toArray h Q) (eT : T.heap = h)
    {pc : Nat} {Ls : Array Slot} (hsize : Ls.size = c.maxLocals) (hlen : ∀ sig, parseMethodDescriptor y.desc = some sig → argsL.length = sig.parameters.length) (hW : (rest.map fun v => v.category).sum = W)
    (hd : decode c.code pc = .ok (.invokestatic index, 3)) (hf : rm.frames + 1 ≤ R.frames) (hl : W + (maxL + 11) + rm.locals ≤ R.locals) (hc : cells + rm.cells ≤ R.cells) (hs : slots + rm.slots ≤ R.slots) {P : State → Outcome → Prop}
    (k : ∀ (v : Option Value) (T' : State) (L : List Loc), Stand p l e R s m args below meth c T' (locs ++ L) (cells + rm.cells) (slots + rm.slots) → Q v T'.heap L → OGo p e below (T'.setTop (mkF m (pc + 3) Ls (v.toList ++ rest))) P) :
    OGo p e below (T.setTop (mkF m pc Ls (argsL.reverse ++ rest))) P := 
  own_callSK X hx hZ hown w1 w2 w3 w4 hy (backOf (W := W) hM hZ w4 w3 hf hl) eT hsize hlen hW hd hc hs k
/-- a constructor by its contract -/
theorem own_specialK (X : Stand p l e R s m args below meth c T locs cells slots) (hx : p.tables.exec = Jvm.exec) (hZ : Z.Warmed39 s.vm) {own : String} {index : Nat} {y : MethodName} {bytes : ByteArray} {maxL : Nat} (hy1 : y.name = "<init>")
    (hown : s.vm.findClass own = some m.cls) (w1 : (Jvm.Cond.methodLink own index y).before a0 Z = true) (w2 : (Jvm.Cond.instanceMethod y).before a0 Z = true)
    (w4 : (Jvm.Cond.code y bytes maxL none).before a0 Z = true) (hy : y.cls ≠ "java/lang/invoke/MethodHandle" ∧ y.cls ≠ "java/lang/invoke/VarHandle") {a : Addr}
    {W : Nat} {kc ks : Nat} {argsL rest : List Value} {Q : Option Value → Heap → List Loc → Prop} (hK : OBack l R p e below s args y 3 W (.ref a :: argsL).toArray h kc ks Q) (eT : T.heap = h)
    {pc : Nat} {Ls : Array Slot} (hsize : Ls.size = c.maxLocals) (hlen : ∀ sig, parseMethodDescriptor y.desc = some sig → argsL.length = sig.parameters.length) (hW : (rest.map fun v => v.category).sum = W)
    (hd : decode c.code pc = .ok (.invokespecial index, 3)) (hc : cells + kc ≤ R.cells) (hs : slots + ks ≤ R.slots) {P : State → Outcome → Prop}
    (k : ∀ (v : Option Value) (T' : State) (L : List Loc), Stand p l e R s m args below meth c T' (locs ++ L) (cells + kc) (slots + ks) → Q v T'.heap L → OGo p e below (T'.setTop (mkF m (pc + 3) Ls (v.toList ++ rest))) P) :
    OGo p e below (T.setTop (mkF m pc Ls (argsL.reverse ++ .ref a :: rest))) P := by
  obtain ⟨v, vm, ⟨T', L', k', n'⟩, -, X', ⟨L, hQ, l1, y1, z1⟩, st⟩ := X.specialBack hx (y := y) hy1 hown (mvT hZ w1) (mvT hZ w2) (mvT hZ w4) hy hK (g := mkF m pc Ls (argsL.reverse ++ .ref a :: rest)) rfl hsize (Steps.refl _) (a := a) (argsL := argsL) (rest := rest) hlen rfl
    (by show 2 * 0 + _ ≤ _; rw [hW]; omega) hd (fun _ _ => ⟨rfl, eT, hc, hs⟩)
  dsimp only [Pt.U, Pt.locs, Pt.cells, Pt.slots] at X' l1 y1 z1 st hQ
  subst l1 y1 z1
  exact OGo.step (fun _ kk => st.trans kk) (k v T' L X' hQ)
theorem own_special (X : Stand p l e R s m args below meth c T locs cells slots) (hx : p.tables.exec = Jvm.exec) (hZ : Z.Warmed39 s.vm) {own : String} {index : Nat} {y : MethodName} {bytes : ByteArray} {maxL : Nat} (hy1 : y.name = "<init>")
    (hown : s.vm.findClass own = some m.cls) (w1 : (Jvm.Cond.methodLink own index y).before a0 Z = true) (w2 : (Jvm.Cond.instanceMethod y).before a0 Z = true)
    (w4 : (Jvm.Cond.code y bytes maxL none).before a0 Z = true) (w3 : (Jvm.Cond.initialized y.cls).before a0 Z = true) (hy : y.cls ≠ "java/lang/invoke/MethodHandle" ∧ y.cls ≠ "java/lang/invoke/VarHandle") {a : Addr}
    {W : Nat} {rm : Room} {argsL rest : List Value} {Q : Option Value → Heap → List Loc → Prop} (hM : OMet l Z y bytes maxL none [] rm (.ref a :: argsL).toArray h Q) (eT : T.heap = h)
    {pc : Nat} {Ls : Array Slot} (hsize : Ls.size = c.maxLocals) (hlen : ∀ sig, parseMethodDescriptor y.desc = some sig → argsL.length = sig.parameters.length) (hW : (rest.map fun v => v.category).sum = W)
    (hd : decode c.code pc = .ok (.invokespecial index, 3)) (hf : rm.frames + 1 ≤ R.frames) (hl : W + (maxL + 11) + rm.locals ≤ R.locals) (hc : cells + rm.cells ≤ R.cells) (hs : slots + rm.slots ≤ R.slots) {P : State → Outcome → Prop}
    (k : ∀ (v : Option Value) (T' : State) (L : List Loc), Stand p l e R s m args below meth c T' (locs ++ L) (cells + rm.cells) (slots + rm.slots) → Q v T'.heap L → OGo p e below (T'.setTop (mkF m (pc + 3) Ls (v.toList ++ rest))) P) :
    OGo p e below (T.setTop (mkF m pc Ls (argsL.reverse ++ .ref a :: rest))) P := 
  own_specialK X hx hZ hy1 hown w1 w2 w4 hy (backOf (W := W) hM hZ w4 w3 hf hl) eT hsize hlen hW hd hc hs k
/-- an instance method by its contract -/
theorem own_virtualK (X : Stand p l e R s m args below meth c T locs cells slots) (hx : p.tables.exec = Jvm.exec) (hZ : Z.Warmed39 s.vm) {own C : String} {index : Nat} {y z : MethodName}
    (hown : s.vm.findClass own = some m.cls) (w1 : (Jvm.Cond.methodLink own index y).before a0 Z = true) (w2 : (Jvm.Cond.declares y).before a0 Z = true) (hnf : NotFace s y) (w5 : (Jvm.Cond.selects C y z).before a0 Z = true) (w6 : (Jvm.Cond.instanceMethod z).before a0 Z = true)
    (hy : y.cls ≠ "java/lang/invoke/MethodHandle" ∧ y.cls ≠ "java/lang/invoke/VarHandle") {b : Addr} (hb : Exa Z h b C)
    {W : Nat} {kc ks : Nat} {argsL rest : List Value} {Q : Option Value → Heap → List Loc → Prop} (hK : OBack l R p e below s args z 3 W (.ref b :: argsL).toArray h kc ks Q) (eT : T.heap = h)
    {pc : Nat} {Ls : Array Slot} (hsize : Ls.size = c.maxLocals) (hlen : ∀ sig, parseMethodDescriptor y.desc = some sig → argsL.length = sig.parameters.length) (hW : (rest.map fun v => v.category).sum = W)
    (hd : decode c.code pc = .ok (.invokevirtual index, 3)) (hc : cells + kc ≤ R.cells) (hs : slots + ks ≤ R.slots) {P : State → Outcome → Prop}
    (k : ∀ (v : Option Value) (T' : State) (L : List Loc), Stand p l e R s m args below meth c T' (locs ++ L) (cells + kc) (slots + ks) → Q v T'.heap L → OGo p e below (T'.setTop (mkF m (pc + 3) Ls (v.toList ++ rest))) P) :
    OGo p e below (T.setTop (mkF m pc Ls (argsL.reverse ++ .ref b :: rest))) P := by
  obtain ⟨cq, kq, qa, qb, qc⟩ := isOf hZ eT hb
  obtain ⟨v, vm, ⟨T', L', k', n'⟩, -, X', ⟨L, hQ, l1, y1, z1⟩, st⟩ := X.virtualBack hx (y := y) (z := z) hown (mvT hZ w1) (mvT hZ w2) hnf (mvT hZ w5) (mvT hZ w6) hy hK qa qc (g := mkF m pc Ls (argsL.reverse ++ .ref b :: rest)) rfl hsize (Steps.refl _) (argsL := argsL) (rest := rest) hlen rfl
    (by show 2 * 0 + _ ≤ _; rw [hW]; omega) hd (fun _ _ => ⟨rfl, eT, hc, hs⟩)
  dsimp only [Pt.U, Pt.locs, Pt.cells, Pt.slots] at X' l1 y1 z1 st hQ
  subst l1 y1 z1
  exact OGo.step (fun _ kk => st.trans kk) (k v T' L X' hQ)
theorem own_virtual (X : Stand p l e R s m args below meth c T locs cells slots) (hx : p.tables.exec = Jvm.exec) (hZ : Z.Warmed39 s.vm) {own C : String} {index : Nat} {y z : MethodName} {bytes : ByteArray} {maxL : Nat} {ret : Option FieldType}
    (hown : s.vm.findClass own = some m.cls) (w1 : (Jvm.Cond.methodLink own index y).before a0 Z = true) (w2 : (Jvm.Cond.declares y).before a0 Z = true) (hnf : NotFace s y) (w5 : (Jvm.Cond.selects C y z).before a0 Z = true) (w6 : (Jvm.Cond.instanceMethod z).before a0 Z = true)
    (hy : y.cls ≠ "java/lang/invoke/MethodHandle" ∧ y.cls ≠ "java/lang/invoke/VarHandle") (w4 : (Jvm.Cond.code z bytes maxL ret).before a0 Z = true) (w3 : (Jvm.Cond.initialized z.cls).before a0 Z = true) {b : Addr} (hb : Exa Z h b C)
    {W : Nat} {rm : Room} {argsL rest : List Value} {Q : Option Value → Heap → List Loc → Prop} (hM : OMet l Z z bytes maxL ret [] rm (.ref b :: argsL).toArray h Q) (eT : T.heap = h)
    {pc : Nat} {Ls : Array Slot} (hsize : Ls.size = c.maxLocals) (hlen : ∀ sig, parseMethodDescriptor y.desc = some sig → argsL.length = sig.parameters.length) (hW : (rest.map fun v => v.category).sum = W)
    (hd : decode c.code pc = .ok (.invokevirtual index, 3)) (hf : rm.frames + 1 ≤ R.frames) (hl : W + (maxL + 11) + rm.locals ≤ R.locals) (hc : cells + rm.cells ≤ R.cells) (hs : slots + rm.slots ≤ R.slots) {P : State → Outcome → Prop}
    (k : ∀ (v : Option Value) (T' : State) (L : List Loc), Stand p l e R s m args below meth c T' (locs ++ L) (cells + rm.cells) (slots + rm.slots) → Q v T'.heap L → OGo p e below (T'.setTop (mkF m (pc + 3) Ls (v.toList ++ rest))) P) :
    OGo p e below (T.setTop (mkF m pc Ls (argsL.reverse ++ .ref b :: rest))) P := 
  own_virtualK X hx hZ hown w1 w2 hnf w5 w6 hy hb (backOf (W := W) hM hZ w4 w3 hf hl) eT hsize hlen hW hd hc hs k
/-- an instance method that an ancestor declares, by its contract -/
theorem own_virtualUpK (X : Stand p l e R s m args below meth c T locs cells slots) (hx : p.tables.exec = Jvm.exec) (hZ : Z.Warmed39 s.vm) {own C owner : String} {index : Nat} {y z : MethodName}
    (hown : s.vm.findClass own = some m.cls) (w1 : (Jvm.Cond.methodLink own index y).before a0 Z = true) (w7 : (Jvm.Cond.sameMethod y.cls owner y.name y.desc).before a0 Z = true) (w2 : (Jvm.Cond.declares ⟨owner, y.name, y.desc⟩).before a0 Z = true) (w5 : (Jvm.Cond.selects C y z).before a0 Z = true) (w6 : (Jvm.Cond.instanceMethod z).before a0 Z = true)
    (hy : owner ≠ "java/lang/invoke/MethodHandle" ∧ owner ≠ "java/lang/invoke/VarHandle") {b : Addr} (hb : Exa Z h b C)
    {W : Nat} {kc ks : Nat} {argsL rest : List Value} {Q : Option Value → Heap → List Loc → Prop} (hK : OBack l R p e below s args z 3 W (.ref b :: argsL).toArray h kc ks Q) (eT : T.heap = h)
    {pc : Nat} {Ls : Array Slot} (hsize : Ls.size = c.maxLocals) (hlen : ∀ sig, parseMethodDescriptor y.desc = some sig → argsL.length = sig.parameters.length) (hW : (rest.map fun v => v.category).sum = W)
    (hd : decode c.code pc = .ok (.invokevirtual index, 3)) (hc : cells + kc ≤ R.cells) (hs : slots + ks ≤ R.slots) {P : State → Outcome → Prop}
    (k : ∀ (v : Option Value) (T' : State) (L : List Loc), Stand p l e R s m args below meth c T' (locs ++ L) (cells + kc) (slots + ks) → Q v T'.heap L → OGo p e below (T'.setTop (mkF m (pc + 3) Ls (v.toList ++ rest))) P) :
    OGo p e below (T.setTop (mkF m pc Ls (argsL.reverse ++ .ref b :: rest))) P := by
  obtain ⟨cq, kq, qa, qb, qc⟩ := isOf hZ eT hb
  obtain ⟨v, vm, ⟨T', L', k', n'⟩, -, X', ⟨L, hQ, l1, y1, z1⟩, st⟩ := X.virtualBackUp hx (x := y) (y := z) hown (mvT hZ w1) (mvT hZ w7) (mvT hZ w2) hy (mvT hZ w5) (mvT hZ w6) hK qa qc (g := mkF m pc Ls (argsL.reverse ++ .ref b :: rest)) rfl hsize (Steps.refl _) (argsL := argsL) (rest := rest) hlen rfl
    (by show 2 * 0 + _ ≤ _; rw [hW]; omega) hd (fun _ _ => ⟨rfl, eT, hc, hs⟩)
  dsimp only [Pt.U, Pt.locs, Pt.cells, Pt.slots] at X' l1 y1 z1 st hQ
  subst l1 y1 z1
  exact OGo.step (fun _ kk => st.trans kk) (k v T' L X' hQ)
theorem own_virtualUp (X : Stand p l e R s m args below meth c T locs cells slots) (hx : p.tables.exec = Jvm.exec) (hZ : Z.Warmed39 s.vm) {own C owner : String} {index : Nat} {y z : MethodName} {bytes : ByteArray} {maxL : Nat} {ret : Option FieldType}
    (hown : s.vm.findClass own = some m.cls) (w1 : (Jvm.Cond.methodLink own index y).before a0 Z = true) (w7 : (Jvm.Cond.sameMethod y.cls owner y.name y.desc).before a0 Z = true) (w2 : (Jvm.Cond.declares ⟨owner, y.name, y.desc⟩).before a0 Z = true) (w5 : (Jvm.Cond.selects C y z).before a0 Z = true) (w6 : (Jvm.Cond.instanceMethod z).before a0 Z = true)
    (hy : owner ≠ "java/lang/invoke/MethodHandle" ∧ owner ≠ "java/lang/invoke/VarHandle") (w4 : (Jvm.Cond.code z bytes maxL ret).before a0 Z = true) (w3 : (Jvm.Cond.initialized z.cls).before a0 Z = true) {b : Addr} (hb : Exa Z h b C)
    {W : Nat} {rm : Room} {argsL rest : List Value} {Q : Option Value → Heap → List Loc → Prop} (hM : OMet l Z z bytes maxL ret [] rm (.ref b :: argsL).toArray h Q) (eT : T.heap = h)
    {pc : Nat} {Ls : Array Slot} (hsize : Ls.size = c.maxLocals) (hlen : ∀ sig, parseMethodDescriptor y.desc = some sig → argsL.length = sig.parameters.length) (hW : (rest.map fun v => v.category).sum = W)
    (hd : decode c.code pc = .ok (.invokevirtual index, 3)) (hf : rm.frames + 1 ≤ R.frames) (hl : W + (maxL + 11) + rm.locals ≤ R.locals) (hc : cells + rm.cells ≤ R.cells) (hs : slots + rm.slots ≤ R.slots) {P : State → Outcome → Prop}
    (k : ∀ (v : Option Value) (T' : State) (L : List Loc), Stand p l e R s m args below meth c T' (locs ++ L) (cells + rm.cells) (slots + rm.slots) → Q v T'.heap L → OGo p e below (T'.setTop (mkF m (pc + 3) Ls (v.toList ++ rest))) P) :
    OGo p e below (T.setTop (mkF m pc Ls (argsL.reverse ++ .ref b :: rest))) P := 
  own_virtualUpK X hx hZ hown w1 w7 w2 w5 w6 hy hb (backOf (W := W) hM hZ w4 w3 hf hl) eT hsize hlen hW hd hc hs k
theorem own_cat {v : Value} (q : v.isRef = true) : v.category = 1 := by cases v <;> first | rfl | (simp [Value.isRef] at q)
theorem own_narR {v : Value} {t : FieldType} (q : v.isRef = true) (ht : t.isReference = true := by rfl) : narrow t v = v := by cases v <;> first | (simp [Value.isRef] at q; done) | (cases t <;> first | rfl | (cases ht))
theorem own_fitR {v : Value} {t : FieldType} (q : v.isRef = true) (ht : t.isReference = true := by rfl) : fits t v = true := by cases v <;> first | (simp [Value.isRef] at q; done) | (cases t <;> first | rfl | (cases ht))
theorem own_store1 {l l' : Array Slot} {i : Nat} {v : Value} {o : Slot} (hold : l[i]? = some o) (ho : o = .unset ∨ ∃ w, o = .val w ∧ w.category = 1) (hv : v.category = 1) (hl' : l.setIfInBounds i (.val v) = l' := by rfl) : storeLocals l i v = some l' := by
  rw [XS.store1 hold ho hv, hl']
end Own
theorem own_eqv {args : Array Value} {s : State} {a b : Term} {y : Value} (h : (Jvm.Cond.eq a b).value args s none s [] = some true) (hb : b.eval args s none [] s = some y) : a.eval args s none [] s = some y := by
  cases ha : a.eval args s none [] s with
  | none => simp [Cond.value, ha] at h
  | some x => cases x <;> cases y <;> simp_all [Cond.value]
theorem own_len {args : Array Value} {s : State} {t : Term} {a : Addr} {cl : Cell} {ty : FieldType} {n : Int32} (ev : t.eval args s none [] s = some (.ref a)) (A : Arr s s.heap a cl ty) (h : (Term.length t).eval args s none [] s = some (.int n)) : cl.slots.size < 2 ^ 31 ∧ cl.slots.size.toInt32 = n := by
  have ha : s.arrayAt? a = some cl := Arr.fin (State.WarmedH.refl s).alike A
  by_cases q : cl.slots.size < 2 ^ 31
  · rw [len_f ev ha q] at h
    exact ⟨q, Value.int.inj (Option.some.inj h)⟩
  · simp [Term.eval, ev, ha] at h
    omega
theorem own_elem {args : Array Value} {s : State} {t : Term} {a : Addr} {cl : Cell} {ty : FieldType} {j : Int32} {v : Value} (ev : t.eval args s none [] s = some (.ref a)) (A : Arr s s.heap a cl ty) (h : (Term.elem t (Term.int j)).eval args s none [] s = some v) (hn : ¬ j < 0 := by decide) : cl.slots[j.toNatClampNeg]? = some v := by
  have ha : s.arrayAt? a = some cl := Arr.fin (State.WarmedH.refl s).alike A
  rw [← elem_f ev (Term.int_eval j) ha hn]; exact h
theorem own_pd0 : parseMethodDescriptor "(Ljava/lang/Object;)Ljava/lang/Object;" = some ⟨[(.object "java/lang/Object")], some (.object "java/lang/Object")⟩ := by decide +kernel
theorem own_pd1 : parseMethodDescriptor "(Ljava/lang/Object;)V" = some ⟨[(.object "java/lang/Object")], none⟩ := by decide +kernel
theorem own_pd2 : parseMethodDescriptor "()[Lcom/example/tenantd/tenantd/RoleType;" = some ⟨[], some (.array (.object "com/example/tenantd/tenantd/RoleType"))⟩ := by decide +kernel
theorem own_pd3 : parseMethodDescriptor "(Ljava/lang/Object;)Ljava/util/Optional;" = some ⟨[(.object "java/lang/Object")], some (.object "java/util/Optional")⟩ := by decide +kernel
theorem own_pd4 : parseMethodDescriptor "()Ljava/util/Optional;" = some ⟨[], some (.object "java/util/Optional")⟩ := by decide +kernel
theorem own_pd5 : parseMethodDescriptor "(I)Ljava/util/Optional;" = some ⟨[.int], some (.object "java/util/Optional")⟩ := by decide +kernel
theorem own_pd6 : parseMethodDescriptor "(I)Lcom/example/tenantd/tenantd/RoleType;" = some ⟨[.int], some (.object "com/example/tenantd/tenantd/RoleType")⟩ := by decide +kernel
theorem own_pd7 : parseMethodDescriptor "()Z" = some ⟨[], some .boolean⟩ := by decide +kernel
theorem own_pd8 : parseMethodDescriptor "()Ljava/lang/Object;" = some ⟨[], some (.object "java/lang/Object")⟩ := by decide +kernel
theorem own_pn0 : plainName "java/util/Optional" = true := by first | (simp [plainName, overriddenIn]; done) | decide +kernel
theorem own_pn1 : plainName "java/util/Objects" = true := by first | (simp [plainName, overriddenIn]; done) | decide +kernel
theorem own_pn2 : plainName "com/example/tenantd/tenantd/RoleType" = true := by first | (simp [plainName, overriddenIn]; done) | decide +kernel
theorem own_pn3 : plainName "com/example/tenantd/tenantd/RoleTypeOfAccountTypePinLaw" = true := by first | (simp [plainName, overriddenIn]; done) | decide +kernel
theorem own_d_jdk_32_method_2_code_0 : decode jdk_32_method_2_code 0 = .ok (.aload_n 0, 1) := by decide +kernel
theorem own_d_jdk_32_method_2_code_1 : decode jdk_32_method_2_code 1 = .ok (.invokespecial 7, 3) := by decide +kernel
theorem own_d_jdk_32_method_2_code_4 : decode jdk_32_method_2_code 4 = .ok (.aload_n 0, 1) := by decide +kernel
theorem own_d_jdk_32_method_2_code_5 : decode jdk_32_method_2_code 5 = .ok (.aload_n 1, 1) := by decide +kernel
theorem own_d_jdk_32_method_2_code_6 : decode jdk_32_method_2_code 6 = .ok (.putfield 13, 3) := by decide +kernel
theorem own_d_jdk_32_method_2_code_9 : decode jdk_32_method_2_code 9 = .ok (.return_, 1) := by decide +kernel
theorem own_d_jdk_31_method_10_code_0 : decode jdk_31_method_10_code 0 = .ok (.aload_n 0, 1) := by decide +kernel
theorem own_d_jdk_31_method_10_code_1 : decode jdk_31_method_10_code 1 = .ok (.ifnonnull 11, 3) := by decide +kernel
theorem own_d_jdk_31_method_10_code_12 : decode jdk_31_method_10_code 12 = .ok (.aload_n 0, 1) := by decide +kernel
theorem own_d_jdk_31_method_10_code_13 : decode jdk_31_method_10_code 13 = .ok (.areturn, 1) := by decide +kernel
theorem own_d_jdk_32_method_3_code_0 : decode jdk_32_method_3_code 0 = .ok (.new 2, 3) := by decide +kernel
theorem own_d_jdk_32_method_3_code_3 : decode jdk_32_method_3_code 3 = .ok (.dup, 1) := by decide +kernel
theorem own_d_jdk_32_method_3_code_4 : decode jdk_32_method_3_code 4 = .ok (.aload_n 0, 1) := by decide +kernel
theorem own_d_jdk_32_method_3_code_5 : decode jdk_32_method_3_code 5 = .ok (.invokestatic 17, 3) := by decide +kernel
theorem own_d_jdk_32_method_3_code_8 : decode jdk_32_method_3_code 8 = .ok (.invokespecial 23, 3) := by decide +kernel
theorem own_d_jdk_32_method_3_code_11 : decode jdk_32_method_3_code 11 = .ok (.areturn, 1) := by decide +kernel
theorem own_d_jdk_32_method_1_code_0 : decode jdk_32_method_1_code 0 = .ok (.getstatic 1, 3) := by decide +kernel
theorem own_d_jdk_32_method_1_code_3 : decode jdk_32_method_1_code 3 = .ok (.astore_n 0, 1) := by decide +kernel
theorem own_d_jdk_32_method_1_code_4 : decode jdk_32_method_1_code 4 = .ok (.aload_n 0, 1) := by decide +kernel
theorem own_d_jdk_32_method_1_code_5 : decode jdk_32_method_1_code 5 = .ok (.areturn, 1) := by decide +kernel
theorem own_d_prog_11_method_1_code_0 : decode prog_11_method_1_code 0 = .ok (.getstatic 16, 3) := by decide +kernel
theorem own_d_prog_11_method_1_code_3 : decode prog_11_method_1_code 3 = .ok (.invokevirtual 20, 3) := by decide +kernel
theorem own_d_prog_11_method_1_code_6 : decode prog_11_method_1_code 6 = .ok (.checkcast 21, 3) := by decide +kernel
theorem own_d_prog_11_method_1_code_9 : decode prog_11_method_1_code 9 = .ok (.areturn, 1) := by decide +kernel
theorem own_d_prog_11_method_7_code_0 : decode prog_11_method_7_code 0 = .ok (.invokestatic 46, 3) := by decide +kernel
theorem own_d_prog_11_method_7_code_3 : decode prog_11_method_7_code 3 = .ok (.astore_n 1, 1) := by decide +kernel
theorem own_d_prog_11_method_7_code_4 : decode prog_11_method_7_code 4 = .ok (.aload_n 1, 1) := by decide +kernel
theorem own_d_prog_11_method_7_code_5 : decode prog_11_method_7_code 5 = .ok (.arraylength, 1) := by decide +kernel
theorem own_d_prog_11_method_7_code_6 : decode prog_11_method_7_code 6 = .ok (.istore_n 2, 1) := by decide +kernel
theorem own_d_prog_11_method_7_code_7 : decode prog_11_method_7_code 7 = .ok (.iconst 0, 1) := by decide +kernel
theorem own_d_prog_11_method_7_code_8 : decode prog_11_method_7_code 8 = .ok (.istore_n 3, 1) := by decide +kernel
theorem own_d_prog_11_method_7_code_9 : decode prog_11_method_7_code 9 = .ok (.iload_n 3, 1) := by decide +kernel
theorem own_d_prog_11_method_7_code_10 : decode prog_11_method_7_code 10 = .ok (.iload_n 2, 1) := by decide +kernel
theorem own_d_prog_11_method_7_code_11 : decode prog_11_method_7_code 11 = .ok (.if_icmp .ge 29, 3) := by decide +kernel
theorem own_d_prog_11_method_7_code_14 : decode prog_11_method_7_code 14 = .ok (.aload_n 1, 1) := by decide +kernel
theorem own_d_prog_11_method_7_code_15 : decode prog_11_method_7_code 15 = .ok (.iload_n 3, 1) := by decide +kernel
theorem own_d_prog_11_method_7_code_16 : decode prog_11_method_7_code 16 = .ok (.aaload, 1) := by decide +kernel
theorem own_d_prog_11_method_7_code_17 : decode prog_11_method_7_code 17 = .ok (.astore 4, 2) := by decide +kernel
theorem own_d_prog_11_method_7_code_19 : decode prog_11_method_7_code 19 = .ok (.aload 4, 2) := by decide +kernel
theorem own_d_prog_11_method_7_code_21 : decode prog_11_method_7_code 21 = .ok (.getfield 42, 3) := by decide +kernel
theorem own_d_prog_11_method_7_code_24 : decode prog_11_method_7_code 24 = .ok (.iload_n 0, 1) := by decide +kernel
theorem own_d_prog_11_method_7_code_25 : decode prog_11_method_7_code 25 = .ok (.if_icmp .ne 9, 3) := by decide +kernel
theorem own_d_prog_11_method_7_code_28 : decode prog_11_method_7_code 28 = .ok (.aload 4, 2) := by decide +kernel
theorem own_d_prog_11_method_7_code_30 : decode prog_11_method_7_code 30 = .ok (.invokestatic 50, 3) := by decide +kernel
theorem own_d_prog_11_method_7_code_33 : decode prog_11_method_7_code 33 = .ok (.areturn, 1) := by decide +kernel
theorem own_d_prog_11_method_7_code_34 : decode prog_11_method_7_code 34 = .ok (.iinc 3 1, 3) := by decide +kernel
theorem own_d_prog_11_method_7_code_37 : decode prog_11_method_7_code 37 = .ok (.goto (-28), 3) := by decide +kernel
theorem own_d_prog_11_method_7_code_40 : decode prog_11_method_7_code 40 = .ok (.invokestatic 56, 3) := by decide +kernel
theorem own_d_prog_11_method_7_code_43 : decode prog_11_method_7_code 43 = .ok (.areturn, 1) := by decide +kernel
theorem own_d_method_3_code_0 : decode method_3_code 0 = .ok (.iload_n 0, 1) := by decide +kernel
theorem own_d_method_3_code_1 : decode method_3_code 1 = .ok (.ifCond .ne 7, 3) := by decide +kernel
theorem own_d_method_3_code_4 : decode method_3_code 4 = .ok (.getstatic 29, 3) := by decide +kernel
theorem own_d_method_3_code_7 : decode method_3_code 7 = .ok (.areturn, 1) := by decide +kernel
theorem own_d_method_3_code_8 : decode method_3_code 8 = .ok (.iload_n 0, 1) := by decide +kernel
theorem own_d_method_3_code_9 : decode method_3_code 9 = .ok (.iconst 1, 1) := by decide +kernel
theorem own_d_method_3_code_10 : decode method_3_code 10 = .ok (.if_icmp .ne 7, 3) := by decide +kernel
theorem own_d_method_3_code_13 : decode method_3_code 13 = .ok (.getstatic 33, 3) := by decide +kernel
theorem own_d_method_3_code_16 : decode method_3_code 16 = .ok (.areturn, 1) := by decide +kernel
theorem own_d_method_3_code_17 : decode method_3_code 17 = .ok (.iload_n 0, 1) := by decide +kernel
theorem own_d_method_3_code_18 : decode method_3_code 18 = .ok (.iconst 2, 1) := by decide +kernel
theorem own_d_method_3_code_19 : decode method_3_code 19 = .ok (.if_icmp .ne 7, 3) := by decide +kernel
theorem own_d_method_3_code_22 : decode method_3_code 22 = .ok (.getstatic 36, 3) := by decide +kernel
theorem own_d_method_3_code_25 : decode method_3_code 25 = .ok (.areturn, 1) := by decide +kernel
theorem own_d_method_3_code_26 : decode method_3_code 26 = .ok (.iload_n 0, 1) := by decide +kernel
theorem own_d_method_3_code_27 : decode method_3_code 27 = .ok (.iconst 3, 1) := by decide +kernel
theorem own_d_method_3_code_28 : decode method_3_code 28 = .ok (.if_icmp .ne 7, 3) := by decide +kernel
theorem own_d_method_3_code_31 : decode method_3_code 31 = .ok (.getstatic 39, 3) := by decide +kernel
theorem own_d_method_3_code_34 : decode method_3_code 34 = .ok (.areturn, 1) := by decide +kernel
theorem own_d_method_3_code_35 : decode method_3_code 35 = .ok (.aconst_null, 1) := by decide +kernel
theorem own_d_method_3_code_36 : decode method_3_code 36 = .ok (.areturn, 1) := by decide +kernel
theorem own_d_jdk_32_method_6_code_0 : decode jdk_32_method_6_code 0 = .ok (.aload_n 0, 1) := by decide +kernel
theorem own_d_jdk_32_method_6_code_1 : decode jdk_32_method_6_code 1 = .ok (.getfield 13, 3) := by decide +kernel
theorem own_d_jdk_32_method_6_code_4 : decode jdk_32_method_6_code 4 = .ok (.ifnull 7, 3) := by decide +kernel
theorem own_d_jdk_32_method_6_code_11 : decode jdk_32_method_6_code 11 = .ok (.iconst 0, 1) := by decide +kernel
theorem own_d_jdk_32_method_6_code_12 : decode jdk_32_method_6_code 12 = .ok (.ireturn, 1) := by decide +kernel
theorem own_d_jdk_32_method_6_code_7 : decode jdk_32_method_6_code 7 = .ok (.iconst 1, 1) := by decide +kernel
theorem own_d_jdk_32_method_6_code_8 : decode jdk_32_method_6_code 8 = .ok (.goto 4, 3) := by decide +kernel
theorem own_d_jdk_32_method_5_code_0 : decode jdk_32_method_5_code 0 = .ok (.aload_n 0, 1) := by decide +kernel
theorem own_d_jdk_32_method_5_code_1 : decode jdk_32_method_5_code 1 = .ok (.getfield 13, 3) := by decide +kernel
theorem own_d_jdk_32_method_5_code_4 : decode jdk_32_method_5_code 4 = .ok (.ifnonnull 13, 3) := by decide +kernel
theorem own_d_jdk_32_method_5_code_17 : decode jdk_32_method_5_code 17 = .ok (.aload_n 0, 1) := by decide +kernel
theorem own_d_jdk_32_method_5_code_18 : decode jdk_32_method_5_code 18 = .ok (.getfield 13, 3) := by decide +kernel
theorem own_d_jdk_32_method_5_code_21 : decode jdk_32_method_5_code 21 = .ok (.areturn, 1) := by decide +kernel

def own_acc (a : Int32) (r0 r1 r2 r3 : Addr) : Value := if a = 0 then .ref r3 else if a = 1 then .ref r0 else if a = 2 then .ref r2 else if a = 3 then .ref r1 else .null
theorem own_acc_ref (a : Int32) (r0 r1 r2 r3 : Addr) : (own_acc a r0 r1 r2 r3).isRef = true := by
  unfold own_acc; split <;> (try rfl) <;> split <;> (try rfl) <;> split <;> (try rfl) <;> split <;> rfl

set_option maxRecDepth 65536 in
set_option maxHeartbeats 40000000 in
theorem own_rm5 (l : Launch) (Z : State) (a0 : Array Value) (hw : ∀ d ∈ tables_1, d.before a0 Z = true) (ws : List Jvm.Cond) (a1 k1 : Addr) (u1 : Value) (h0 : Heap) (n0 : Nat) (Z0 : n0 ≤ h0.size) (E1 : Exa Z h0 a1 "java/util/Optional") (F1 : Fld Z h0 a1 "java/util/Optional" "value" "Ljava/lang/Object;" u1) (g1 : n0 ≤ a1) :
    OMet l Z (⟨"java/util/Optional", "<init>", "(Ljava/lang/Object;)V"⟩ : MethodName) jdk_32_method_2_code 2 none ws ({ frames := 1, cells := 0, slots := 0, locals := 12 } : Room) #[(.ref a1), (.ref k1)] h0 (fun v h L => v = none ∧ Fr n0 L ∧ Keep h0 h [a1] ∧ Exa Z h a1 "java/util/Optional" ∧ Fld Z h a1 "java/util/Optional" "value" "Ljava/lang/Object;" (.ref k1)) := by
  refine OMet.body (plainFor_of_name own_pn0) ?_
  intro p e s m below meth c s₁ hx hby hml hown hnm hret hlk hZ X0 e0
  refine OGo.step (fun _ kk => castTop (show entryFrame m #[(.ref a1), (.ref k1)] 2 = (mkF m 0 #[.val (.ref a1), .val (.ref k1)] []) from by first | (simp [entryFrame, mkF, argsToLocals, Value.category]; done) | rfl) kk) ?_
  show OGo p e below (s₁.setTop (mkF m 0 #[.val (.ref a1), .val (.ref k1)] [])) (OEnd s (fun v h L => v = none ∧ Fr n0 L ∧ Keep h0 h [a1] ∧ Exa Z h a1 "java/util/Optional" ∧ Fld Z h a1 "java/util/Optional" "value" "Ljava/lang/Object;" (.ref k1)) ({ frames := 1, cells := 0, slots := 0, locals := 12 } : Room).cells ({ frames := 1, cells := 0, slots := 0, locals := 12 } : Room).slots)
  have N0 := Fr.nil n0
  refine OGo.step (fun _ kk => XS.aloadN X0.here hx rfl (hb hby own_d_jdk_32_method_2_code_0) rfl rfl kk) ?_
  show OGo p e below (s₁.setTop (mkF m 1 #[.val (.ref a1), .val (.ref k1)] [(.ref a1)])) (OEnd s (fun v h L => v = none ∧ Fr n0 L ∧ Keep h0 h [a1] ∧ Exa Z h a1 "java/util/Optional" ∧ Fld Z h a1 "java/util/Optional" "value" "Ljava/lang/Object;" (.ref k1)) ({ frames := 1, cells := 0, slots := 0, locals := 12 } : Room).cells ({ frames := 1, cells := 0, slots := 0, locals := 12 } : Room).slots)
  obtain ⟨T1, X1, e1, st1⟩ := initO X0 hx hZ hown (hw _ (List.mem_of_getElem? (i := 39) rfl)) (hw _ (List.mem_of_getElem? (i := 40) rfl)) (hw _ (List.mem_of_getElem? (i := 41) rfl)) e0 (g := (mkF m 1 #[.val (.ref a1), .val (.ref k1)] [(.ref a1)])) rfl (by rw [hml]; rfl) rfl (hb hby own_d_jdk_32_method_2_code_1) (by decide) (W := 0) (by show 2 * 0 + _ ≤ _; exact Nat.le_of_eq rfl) (by decide)
  refine OGo.step st1 ?_
  show OGo p e below (T1.setTop (mkF m 4 #[.val (.ref a1), .val (.ref k1)] [])) (OEnd s (fun v h L => v = none ∧ Fr n0 L ∧ Keep h0 h [a1] ∧ Exa Z h a1 "java/util/Optional" ∧ Fld Z h a1 "java/util/Optional" "value" "Ljava/lang/Object;" (.ref k1)) ({ frames := 1, cells := 0, slots := 0, locals := 12 } : Room).cells ({ frames := 1, cells := 0, slots := 0, locals := 12 } : Room).slots)
  refine OGo.step (fun _ kk => XS.aloadN X1.here hx rfl (hb hby own_d_jdk_32_method_2_code_4) rfl rfl kk) ?_
  show OGo p e below (T1.setTop (mkF m 5 #[.val (.ref a1), .val (.ref k1)] [(.ref a1)])) (OEnd s (fun v h L => v = none ∧ Fr n0 L ∧ Keep h0 h [a1] ∧ Exa Z h a1 "java/util/Optional" ∧ Fld Z h a1 "java/util/Optional" "value" "Ljava/lang/Object;" (.ref k1)) ({ frames := 1, cells := 0, slots := 0, locals := 12 } : Room).cells ({ frames := 1, cells := 0, slots := 0, locals := 12 } : Room).slots)
  refine OGo.step (fun _ kk => XS.aloadN X1.here hx rfl (hb hby own_d_jdk_32_method_2_code_5) rfl rfl kk) ?_
  show OGo p e below (T1.setTop (mkF m 6 #[.val (.ref a1), .val (.ref k1)] [(.ref k1), (.ref a1)])) (OEnd s (fun v h L => v = none ∧ Fr n0 L ∧ Keep h0 h [a1] ∧ Exa Z h a1 "java/util/Optional" ∧ Fld Z h a1 "java/util/Optional" "value" "Ljava/lang/Object;" (.ref k1)) ({ frames := 1, cells := 0, slots := 0, locals := 12 } : Room).cells ({ frames := 1, cells := 0, slots := 0, locals := 12 } : Room).slots)
  obtain ⟨T2, h2, X2, e2, W2, st2⟩ := putF X1 hx hZ hown (host := "") (Or.inl (hw _ (List.mem_of_getElem? (i := 42) rfl))) Via.refl e1 F1 E1 (Or.inr ⟨(hw _ (List.mem_of_getElem? (i := 43) rfl)), rfl, hnm⟩) (hw _ (List.mem_of_getElem? (i := 30) rfl)) (ty := (.object "java/lang/Object")) (by decide) rfl rfl (g := (mkF m 6 #[.val (.ref a1), .val (.ref k1)] [(.ref k1), (.ref a1)])) rfl rfl (hb hby own_d_jdk_32_method_2_code_6)
  refine OGo.step st2 ?_
  show OGo p e below (T2.setTop (mkF m 9 #[.val (.ref a1), .val (.ref k1)] [])) (OEnd s (fun v h L => v = none ∧ Fr n0 L ∧ Keep h0 h [a1] ∧ Exa Z h a1 "java/util/Optional" ∧ Fld Z h a1 "java/util/Optional" "value" "Ljava/lang/Object;" (.ref k1)) ({ frames := 1, cells := 0, slots := 0, locals := 12 } : Room).cells ({ frames := 1, cells := 0, slots := 0, locals := 12 } : Room).slots)
  exact own_ret0 X2 hx hlk hret (hb hby own_d_jdk_32_method_2_code_9) (by rw [e2]; exact ⟨rfl, Fr.snoc X2 N0 g1, (Keep.refl h0 [a1]).wr W2 (Or.inl (List.mem_of_getElem? (i := 0) rfl)), E1.wr W2, F1.same W2⟩) (by decide) (by decide)

set_option maxRecDepth 65536 in
set_option maxHeartbeats 40000000 in
theorem own_rm4 (l : Launch) (Z : State) (a0 : Array Value) (hw : ∀ d ∈ tables_1, d.before a0 Z = true) (ws : List Jvm.Cond) (a1 : Addr) (h0 : Heap) (n0 : Nat) (Z0 : n0 ≤ h0.size)  :
    OMet l Z (⟨"java/util/Objects", "requireNonNull", "(Ljava/lang/Object;)Ljava/lang/Object;"⟩ : MethodName) jdk_31_method_10_code 1 (some (.object "java/lang/Object")) ws ({ frames := 0, cells := 0, slots := 0, locals := 0 } : Room) #[(.ref a1)] h0 (fun v h L => v = some (.ref a1) ∧ Fr n0 L ∧ h = h0) := by
  refine OMet.body (plainFor_of_name own_pn1) ?_
  intro p e s m below meth c s₁ hx hby hml hown hnm hret hlk hZ X0 e0
  refine OGo.step (fun _ kk => castTop (show entryFrame m #[(.ref a1)] 1 = (mkF m 0 #[.val (.ref a1)] []) from by first | (simp [entryFrame, mkF, argsToLocals, Value.category]; done) | rfl) kk) ?_
  show OGo p e below (s₁.setTop (mkF m 0 #[.val (.ref a1)] [])) (OEnd s (fun v h L => v = some (.ref a1) ∧ Fr n0 L ∧ h = h0) ({ frames := 0, cells := 0, slots := 0, locals := 0 } : Room).cells ({ frames := 0, cells := 0, slots := 0, locals := 0 } : Room).slots)
  have N0 := Fr.nil n0
  refine OGo.step (fun _ kk => XS.aloadN X0.here hx rfl (hb hby own_d_jdk_31_method_10_code_0) rfl rfl kk) ?_
  show OGo p e below (s₁.setTop (mkF m 1 #[.val (.ref a1)] [(.ref a1)])) (OEnd s (fun v h L => v = some (.ref a1) ∧ Fr n0 L ∧ h = h0) ({ frames := 0, cells := 0, slots := 0, locals := 0 } : Room).cells ({ frames := 0, cells := 0, slots := 0, locals := 0 } : Room).slots)
  refine OGo.step (fun _ kk => XS.ifnonnullYes X0.here hx rfl (pc0 := 1) (pc' := 12) rfl (hb hby own_d_jdk_31_method_10_code_1) rfl (by decide) (by decide) kk) ?_
  show OGo p e below (s₁.setTop (mkF m 12 #[.val (.ref a1)] [])) (OEnd s (fun v h L => v = some (.ref a1) ∧ Fr n0 L ∧ h = h0) ({ frames := 0, cells := 0, slots := 0, locals := 0 } : Room).cells ({ frames := 0, cells := 0, slots := 0, locals := 0 } : Room).slots)
  refine OGo.step (fun _ kk => XS.aloadN X0.here hx rfl (hb hby own_d_jdk_31_method_10_code_12) rfl rfl kk) ?_
  show OGo p e below (s₁.setTop (mkF m 13 #[.val (.ref a1)] [(.ref a1)])) (OEnd s (fun v h L => v = some (.ref a1) ∧ Fr n0 L ∧ h = h0) ({ frames := 0, cells := 0, slots := 0, locals := 0 } : Room).cells ({ frames := 0, cells := 0, slots := 0, locals := 0 } : Room).slots)
  exact own_ret X0 hx hlk hret rfl (Or.inr (Or.inr (Or.inr (Or.inr ⟨rfl, rfl, rfl⟩)))) (hb hby own_d_jdk_31_method_10_code_13) ⟨rfl, N0, e0⟩ (by decide) (by decide)

set_option maxRecDepth 65536 in
set_option maxHeartbeats 40000000 in
theorem own_rm3 (l : Launch) (Z : State) (a0 : Array Value) (hw : ∀ d ∈ tables_1, d.before a0 Z = true) (ws : List Jvm.Cond) (k1 : Addr) (h0 : Heap) (n0 : Nat) (Z0 : n0 ≤ h0.size) (O0 : Old Z n0 h0) :
    OMet l Z (⟨"java/util/Optional", "of", "(Ljava/lang/Object;)Ljava/util/Optional;"⟩ : MethodName) jdk_32_method_3_code 1 (some (.object "java/util/Optional")) ws ({ frames := 2, cells := 1, slots := 1, locals := 26 } : Room) #[(.ref k1)] h0 (fun v h L => ∃ b : Addr, v = some (.ref b) ∧ n0 ≤ b ∧ Fr n0 L ∧ Old Z n0 h ∧ Exa Z h b "java/util/Optional" ∧ Fld Z h b "java/util/Optional" "value" "Ljava/lang/Object;" (.ref k1)) := by
  refine OMet.body (plainFor_of_name own_pn0) ?_
  intro p e s m below meth c s₁ hx hby hml hown hnm hret hlk hZ X0 e0
  refine OGo.step (fun _ kk => castTop (show entryFrame m #[(.ref k1)] 1 = (mkF m 0 #[.val (.ref k1)] []) from by first | (simp [entryFrame, mkF, argsToLocals, Value.category]; done) | rfl) kk) ?_
  show OGo p e below (s₁.setTop (mkF m 0 #[.val (.ref k1)] [])) (OEnd s (fun v h L => ∃ b : Addr, v = some (.ref b) ∧ n0 ≤ b ∧ Fr n0 L ∧ Old Z n0 h ∧ Exa Z h b "java/util/Optional" ∧ Fld Z h b "java/util/Optional" "value" "Ljava/lang/Object;" (.ref k1)) ({ frames := 2, cells := 1, slots := 1, locals := 26 } : Room).cells ({ frames := 2, cells := 1, slots := 1, locals := 26 } : Room).slots)
  have N0 := Fr.nil n0
  obtain ⟨T3, h3, X3, e3, E3, A3, D3, U3, st3⟩ := newO X0 hx hZ hown (hw _ (List.mem_of_getElem? (i := 29) rfl)) (hw _ (List.mem_of_getElem? (i := 30) rfl)) (hw _ (List.mem_of_getElem? (i := 27) rfl)) e0 (g := (mkF m 0 #[.val (.ref k1)] [])) rfl (hb hby own_d_jdk_32_method_3_code_0) (by decide) (by decide)
  obtain ⟨b, g3⟩ : ∃ z, z = h0.size := ⟨_, rfl⟩
  rw [← g3] at A3 D3 U3 st3
  refine OGo.step st3 ?_
  show OGo p e below (T3.setTop (mkF m 3 #[.val (.ref k1)] [(.ref b)])) (OEnd s (fun v h L => ∃ b : Addr, v = some (.ref b) ∧ n0 ≤ b ∧ Fr n0 L ∧ Old Z n0 h ∧ Exa Z h b "java/util/Optional" ∧ Fld Z h b "java/util/Optional" "value" "Ljava/lang/Object;" (.ref k1)) ({ frames := 2, cells := 1, slots := 1, locals := 26 } : Room).cells ({ frames := 2, cells := 1, slots := 1, locals := 26 } : Room).slots)
  have O1 := O0.ext E3
  have gb : n0 ≤ b := Nat.le_trans Z0 (Nat.le_of_eq g3.symm)
  have F1 : Fld Z h3 b "java/util/Optional" "value" "Ljava/lang/Object;" .null := D3 (Or.inr (hw _ (List.mem_of_getElem? (i := 43) rfl))) (ty := (.object "java/lang/Object")) (by decide)
  refine OGo.step (fun _ kk => XS.dup X3.here hx rfl (hb hby own_d_jdk_32_method_3_code_3) rfl rfl kk) ?_
  show OGo p e below (T3.setTop (mkF m 4 #[.val (.ref k1)] [(.ref b), (.ref b)])) (OEnd s (fun v h L => ∃ b : Addr, v = some (.ref b) ∧ n0 ≤ b ∧ Fr n0 L ∧ Old Z n0 h ∧ Exa Z h b "java/util/Optional" ∧ Fld Z h b "java/util/Optional" "value" "Ljava/lang/Object;" (.ref k1)) ({ frames := 2, cells := 1, slots := 1, locals := 26 } : Room).cells ({ frames := 2, cells := 1, slots := 1, locals := 26 } : Room).slots)
  refine OGo.step (fun _ kk => XS.aloadN X3.here hx rfl (hb hby own_d_jdk_32_method_3_code_4) rfl rfl kk) ?_
  show OGo p e below (T3.setTop (mkF m 5 #[.val (.ref k1)] [(.ref k1), (.ref b), (.ref b)])) (OEnd s (fun v h L => ∃ b : Addr, v = some (.ref b) ∧ n0 ≤ b ∧ Fr n0 L ∧ Old Z n0 h ∧ Exa Z h b "java/util/Optional" ∧ Fld Z h b "java/util/Optional" "value" "Ljava/lang/Object;" (.ref k1)) ({ frames := 2, cells := 1, slots := 1, locals := 26 } : Room).cells ({ frames := 2, cells := 1, slots := 1, locals := 26 } : Room).slots)
  refine own_callS X3 hx hZ (y := (⟨"java/util/Objects", "requireNonNull", "(Ljava/lang/Object;)Ljava/lang/Object;"⟩ : MethodName)) hown (hw _ (List.mem_of_getElem? (i := 31) rfl)) (hw _ (List.mem_of_getElem? (i := 32) rfl)) (hw _ (List.mem_of_getElem? (i := 33) rfl)) (hw _ (List.mem_of_getElem? (i := 34) rfl)) (by decide) (W := 2) (own_rm4 l Z a0 hw [] k1 h3 n0 (Nat.le_trans Z0 E3.1)) e3  (pc := 5) (Ls := #[.val (.ref k1)]) (argsL := [(.ref k1)]) (rest := [(.ref b), (.ref b)]) (by rw [hml]; rfl) (lenOf own_pd0 rfl) rfl (hb hby own_d_jdk_32_method_3_code_5) (by decide) (by decide) (by decide) (by decide) ?_
  intro v4 T4 L4 X4 hQ4
  obtain ⟨rfl, N4, e4⟩ := hQ4
  show OGo p e below (T4.setTop (mkF m 8 #[.val (.ref k1)] [(.ref k1), (.ref b), (.ref b)])) (OEnd s (fun v h L => ∃ b : Addr, v = some (.ref b) ∧ n0 ≤ b ∧ Fr n0 L ∧ Old Z n0 h ∧ Exa Z h b "java/util/Optional" ∧ Fld Z h b "java/util/Optional" "value" "Ljava/lang/Object;" (.ref k1)) ({ frames := 2, cells := 1, slots := 1, locals := 26 } : Room).cells ({ frames := 2, cells := 1, slots := 1, locals := 26 } : Room).slots)
  refine own_special X4 hx hZ (y := (⟨"java/util/Optional", "<init>", "(Ljava/lang/Object;)V"⟩ : MethodName)) rfl hown (hw _ (List.mem_of_getElem? (i := 35) rfl)) (hw _ (List.mem_of_getElem? (i := 36) rfl)) (hw _ (List.mem_of_getElem? (i := 38) rfl)) (hw _ (List.mem_of_getElem? (i := 27) rfl)) (by decide) (a := b) (W := 1) (own_rm5 l Z a0 hw [] b k1 _ h3 n0 (Nat.le_trans Z0 E3.1) A3 F1 gb) e4  (pc := 8) (Ls := #[.val (.ref k1)]) (argsL := [(.ref k1)]) (rest := [(.ref b)]) (by rw [hml]; rfl) (lenOf own_pd1 rfl) rfl (hb hby own_d_jdk_32_method_3_code_8) (by decide) (by decide) (by decide) (by decide) ?_
  intro v5 T5 L5 X5 hQ5
  obtain ⟨rfl, N5, K5, Eb, Gv⟩ := hQ5
  show OGo p e below (T5.setTop (mkF m 11 #[.val (.ref k1)] [(.ref b)])) (OEnd s (fun v h L => ∃ b : Addr, v = some (.ref b) ∧ n0 ≤ b ∧ Fr n0 L ∧ Old Z n0 h ∧ Exa Z h b "java/util/Optional" ∧ Fld Z h b "java/util/Optional" "value" "Ljava/lang/Object;" (.ref k1)) ({ frames := 2, cells := 1, slots := 1, locals := 26 } : Room).cells ({ frames := 2, cells := 1, slots := 1, locals := 26 } : Room).slots)
  exact own_ret X5 hx hlk hret rfl (Or.inr (Or.inr (Or.inr (Or.inr ⟨rfl, rfl, rfl⟩)))) (hb hby own_d_jdk_32_method_3_code_11) ⟨b, rfl, gb, (N0.app N4).app N5, O1.keep K5 (allS gb all0), Eb, Gv⟩ (by decide) (by decide)

set_option maxRecDepth 65536 in
set_option maxHeartbeats 40000000 in
theorem own_rm10 (l : Launch) (Z : State) (a0 : Array Value) (hw : ∀ d ∈ tables_1, d.before a0 Z = true) (ws : List Jvm.Cond) (eo : Addr) (h0 : Heap) (n0 : Nat) (Z0 : n0 ≤ h0.size) (SE : Sta Z Z.heap "java/util/Optional" "EMPTY" "Ljava/util/Optional;" (.ref eo)) (O0 : Old Z n0 h0) :
    OMet l Z (⟨"java/util/Optional", "empty", "()Ljava/util/Optional;"⟩ : MethodName) jdk_32_method_1_code 1 (some (.object "java/util/Optional")) ws ({ frames := 0, cells := 0, slots := 0, locals := 0 } : Room) #[] h0 (fun v h L => v = some (.ref eo) ∧ Fr n0 L ∧ h = h0) := by
  refine OMet.body (plainFor_of_name own_pn0) ?_
  intro p e s m below meth c s₁ hx hby hml hown hnm hret hlk hZ X0 e0
  refine OGo.step (fun _ kk => castTop (show entryFrame m #[] 1 = (mkF m 0 #[.unset] []) from by first | (simp [entryFrame, mkF, argsToLocals, Value.category]; done) | rfl) kk) ?_
  show OGo p e below (s₁.setTop (mkF m 0 #[.unset] [])) (OEnd s (fun v h L => v = some (.ref eo) ∧ Fr n0 L ∧ h = h0) ({ frames := 0, cells := 0, slots := 0, locals := 0 } : Room).cells ({ frames := 0, cells := 0, slots := 0, locals := 0 } : Room).slots)
  have N0 := Fr.nil n0
  obtain ⟨T6, X6, e6, st6⟩ := getS2 X0 hx hZ hown (host := "") (Or.inl (hw _ (List.mem_of_getElem? (i := 62) rfl))) Via.refl e0 (SE.ext O0.2) (g := (mkF m 0 #[.unset] [])) rfl (hb hby own_d_jdk_32_method_1_code_0)
  refine OGo.step st6 ?_
  show OGo p e below (T6.setTop (mkF m 3 #[.unset] [(.ref eo)])) (OEnd s (fun v h L => v = some (.ref eo) ∧ Fr n0 L ∧ h = h0) ({ frames := 0, cells := 0, slots := 0, locals := 0 } : Room).cells ({ frames := 0, cells := 0, slots := 0, locals := 0 } : Room).slots)
  refine OGo.step (fun _ kk => XS.astoreN X6.here hx rfl (hb hby own_d_jdk_32_method_1_code_3) rfl rfl (l' := #[.val (.ref eo)]) rfl kk) ?_
  show OGo p e below (T6.setTop (mkF m 4 #[.val (.ref eo)] [])) (OEnd s (fun v h L => v = some (.ref eo) ∧ Fr n0 L ∧ h = h0) ({ frames := 0, cells := 0, slots := 0, locals := 0 } : Room).cells ({ frames := 0, cells := 0, slots := 0, locals := 0 } : Room).slots)
  refine OGo.step (fun _ kk => XS.aloadN X6.here hx rfl (hb hby own_d_jdk_32_method_1_code_4) rfl rfl kk) ?_
  show OGo p e below (T6.setTop (mkF m 5 #[.val (.ref eo)] [(.ref eo)])) (OEnd s (fun v h L => v = some (.ref eo) ∧ Fr n0 L ∧ h = h0) ({ frames := 0, cells := 0, slots := 0, locals := 0 } : Room).cells ({ frames := 0, cells := 0, slots := 0, locals := 0 } : Room).slots)
  exact own_ret X6 hx hlk hret rfl (Or.inr (Or.inr (Or.inr (Or.inr ⟨rfl, rfl, rfl⟩)))) (hb hby own_d_jdk_32_method_1_code_5) ⟨rfl, N0, e6⟩ (by decide) (by decide)

set_option maxRecDepth 65536 in
set_option maxHeartbeats 40000000 in
theorem own_rm2 (l : Launch) (Z : State) (a0 : Array Value) (hw : ∀ d ∈ tables_1, d.before a0 Z = true) (ws : List Jvm.Cond) (va : Addr) (vc : Cell) (h0 : Heap) (n0 : Nat) (Z0 : n0 ≤ h0.size) (SV : Sta Z Z.heap "com/example/tenantd/tenantd/RoleType" "$VALUES" "[Lcom/example/tenantd/tenantd/RoleType;" (.ref va)) (AV : Arr Z Z.heap va vc (.object "com/example/tenantd/tenantd/RoleType")) (EV : Exa Z Z.heap va "[Lcom/example/tenantd/tenantd/RoleType;") (FV : FitC Z vc) (VS : vc.slots.size = 4) (O0 : Old Z n0 h0) :
    OMet l Z (⟨"com/example/tenantd/tenantd/RoleType", "values", "()[Lcom/example/tenantd/tenantd/RoleType;"⟩ : MethodName) prog_11_method_1_code 0 (some (.array (.object "com/example/tenantd/tenantd/RoleType"))) ws ({ frames := 1, cells := 1, slots := 4, locals := 14 } : Room) #[] h0 (fun v h L => ∃ b : Addr, v = some (.ref b) ∧ Fr n0 L ∧ Old Z n0 h ∧ Arr Z h b (cloneOf vc) (.object "com/example/tenantd/tenantd/RoleType")) := by
  refine OMet.body (plainFor_of_name own_pn2) ?_
  intro p e s m below meth c s₁ hx hby hml hown hnm hret hlk hZ X0 e0
  refine OGo.step (fun _ kk => castTop (show entryFrame m #[] 0 = (mkF m 0 #[] []) from by first | (simp [entryFrame, mkF, argsToLocals, Value.category]; done) | rfl) kk) ?_
  show OGo p e below (s₁.setTop (mkF m 0 #[] [])) (OEnd s (fun v h L => ∃ b : Addr, v = some (.ref b) ∧ Fr n0 L ∧ Old Z n0 h ∧ Arr Z h b (cloneOf vc) (.object "com/example/tenantd/tenantd/RoleType")) ({ frames := 1, cells := 1, slots := 4, locals := 14 } : Room).cells ({ frames := 1, cells := 1, slots := 4, locals := 14 } : Room).slots)
  have N0 := Fr.nil n0
  obtain ⟨T7, X7, e7, st7⟩ := getS2 X0 hx hZ hown (host := "") (Or.inl (hw _ (List.mem_of_getElem? (i := 7) rfl))) Via.refl e0 (SV.ext O0.2) (g := (mkF m 0 #[] [])) rfl (hb hby own_d_prog_11_method_1_code_0)
  refine OGo.step st7 ?_
  show OGo p e below (T7.setTop (mkF m 3 #[] [(.ref va)])) (OEnd s (fun v h L => ∃ b : Addr, v = some (.ref b) ∧ Fr n0 L ∧ Old Z n0 h ∧ Arr Z h b (cloneOf vc) (.object "com/example/tenantd/tenantd/RoleType")) ({ frames := 1, cells := 1, slots := 4, locals := 14 } : Room).cells ({ frames := 1, cells := 1, slots := 4, locals := 14 } : Room).slots)
  obtain ⟨T8, h8, X8, e8, E8, A8, B8, st8⟩ := cloneA X7 hx hZ hown (hw _ (List.mem_of_getElem? (i := 9) rfl)) (hw _ (List.mem_of_getElem? (i := 10) rfl)) (hw _ (List.mem_of_getElem? (i := 14) rfl)) (hw _ (List.mem_of_getElem? (i := 12) rfl)) (hw _ (List.mem_of_getElem? (i := 13) rfl)) (hw _ (List.mem_of_getElem? (i := 15) rfl)) e7 (AV.ext O0.2) (EV.ext O0.2) FV (g := (mkF m 3 #[] [(.ref va)])) rfl (by rw [hml]; rfl) rfl (hb hby own_d_prog_11_method_1_code_3) (by decide) (W := 0) (cap := 4) (by show 2 * 0 + _ ≤ _; exact Nat.le_of_eq rfl) (by decide) (Nat.le_of_eq VS) (by decide) (by decide)
  obtain ⟨b, g8⟩ : ∃ z, z = h0.size := ⟨_, rfl⟩
  rw [← g8] at A8 B8 st8
  refine OGo.step st8 ?_
  show OGo p e below (T8.setTop (mkF m 6 #[] [(.ref b)])) (OEnd s (fun v h L => ∃ b : Addr, v = some (.ref b) ∧ Fr n0 L ∧ Old Z n0 h ∧ Arr Z h b (cloneOf vc) (.object "com/example/tenantd/tenantd/RoleType")) ({ frames := 1, cells := 1, slots := 4, locals := 14 } : Room).cells ({ frames := 1, cells := 1, slots := 4, locals := 14 } : Room).slots)
  obtain ⟨T9, X9, e9, st9⟩ := castY X8 hx hZ hown (hw _ (List.mem_of_getElem? (i := 21) rfl)) e8 (Ins.self B8) (g := (mkF m 6 #[] [(.ref b)])) rfl rfl (hb hby own_d_prog_11_method_1_code_6)
  refine OGo.step st9 ?_
  show OGo p e below (T9.setTop (mkF m 9 #[] [(.ref b)])) (OEnd s (fun v h L => ∃ b : Addr, v = some (.ref b) ∧ Fr n0 L ∧ Old Z n0 h ∧ Arr Z h b (cloneOf vc) (.object "com/example/tenantd/tenantd/RoleType")) ({ frames := 1, cells := 1, slots := 4, locals := 14 } : Room).cells ({ frames := 1, cells := 1, slots := 4, locals := 14 } : Room).slots)
  exact own_ret X9 hx hlk hret rfl (Or.inr (Or.inr (Or.inr (Or.inr ⟨rfl, rfl, rfl⟩)))) (hb hby own_d_prog_11_method_1_code_9) (by rw [e9]; exact ⟨b, rfl, N0, O0.ext E8, A8⟩) (by decide) (by decide)

set_option maxRecDepth 65536 in
set_option maxHeartbeats 40000000 in
theorem own_rm1 (l : Launch) (Z : State) (a0 : Array Value) (hw : ∀ d ∈ tables_1, d.before a0 Z = true) (ws : List Jvm.Cond) (p1 : Int32) (va : Addr) (vc : Cell) (r0 r1 r2 r3 : Addr) (eo : Addr) (h0 : Heap) (n0 : Nat) (Z0 : n0 ≤ h0.size) (SV : Sta Z Z.heap "com/example/tenantd/tenantd/RoleType" "$VALUES" "[Lcom/example/tenantd/tenantd/RoleType;" (.ref va)) (AV : Arr Z Z.heap va vc (.object "com/example/tenantd/tenantd/RoleType")) (EV : Exa Z Z.heap va "[Lcom/example/tenantd/tenantd/RoleType;") (FV : FitC Z vc) (VS : vc.slots.size = 4) (O0 : Old Z n0 h0) (V0 : vc.slots[0]? = some (.ref r0)) (V1 : vc.slots[1]? = some (.ref r1)) (V2 : vc.slots[2]? = some (.ref r2)) (V3 : vc.slots[3]? = some (.ref r3)) (Fa0 : Fld Z Z.heap r0 "com/example/tenantd/tenantd/RoleType" "accountType" "I" (.int 1)) (Fa1 : Fld Z Z.heap r1 "com/example/tenantd/tenantd/RoleType" "accountType" "I" (.int 3)) (Fa2 : Fld Z Z.heap r2 "com/example/tenantd/tenantd/RoleType" "accountType" "I" (.int 2)) (Fa3 : Fld Z Z.heap r3 "com/example/tenantd/tenantd/RoleType" "accountType" "I" (.int 0)) (SE : Sta Z Z.heap "java/util/Optional" "EMPTY" "Ljava/util/Optional;" (.ref eo)) (EO : Exa Z Z.heap eo "java/util/Optional") (FO : Fld Z Z.heap eo "java/util/Optional" "value" "Ljava/lang/Object;" .null) :
    OMet l Z (⟨"com/example/tenantd/tenantd/RoleType", "ofAccountType", "(I)Ljava/util/Optional;"⟩ : MethodName) prog_11_method_7_code 5 (some (.object "java/util/Optional")) ws ({ frames := 3, cells := 2, slots := 5, locals := 38 } : Room) #[(.int p1)] h0 (fun v h L => ∃ (b : Addr) (u : Value), v = some (.ref b) ∧ Fr n0 L ∧ Old Z n0 h ∧ Exa Z h b "java/util/Optional" ∧ Fld Z h b "java/util/Optional" "value" "Ljava/lang/Object;" u ∧ u = own_acc p1 r0 r1 r2 r3) := by
  refine OMet.body (plainFor_of_name own_pn2) ?_
  intro p e s m below meth c s₁ hx hby hml hown hnm hret hlk hZ X0 e0
  refine OGo.step (fun _ kk => castTop (show entryFrame m #[(.int p1)] 5 = (mkF m 0 #[.val (.int p1), .unset, .unset, .unset, .unset] []) from by first | (simp [entryFrame, mkF, argsToLocals, Value.category]; done) | rfl) kk) ?_
  show OGo p e below (s₁.setTop (mkF m 0 #[.val (.int p1), .unset, .unset, .unset, .unset] [])) (OEnd s (fun v h L => ∃ (b : Addr) (u : Value), v = some (.ref b) ∧ Fr n0 L ∧ Old Z n0 h ∧ Exa Z h b "java/util/Optional" ∧ Fld Z h b "java/util/Optional" "value" "Ljava/lang/Object;" u ∧ u = own_acc p1 r0 r1 r2 r3) ({ frames := 3, cells := 2, slots := 5, locals := 38 } : Room).cells ({ frames := 3, cells := 2, slots := 5, locals := 38 } : Room).slots)
  refine own_callS X0 hx hZ (y := (⟨"com/example/tenantd/tenantd/RoleType", "values", "()[Lcom/example/tenantd/tenantd/RoleType;"⟩ : MethodName)) hown (hw _ (List.mem_of_getElem? (i := 4) rfl)) (hw _ (List.mem_of_getElem? (i := 5) rfl)) (hw _ (List.mem_of_getElem? (i := 2) rfl)) (hw _ (List.mem_of_getElem? (i := 6) rfl)) (by decide) (W := 0) (own_rm2 l Z a0 hw [] va vc h0 n0 Z0 SV AV EV FV VS O0) e0  (pc := 0) (Ls := #[.val (.int p1), .unset, .unset, .unset, .unset]) (argsL := []) (rest := []) (by rw [hml]; rfl) (lenOf own_pd2 rfl) rfl (hb hby own_d_prog_11_method_7_code_0) (by decide) (by decide) (by decide) (by decide) ?_
  intro v10 T10 L10 X10 hQ10
  obtain ⟨vb, rfl, N10, O1, AB⟩ := hQ10
  show OGo p e below (T10.setTop (mkF m 3 #[.val (.int p1), .unset, .unset, .unset, .unset] [(.ref vb)])) (OEnd s (fun v h L => ∃ (b : Addr) (u : Value), v = some (.ref b) ∧ Fr n0 L ∧ Old Z n0 h ∧ Exa Z h b "java/util/Optional" ∧ Fld Z h b "java/util/Optional" "value" "Ljava/lang/Object;" u ∧ u = own_acc p1 r0 r1 r2 r3) ({ frames := 3, cells := 2, slots := 5, locals := 38 } : Room).cells ({ frames := 3, cells := 2, slots := 5, locals := 38 } : Room).slots)
  have Nn := (Fr.nil n0).app N10
  have Z1 : n0 ≤ T10.heap.size := O1.1 ▸ O1.2.1
  refine OGo.step (fun _ kk => XS.astoreN X10.here hx rfl (hb hby own_d_prog_11_method_7_code_3) rfl rfl (l' := #[.val (.int p1), .val (.ref vb), .unset, .unset, .unset]) rfl kk) ?_
  show OGo p e below (T10.setTop (mkF m 4 #[.val (.int p1), .val (.ref vb), .unset, .unset, .unset] [])) (OEnd s (fun v h L => ∃ (b : Addr) (u : Value), v = some (.ref b) ∧ Fr n0 L ∧ Old Z n0 h ∧ Exa Z h b "java/util/Optional" ∧ Fld Z h b "java/util/Optional" "value" "Ljava/lang/Object;" u ∧ u = own_acc p1 r0 r1 r2 r3) ({ frames := 3, cells := 2, slots := 5, locals := 38 } : Room).cells ({ frames := 3, cells := 2, slots := 5, locals := 38 } : Room).slots)
  refine OGo.step (fun _ kk => XS.aloadN X10.here hx rfl (hb hby own_d_prog_11_method_7_code_4) rfl rfl kk) ?_
  show OGo p e below (T10.setTop (mkF m 5 #[.val (.int p1), .val (.ref vb), .unset, .unset, .unset] [(.ref vb)])) (OEnd s (fun v h L => ∃ (b : Addr) (u : Value), v = some (.ref b) ∧ Fr n0 L ∧ Old Z n0 h ∧ Exa Z h b "java/util/Optional" ∧ Fld Z h b "java/util/Optional" "value" "Ljava/lang/Object;" u ∧ u = own_acc p1 r0 r1 r2 r3) ({ frames := 3, cells := 2, slots := 5, locals := 38 } : Room).cells ({ frames := 3, cells := 2, slots := 5, locals := 38 } : Room).slots)
  refine OGo.step (fun _ kk => X10.arraylength hx (AB).1 (State.isArrayOf_alike hZ.alike (AB).2.1) (g := (mkF m 5 #[.val (.int p1), .val (.ref vb), .unset, .unset, .unset] [(.ref vb)])) rfl rfl (hb hby own_d_prog_11_method_7_code_5) _ kk) ?_
  rw [len_of (z := 4) VS (by decide)]
  show OGo p e below (T10.setTop (mkF m 6 #[.val (.int p1), .val (.ref vb), .unset, .unset, .unset] [(.int (4 : Int32))])) (OEnd s (fun v h L => ∃ (b : Addr) (u : Value), v = some (.ref b) ∧ Fr n0 L ∧ Old Z n0 h ∧ Exa Z h b "java/util/Optional" ∧ Fld Z h b "java/util/Optional" "value" "Ljava/lang/Object;" u ∧ u = own_acc p1 r0 r1 r2 r3) ({ frames := 3, cells := 2, slots := 5, locals := 38 } : Room).cells ({ frames := 3, cells := 2, slots := 5, locals := 38 } : Room).slots)
  refine OGo.step (fun _ kk => XS.istoreN X10.here hx rfl (hb hby own_d_prog_11_method_7_code_6) rfl (l' := #[.val (.int p1), .val (.ref vb), .val (.int (4 : Int32)), .unset, .unset]) rfl kk) ?_
  show OGo p e below (T10.setTop (mkF m 7 #[.val (.int p1), .val (.ref vb), .val (.int (4 : Int32)), .unset, .unset] [])) (OEnd s (fun v h L => ∃ (b : Addr) (u : Value), v = some (.ref b) ∧ Fr n0 L ∧ Old Z n0 h ∧ Exa Z h b "java/util/Optional" ∧ Fld Z h b "java/util/Optional" "value" "Ljava/lang/Object;" u ∧ u = own_acc p1 r0 r1 r2 r3) ({ frames := 3, cells := 2, slots := 5, locals := 38 } : Room).cells ({ frames := 3, cells := 2, slots := 5, locals := 38 } : Room).slots)
  refine OGo.step (fun _ kk => XS.iconst X10.here hx rfl (hb hby own_d_prog_11_method_7_code_7) kk) ?_
  show OGo p e below (T10.setTop (mkF m 8 #[.val (.int p1), .val (.ref vb), .val (.int (4 : Int32)), .unset, .unset] [(.int (0 : Int32))])) (OEnd s (fun v h L => ∃ (b : Addr) (u : Value), v = some (.ref b) ∧ Fr n0 L ∧ Old Z n0 h ∧ Exa Z h b "java/util/Optional" ∧ Fld Z h b "java/util/Optional" "value" "Ljava/lang/Object;" u ∧ u = own_acc p1 r0 r1 r2 r3) ({ frames := 3, cells := 2, slots := 5, locals := 38 } : Room).cells ({ frames := 3, cells := 2, slots := 5, locals := 38 } : Room).slots)
  refine OGo.step (fun _ kk => XS.istoreN X10.here hx rfl (hb hby own_d_prog_11_method_7_code_8) rfl (l' := #[.val (.int p1), .val (.ref vb), .val (.int (4 : Int32)), .val (.int (0 : Int32)), .unset]) rfl kk) ?_
  show OGo p e below (T10.setTop (mkF m 9 #[.val (.int p1), .val (.ref vb), .val (.int (4 : Int32)), .val (.int (0 : Int32)), .unset] [])) (OEnd s (fun v h L => ∃ (b : Addr) (u : Value), v = some (.ref b) ∧ Fr n0 L ∧ Old Z n0 h ∧ Exa Z h b "java/util/Optional" ∧ Fld Z h b "java/util/Optional" "value" "Ljava/lang/Object;" u ∧ u = own_acc p1 r0 r1 r2 r3) ({ frames := 3, cells := 2, slots := 5, locals := 38 } : Room).cells ({ frames := 3, cells := 2, slots := 5, locals := 38 } : Room).slots)
  refine OGo.step (fun _ kk => XS.iloadN X10.here hx rfl (hb hby own_d_prog_11_method_7_code_9) rfl kk) ?_
  show OGo p e below (T10.setTop (mkF m 10 #[.val (.int p1), .val (.ref vb), .val (.int (4 : Int32)), .val (.int (0 : Int32)), .unset] [(.int (0 : Int32))])) (OEnd s (fun v h L => ∃ (b : Addr) (u : Value), v = some (.ref b) ∧ Fr n0 L ∧ Old Z n0 h ∧ Exa Z h b "java/util/Optional" ∧ Fld Z h b "java/util/Optional" "value" "Ljava/lang/Object;" u ∧ u = own_acc p1 r0 r1 r2 r3) ({ frames := 3, cells := 2, slots := 5, locals := 38 } : Room).cells ({ frames := 3, cells := 2, slots := 5, locals := 38 } : Room).slots)
  refine OGo.step (fun _ kk => XS.iloadN X10.here hx rfl (hb hby own_d_prog_11_method_7_code_10) rfl kk) ?_
  show OGo p e below (T10.setTop (mkF m 11 #[.val (.int p1), .val (.ref vb), .val (.int (4 : Int32)), .val (.int (0 : Int32)), .unset] [(.int (4 : Int32)), (.int (0 : Int32))])) (OEnd s (fun v h L => ∃ (b : Addr) (u : Value), v = some (.ref b) ∧ Fr n0 L ∧ Old Z n0 h ∧ Exa Z h b "java/util/Optional" ∧ Fld Z h b "java/util/Optional" "value" "Ljava/lang/Object;" u ∧ u = own_acc p1 r0 r1 r2 r3) ({ frames := 3, cells := 2, slots := 5, locals := 38 } : Room).cells ({ frames := 3, cells := 2, slots := 5, locals := 38 } : Room).slots)
  refine OGo.step (fun _ kk => XS.icmpNo X10.here hx rfl (hb hby own_d_prog_11_method_7_code_11) rfl (tlt (by decide)).2.1 kk) ?_
  show OGo p e below (T10.setTop (mkF m 14 #[.val (.int p1), .val (.ref vb), .val (.int (4 : Int32)), .val (.int (0 : Int32)), .unset] [])) (OEnd s (fun v h L => ∃ (b : Addr) (u : Value), v = some (.ref b) ∧ Fr n0 L ∧ Old Z n0 h ∧ Exa Z h b "java/util/Optional" ∧ Fld Z h b "java/util/Optional" "value" "Ljava/lang/Object;" u ∧ u = own_acc p1 r0 r1 r2 r3) ({ frames := 3, cells := 2, slots := 5, locals := 38 } : Room).cells ({ frames := 3, cells := 2, slots := 5, locals := 38 } : Room).slots)
  refine OGo.step (fun _ kk => XS.aloadN X10.here hx rfl (hb hby own_d_prog_11_method_7_code_14) rfl rfl kk) ?_
  show OGo p e below (T10.setTop (mkF m 15 #[.val (.int p1), .val (.ref vb), .val (.int (4 : Int32)), .val (.int (0 : Int32)), .unset] [(.ref vb)])) (OEnd s (fun v h L => ∃ (b : Addr) (u : Value), v = some (.ref b) ∧ Fr n0 L ∧ Old Z n0 h ∧ Exa Z h b "java/util/Optional" ∧ Fld Z h b "java/util/Optional" "value" "Ljava/lang/Object;" u ∧ u = own_acc p1 r0 r1 r2 r3) ({ frames := 3, cells := 2, slots := 5, locals := 38 } : Room).cells ({ frames := 3, cells := 2, slots := 5, locals := 38 } : Room).slots)
  refine OGo.step (fun _ kk => XS.iloadN X10.here hx rfl (hb hby own_d_prog_11_method_7_code_15) rfl kk) ?_
  show OGo p e below (T10.setTop (mkF m 16 #[.val (.int p1), .val (.ref vb), .val (.int (4 : Int32)), .val (.int (0 : Int32)), .unset] [(.int (0 : Int32)), (.ref vb)])) (OEnd s (fun v h L => ∃ (b : Addr) (u : Value), v = some (.ref b) ∧ Fr n0 L ∧ Old Z n0 h ∧ Exa Z h b "java/util/Optional" ∧ Fld Z h b "java/util/Optional" "value" "Ljava/lang/Object;" u ∧ u = own_acc p1 r0 r1 r2 r3) ({ frames := 3, cells := 2, slots := 5, locals := 38 } : Room).cells ({ frames := 3, cells := 2, slots := 5, locals := 38 } : Room).slots)
  refine OGo.step (fun _ kk => X10.aaload hx (j := (0 : Int32)) (v := (.ref r0)) (AB).1 (State.isArrayOf_alike hZ.alike (AB).2.1) rfl (AB).2.2 (inb_of (z := 4) VS ⟨by decide, by decide⟩) V0 (g := (mkF m 16 #[.val (.int p1), .val (.ref vb), .val (.int (4 : Int32)), .val (.int (0 : Int32)), .unset] [(.int (0 : Int32)), (.ref vb)])) rfl rfl (hb hby own_d_prog_11_method_7_code_16) _ kk) ?_
  show OGo p e below (T10.setTop (mkF m 17 #[.val (.int p1), .val (.ref vb), .val (.int (4 : Int32)), .val (.int (0 : Int32)), .unset] [(.ref r0)])) (OEnd s (fun v h L => ∃ (b : Addr) (u : Value), v = some (.ref b) ∧ Fr n0 L ∧ Old Z n0 h ∧ Exa Z h b "java/util/Optional" ∧ Fld Z h b "java/util/Optional" "value" "Ljava/lang/Object;" u ∧ u = own_acc p1 r0 r1 r2 r3) ({ frames := 3, cells := 2, slots := 5, locals := 38 } : Room).cells ({ frames := 3, cells := 2, slots := 5, locals := 38 } : Room).slots)
  refine OGo.step (fun _ kk => XS.astore X10.here hx rfl (hb hby own_d_prog_11_method_7_code_17) rfl rfl (l' := #[.val (.int p1), .val (.ref vb), .val (.int (4 : Int32)), .val (.int (0 : Int32)), .val (.ref r0)]) rfl kk) ?_
  show OGo p e below (T10.setTop (mkF m 19 #[.val (.int p1), .val (.ref vb), .val (.int (4 : Int32)), .val (.int (0 : Int32)), .val (.ref r0)] [])) (OEnd s (fun v h L => ∃ (b : Addr) (u : Value), v = some (.ref b) ∧ Fr n0 L ∧ Old Z n0 h ∧ Exa Z h b "java/util/Optional" ∧ Fld Z h b "java/util/Optional" "value" "Ljava/lang/Object;" u ∧ u = own_acc p1 r0 r1 r2 r3) ({ frames := 3, cells := 2, slots := 5, locals := 38 } : Room).cells ({ frames := 3, cells := 2, slots := 5, locals := 38 } : Room).slots)
  refine OGo.step (fun _ kk => XS.aload X10.here hx rfl (hb hby own_d_prog_11_method_7_code_19) rfl rfl kk) ?_
  show OGo p e below (T10.setTop (mkF m 21 #[.val (.int p1), .val (.ref vb), .val (.int (4 : Int32)), .val (.int (0 : Int32)), .val (.ref r0)] [(.ref r0)])) (OEnd s (fun v h L => ∃ (b : Addr) (u : Value), v = some (.ref b) ∧ Fr n0 L ∧ Old Z n0 h ∧ Exa Z h b "java/util/Optional" ∧ Fld Z h b "java/util/Optional" "value" "Ljava/lang/Object;" u ∧ u = own_acc p1 r0 r1 r2 r3) ({ frames := 3, cells := 2, slots := 5, locals := 38 } : Room).cells ({ frames := 3, cells := 2, slots := 5, locals := 38 } : Room).slots)
  obtain ⟨T11, X11, e11, st11⟩ := getF X10 hx hZ hown (host := "") (Or.inl (hw _ (List.mem_of_getElem? (i := 23) rfl))) Via.refl rfl (Fa0.ext O1.2) (g := (mkF m 21 #[.val (.int p1), .val (.ref vb), .val (.int (4 : Int32)), .val (.int (0 : Int32)), .val (.ref r0)] [(.ref r0)])) rfl rfl (hb hby own_d_prog_11_method_7_code_21)
  refine OGo.step st11 ?_
  show OGo p e below (T11.setTop (mkF m 24 #[.val (.int p1), .val (.ref vb), .val (.int (4 : Int32)), .val (.int (0 : Int32)), .val (.ref r0)] [(.int (1 : Int32))])) (OEnd s (fun v h L => ∃ (b : Addr) (u : Value), v = some (.ref b) ∧ Fr n0 L ∧ Old Z n0 h ∧ Exa Z h b "java/util/Optional" ∧ Fld Z h b "java/util/Optional" "value" "Ljava/lang/Object;" u ∧ u = own_acc p1 r0 r1 r2 r3) ({ frames := 3, cells := 2, slots := 5, locals := 38 } : Room).cells ({ frames := 3, cells := 2, slots := 5, locals := 38 } : Room).slots)
  refine OGo.step (fun _ kk => XS.iloadN X11.here hx rfl (hb hby own_d_prog_11_method_7_code_24) rfl kk) ?_
  show OGo p e below (T11.setTop (mkF m 25 #[.val (.int p1), .val (.ref vb), .val (.int (4 : Int32)), .val (.int (0 : Int32)), .val (.ref r0)] [(.int p1), (.int (1 : Int32))])) (OEnd s (fun v h L => ∃ (b : Addr) (u : Value), v = some (.ref b) ∧ Fr n0 L ∧ Old Z n0 h ∧ Exa Z h b "java/util/Optional" ∧ Fld Z h b "java/util/Optional" "value" "Ljava/lang/Object;" u ∧ u = own_acc p1 r0 r1 r2 r3) ({ frames := 3, cells := 2, slots := 5, locals := 38 } : Room).cells ({ frames := 3, cells := 2, slots := 5, locals := 38 } : Room).slots)
  by_cases ha0 : (1 : Int32) = p1
  · refine OGo.step (fun _ kk => XS.icmpNo X11.here hx rfl (hb hby own_d_prog_11_method_7_code_25) rfl (teq ha0).2 kk) ?_
    show OGo p e below (T11.setTop (mkF m 28 #[.val (.int p1), .val (.ref vb), .val (.int (4 : Int32)), .val (.int (0 : Int32)), .val (.ref r0)] [])) (OEnd s (fun v h L => ∃ (b : Addr) (u : Value), v = some (.ref b) ∧ Fr n0 L ∧ Old Z n0 h ∧ Exa Z h b "java/util/Optional" ∧ Fld Z h b "java/util/Optional" "value" "Ljava/lang/Object;" u ∧ u = own_acc p1 r0 r1 r2 r3) ({ frames := 3, cells := 2, slots := 5, locals := 38 } : Room).cells ({ frames := 3, cells := 2, slots := 5, locals := 38 } : Room).slots)
    refine OGo.step (fun _ kk => XS.aload X11.here hx rfl (hb hby own_d_prog_11_method_7_code_28) rfl rfl kk) ?_
    show OGo p e below (T11.setTop (mkF m 30 #[.val (.int p1), .val (.ref vb), .val (.int (4 : Int32)), .val (.int (0 : Int32)), .val (.ref r0)] [(.ref r0)])) (OEnd s (fun v h L => ∃ (b : Addr) (u : Value), v = some (.ref b) ∧ Fr n0 L ∧ Old Z n0 h ∧ Exa Z h b "java/util/Optional" ∧ Fld Z h b "java/util/Optional" "value" "Ljava/lang/Object;" u ∧ u = own_acc p1 r0 r1 r2 r3) ({ frames := 3, cells := 2, slots := 5, locals := 38 } : Room).cells ({ frames := 3, cells := 2, slots := 5, locals := 38 } : Room).slots)
    refine own_callS X11 hx hZ (y := (⟨"java/util/Optional", "of", "(Ljava/lang/Object;)Ljava/util/Optional;"⟩ : MethodName)) hown (hw _ (List.mem_of_getElem? (i := 25) rfl)) (hw _ (List.mem_of_getElem? (i := 26) rfl)) (hw _ (List.mem_of_getElem? (i := 27) rfl)) (hw _ (List.mem_of_getElem? (i := 28) rfl)) (by decide) (W := 0) (own_rm3 l Z a0 hw [] r0 _ n0 Z1 O1) e11  (pc := 30) (Ls := #[.val (.int p1), .val (.ref vb), .val (.int (4 : Int32)), .val (.int (0 : Int32)), .val (.ref r0)]) (argsL := [(.ref r0)]) (rest := []) (by rw [hml]; rfl) (lenOf own_pd3 rfl) rfl (hb hby own_d_prog_11_method_7_code_30) (by decide) (by decide) (by decide) (by decide) ?_
    intro v12 T12 L12 X12 hQ12
    obtain ⟨b, rfl, gb, N12, O2, Eb, Gv⟩ := hQ12
    show OGo p e below (T12.setTop (mkF m 33 #[.val (.int p1), .val (.ref vb), .val (.int (4 : Int32)), .val (.int (0 : Int32)), .val (.ref r0)] [(.ref b)])) (OEnd s (fun v h L => ∃ (b : Addr) (u : Value), v = some (.ref b) ∧ Fr n0 L ∧ Old Z n0 h ∧ Exa Z h b "java/util/Optional" ∧ Fld Z h b "java/util/Optional" "value" "Ljava/lang/Object;" u ∧ u = own_acc p1 r0 r1 r2 r3) ({ frames := 3, cells := 2, slots := 5, locals := 38 } : Room).cells ({ frames := 3, cells := 2, slots := 5, locals := 38 } : Room).slots)
    exact own_ret X12 hx hlk hret rfl (Or.inr (Or.inr (Or.inr (Or.inr ⟨rfl, rfl, rfl⟩)))) (hb hby own_d_prog_11_method_7_code_33) ⟨b, .ref r0, rfl, Nn.app N12, O2, Eb, Gv, by subst ha0; rfl⟩ (by decide) (by decide)
  · refine OGo.step (fun _ kk => XS.icmpYes X11.here hx rfl (pc0 := 25) (pc' := 34) rfl (hb hby own_d_prog_11_method_7_code_25) rfl (feq ha0).2 (by decide) (by decide) kk) ?_
    show OGo p e below (T11.setTop (mkF m 34 #[.val (.int p1), .val (.ref vb), .val (.int (4 : Int32)), .val (.int (0 : Int32)), .val (.ref r0)] [])) (OEnd s (fun v h L => ∃ (b : Addr) (u : Value), v = some (.ref b) ∧ Fr n0 L ∧ Old Z n0 h ∧ Exa Z h b "java/util/Optional" ∧ Fld Z h b "java/util/Optional" "value" "Ljava/lang/Object;" u ∧ u = own_acc p1 r0 r1 r2 r3) ({ frames := 3, cells := 2, slots := 5, locals := 38 } : Room).cells ({ frames := 3, cells := 2, slots := 5, locals := 38 } : Room).slots)
    refine OGo.step (fun _ kk => XS.iinc X11.here hx rfl (hb hby own_d_prog_11_method_7_code_34) rfl (l' := #[.val (.int p1), .val (.ref vb), .val (.int (4 : Int32)), .val (.int ((0 : Int32) + (1 : Int32))), .val (.ref r0)]) rfl kk) ?_
    show OGo p e below (T11.setTop (mkF m 37 #[.val (.int p1), .val (.ref vb), .val (.int (4 : Int32)), .val (.int ((0 : Int32) + (1 : Int32))), .val (.ref r0)] [])) (OEnd s (fun v h L => ∃ (b : Addr) (u : Value), v = some (.ref b) ∧ Fr n0 L ∧ Old Z n0 h ∧ Exa Z h b "java/util/Optional" ∧ Fld Z h b "java/util/Optional" "value" "Ljava/lang/Object;" u ∧ u = own_acc p1 r0 r1 r2 r3) ({ frames := 3, cells := 2, slots := 5, locals := 38 } : Room).cells ({ frames := 3, cells := 2, slots := 5, locals := 38 } : Room).slots)
    refine OGo.step (fun _ kk => XS.goto X11.here hx rfl (pc0 := 37) (pc' := 9) rfl (hb hby own_d_prog_11_method_7_code_37) (by decide) (by decide) kk) ?_
    show OGo p e below (T11.setTop (mkF m 9 #[.val (.int p1), .val (.ref vb), .val (.int (4 : Int32)), .val (.int ((0 : Int32) + (1 : Int32))), .val (.ref r0)] [])) (OEnd s (fun v h L => ∃ (b : Addr) (u : Value), v = some (.ref b) ∧ Fr n0 L ∧ Old Z n0 h ∧ Exa Z h b "java/util/Optional" ∧ Fld Z h b "java/util/Optional" "value" "Ljava/lang/Object;" u ∧ u = own_acc p1 r0 r1 r2 r3) ({ frames := 3, cells := 2, slots := 5, locals := 38 } : Room).cells ({ frames := 3, cells := 2, slots := 5, locals := 38 } : Room).slots)
    show OGo p e below (T11.setTop (mkF m 9 #[.val (.int p1), .val (.ref vb), .val (.int (4 : Int32)), .val (.int (1 : Int32)), .val (.ref r0)] [])) (OEnd s (fun v h L => ∃ (b : Addr) (u : Value), v = some (.ref b) ∧ Fr n0 L ∧ Old Z n0 h ∧ Exa Z h b "java/util/Optional" ∧ Fld Z h b "java/util/Optional" "value" "Ljava/lang/Object;" u ∧ u = own_acc p1 r0 r1 r2 r3) ({ frames := 3, cells := 2, slots := 5, locals := 38 } : Room).cells ({ frames := 3, cells := 2, slots := 5, locals := 38 } : Room).slots)
    refine OGo.step (fun _ kk => XS.iloadN X11.here hx rfl (hb hby own_d_prog_11_method_7_code_9) rfl kk) ?_
    show OGo p e below (T11.setTop (mkF m 10 #[.val (.int p1), .val (.ref vb), .val (.int (4 : Int32)), .val (.int (1 : Int32)), .val (.ref r0)] [(.int (1 : Int32))])) (OEnd s (fun v h L => ∃ (b : Addr) (u : Value), v = some (.ref b) ∧ Fr n0 L ∧ Old Z n0 h ∧ Exa Z h b "java/util/Optional" ∧ Fld Z h b "java/util/Optional" "value" "Ljava/lang/Object;" u ∧ u = own_acc p1 r0 r1 r2 r3) ({ frames := 3, cells := 2, slots := 5, locals := 38 } : Room).cells ({ frames := 3, cells := 2, slots := 5, locals := 38 } : Room).slots)
    refine OGo.step (fun _ kk => XS.iloadN X11.here hx rfl (hb hby own_d_prog_11_method_7_code_10) rfl kk) ?_
    show OGo p e below (T11.setTop (mkF m 11 #[.val (.int p1), .val (.ref vb), .val (.int (4 : Int32)), .val (.int (1 : Int32)), .val (.ref r0)] [(.int (4 : Int32)), (.int (1 : Int32))])) (OEnd s (fun v h L => ∃ (b : Addr) (u : Value), v = some (.ref b) ∧ Fr n0 L ∧ Old Z n0 h ∧ Exa Z h b "java/util/Optional" ∧ Fld Z h b "java/util/Optional" "value" "Ljava/lang/Object;" u ∧ u = own_acc p1 r0 r1 r2 r3) ({ frames := 3, cells := 2, slots := 5, locals := 38 } : Room).cells ({ frames := 3, cells := 2, slots := 5, locals := 38 } : Room).slots)
    refine OGo.step (fun _ kk => XS.icmpNo X11.here hx rfl (hb hby own_d_prog_11_method_7_code_11) rfl (tlt (by decide)).2.1 kk) ?_
    show OGo p e below (T11.setTop (mkF m 14 #[.val (.int p1), .val (.ref vb), .val (.int (4 : Int32)), .val (.int (1 : Int32)), .val (.ref r0)] [])) (OEnd s (fun v h L => ∃ (b : Addr) (u : Value), v = some (.ref b) ∧ Fr n0 L ∧ Old Z n0 h ∧ Exa Z h b "java/util/Optional" ∧ Fld Z h b "java/util/Optional" "value" "Ljava/lang/Object;" u ∧ u = own_acc p1 r0 r1 r2 r3) ({ frames := 3, cells := 2, slots := 5, locals := 38 } : Room).cells ({ frames := 3, cells := 2, slots := 5, locals := 38 } : Room).slots)
    refine OGo.step (fun _ kk => XS.aloadN X11.here hx rfl (hb hby own_d_prog_11_method_7_code_14) rfl rfl kk) ?_
    show OGo p e below (T11.setTop (mkF m 15 #[.val (.int p1), .val (.ref vb), .val (.int (4 : Int32)), .val (.int (1 : Int32)), .val (.ref r0)] [(.ref vb)])) (OEnd s (fun v h L => ∃ (b : Addr) (u : Value), v = some (.ref b) ∧ Fr n0 L ∧ Old Z n0 h ∧ Exa Z h b "java/util/Optional" ∧ Fld Z h b "java/util/Optional" "value" "Ljava/lang/Object;" u ∧ u = own_acc p1 r0 r1 r2 r3) ({ frames := 3, cells := 2, slots := 5, locals := 38 } : Room).cells ({ frames := 3, cells := 2, slots := 5, locals := 38 } : Room).slots)
    refine OGo.step (fun _ kk => XS.iloadN X11.here hx rfl (hb hby own_d_prog_11_method_7_code_15) rfl kk) ?_
    show OGo p e below (T11.setTop (mkF m 16 #[.val (.int p1), .val (.ref vb), .val (.int (4 : Int32)), .val (.int (1 : Int32)), .val (.ref r0)] [(.int (1 : Int32)), (.ref vb)])) (OEnd s (fun v h L => ∃ (b : Addr) (u : Value), v = some (.ref b) ∧ Fr n0 L ∧ Old Z n0 h ∧ Exa Z h b "java/util/Optional" ∧ Fld Z h b "java/util/Optional" "value" "Ljava/lang/Object;" u ∧ u = own_acc p1 r0 r1 r2 r3) ({ frames := 3, cells := 2, slots := 5, locals := 38 } : Room).cells ({ frames := 3, cells := 2, slots := 5, locals := 38 } : Room).slots)
    refine OGo.step (fun _ kk => X11.aaload hx (j := (1 : Int32)) (v := (.ref r1)) (by rw [e11]; exact (AB).1) (State.isArrayOf_alike hZ.alike (AB).2.1) rfl (AB).2.2 (inb_of (z := 4) VS ⟨by decide, by decide⟩) V1 (g := (mkF m 16 #[.val (.int p1), .val (.ref vb), .val (.int (4 : Int32)), .val (.int (1 : Int32)), .val (.ref r0)] [(.int (1 : Int32)), (.ref vb)])) rfl rfl (hb hby own_d_prog_11_method_7_code_16) _ kk) ?_
    show OGo p e below (T11.setTop (mkF m 17 #[.val (.int p1), .val (.ref vb), .val (.int (4 : Int32)), .val (.int (1 : Int32)), .val (.ref r0)] [(.ref r1)])) (OEnd s (fun v h L => ∃ (b : Addr) (u : Value), v = some (.ref b) ∧ Fr n0 L ∧ Old Z n0 h ∧ Exa Z h b "java/util/Optional" ∧ Fld Z h b "java/util/Optional" "value" "Ljava/lang/Object;" u ∧ u = own_acc p1 r0 r1 r2 r3) ({ frames := 3, cells := 2, slots := 5, locals := 38 } : Room).cells ({ frames := 3, cells := 2, slots := 5, locals := 38 } : Room).slots)
    refine OGo.step (fun _ kk => XS.astore X11.here hx rfl (hb hby own_d_prog_11_method_7_code_17) rfl rfl (l' := #[.val (.int p1), .val (.ref vb), .val (.int (4 : Int32)), .val (.int (1 : Int32)), .val (.ref r1)]) rfl kk) ?_
    show OGo p e below (T11.setTop (mkF m 19 #[.val (.int p1), .val (.ref vb), .val (.int (4 : Int32)), .val (.int (1 : Int32)), .val (.ref r1)] [])) (OEnd s (fun v h L => ∃ (b : Addr) (u : Value), v = some (.ref b) ∧ Fr n0 L ∧ Old Z n0 h ∧ Exa Z h b "java/util/Optional" ∧ Fld Z h b "java/util/Optional" "value" "Ljava/lang/Object;" u ∧ u = own_acc p1 r0 r1 r2 r3) ({ frames := 3, cells := 2, slots := 5, locals := 38 } : Room).cells ({ frames := 3, cells := 2, slots := 5, locals := 38 } : Room).slots)
    refine OGo.step (fun _ kk => XS.aload X11.here hx rfl (hb hby own_d_prog_11_method_7_code_19) rfl rfl kk) ?_
    show OGo p e below (T11.setTop (mkF m 21 #[.val (.int p1), .val (.ref vb), .val (.int (4 : Int32)), .val (.int (1 : Int32)), .val (.ref r1)] [(.ref r1)])) (OEnd s (fun v h L => ∃ (b : Addr) (u : Value), v = some (.ref b) ∧ Fr n0 L ∧ Old Z n0 h ∧ Exa Z h b "java/util/Optional" ∧ Fld Z h b "java/util/Optional" "value" "Ljava/lang/Object;" u ∧ u = own_acc p1 r0 r1 r2 r3) ({ frames := 3, cells := 2, slots := 5, locals := 38 } : Room).cells ({ frames := 3, cells := 2, slots := 5, locals := 38 } : Room).slots)
    obtain ⟨T13, X13, e13, st13⟩ := getF X11 hx hZ hown (host := "") (Or.inl (hw _ (List.mem_of_getElem? (i := 23) rfl))) Via.refl e11 (Fa1.ext O1.2) (g := (mkF m 21 #[.val (.int p1), .val (.ref vb), .val (.int (4 : Int32)), .val (.int (1 : Int32)), .val (.ref r1)] [(.ref r1)])) rfl rfl (hb hby own_d_prog_11_method_7_code_21)
    refine OGo.step st13 ?_
    show OGo p e below (T13.setTop (mkF m 24 #[.val (.int p1), .val (.ref vb), .val (.int (4 : Int32)), .val (.int (1 : Int32)), .val (.ref r1)] [(.int (3 : Int32))])) (OEnd s (fun v h L => ∃ (b : Addr) (u : Value), v = some (.ref b) ∧ Fr n0 L ∧ Old Z n0 h ∧ Exa Z h b "java/util/Optional" ∧ Fld Z h b "java/util/Optional" "value" "Ljava/lang/Object;" u ∧ u = own_acc p1 r0 r1 r2 r3) ({ frames := 3, cells := 2, slots := 5, locals := 38 } : Room).cells ({ frames := 3, cells := 2, slots := 5, locals := 38 } : Room).slots)
    refine OGo.step (fun _ kk => XS.iloadN X13.here hx rfl (hb hby own_d_prog_11_method_7_code_24) rfl kk) ?_
    show OGo p e below (T13.setTop (mkF m 25 #[.val (.int p1), .val (.ref vb), .val (.int (4 : Int32)), .val (.int (1 : Int32)), .val (.ref r1)] [(.int p1), (.int (3 : Int32))])) (OEnd s (fun v h L => ∃ (b : Addr) (u : Value), v = some (.ref b) ∧ Fr n0 L ∧ Old Z n0 h ∧ Exa Z h b "java/util/Optional" ∧ Fld Z h b "java/util/Optional" "value" "Ljava/lang/Object;" u ∧ u = own_acc p1 r0 r1 r2 r3) ({ frames := 3, cells := 2, slots := 5, locals := 38 } : Room).cells ({ frames := 3, cells := 2, slots := 5, locals := 38 } : Room).slots)
    by_cases ha1 : (3 : Int32) = p1
    · refine OGo.step (fun _ kk => XS.icmpNo X13.here hx rfl (hb hby own_d_prog_11_method_7_code_25) rfl (teq ha1).2 kk) ?_
      show OGo p e below (T13.setTop (mkF m 28 #[.val (.int p1), .val (.ref vb), .val (.int (4 : Int32)), .val (.int (1 : Int32)), .val (.ref r1)] [])) (OEnd s (fun v h L => ∃ (b : Addr) (u : Value), v = some (.ref b) ∧ Fr n0 L ∧ Old Z n0 h ∧ Exa Z h b "java/util/Optional" ∧ Fld Z h b "java/util/Optional" "value" "Ljava/lang/Object;" u ∧ u = own_acc p1 r0 r1 r2 r3) ({ frames := 3, cells := 2, slots := 5, locals := 38 } : Room).cells ({ frames := 3, cells := 2, slots := 5, locals := 38 } : Room).slots)
      refine OGo.step (fun _ kk => XS.aload X13.here hx rfl (hb hby own_d_prog_11_method_7_code_28) rfl rfl kk) ?_
      show OGo p e below (T13.setTop (mkF m 30 #[.val (.int p1), .val (.ref vb), .val (.int (4 : Int32)), .val (.int (1 : Int32)), .val (.ref r1)] [(.ref r1)])) (OEnd s (fun v h L => ∃ (b : Addr) (u : Value), v = some (.ref b) ∧ Fr n0 L ∧ Old Z n0 h ∧ Exa Z h b "java/util/Optional" ∧ Fld Z h b "java/util/Optional" "value" "Ljava/lang/Object;" u ∧ u = own_acc p1 r0 r1 r2 r3) ({ frames := 3, cells := 2, slots := 5, locals := 38 } : Room).cells ({ frames := 3, cells := 2, slots := 5, locals := 38 } : Room).slots)
      refine own_callS X13 hx hZ (y := (⟨"java/util/Optional", "of", "(Ljava/lang/Object;)Ljava/util/Optional;"⟩ : MethodName)) hown (hw _ (List.mem_of_getElem? (i := 25) rfl)) (hw _ (List.mem_of_getElem? (i := 26) rfl)) (hw _ (List.mem_of_getElem? (i := 27) rfl)) (hw _ (List.mem_of_getElem? (i := 28) rfl)) (by decide) (W := 0) (own_rm3 l Z a0 hw [] r1 _ n0 Z1 O1) e13  (pc := 30) (Ls := #[.val (.int p1), .val (.ref vb), .val (.int (4 : Int32)), .val (.int (1 : Int32)), .val (.ref r1)]) (argsL := [(.ref r1)]) (rest := []) (by rw [hml]; rfl) (lenOf own_pd3 rfl) rfl (hb hby own_d_prog_11_method_7_code_30) (by decide) (by decide) (by decide) (by decide) ?_
      intro v14 T14 L14 X14 hQ14
      obtain ⟨b, rfl, gb, N14, O2, Eb, Gv⟩ := hQ14
      show OGo p e below (T14.setTop (mkF m 33 #[.val (.int p1), .val (.ref vb), .val (.int (4 : Int32)), .val (.int (1 : Int32)), .val (.ref r1)] [(.ref b)])) (OEnd s (fun v h L => ∃ (b : Addr) (u : Value), v = some (.ref b) ∧ Fr n0 L ∧ Old Z n0 h ∧ Exa Z h b "java/util/Optional" ∧ Fld Z h b "java/util/Optional" "value" "Ljava/lang/Object;" u ∧ u = own_acc p1 r0 r1 r2 r3) ({ frames := 3, cells := 2, slots := 5, locals := 38 } : Room).cells ({ frames := 3, cells := 2, slots := 5, locals := 38 } : Room).slots)
      exact own_ret X14 hx hlk hret rfl (Or.inr (Or.inr (Or.inr (Or.inr ⟨rfl, rfl, rfl⟩)))) (hb hby own_d_prog_11_method_7_code_33) ⟨b, .ref r1, rfl, Nn.app N14, O2, Eb, Gv, by subst ha1; rfl⟩ (by decide) (by decide)
    · refine OGo.step (fun _ kk => XS.icmpYes X13.here hx rfl (pc0 := 25) (pc' := 34) rfl (hb hby own_d_prog_11_method_7_code_25) rfl (feq ha1).2 (by decide) (by decide) kk) ?_
      show OGo p e below (T13.setTop (mkF m 34 #[.val (.int p1), .val (.ref vb), .val (.int (4 : Int32)), .val (.int (1 : Int32)), .val (.ref r1)] [])) (OEnd s (fun v h L => ∃ (b : Addr) (u : Value), v = some (.ref b) ∧ Fr n0 L ∧ Old Z n0 h ∧ Exa Z h b "java/util/Optional" ∧ Fld Z h b "java/util/Optional" "value" "Ljava/lang/Object;" u ∧ u = own_acc p1 r0 r1 r2 r3) ({ frames := 3, cells := 2, slots := 5, locals := 38 } : Room).cells ({ frames := 3, cells := 2, slots := 5, locals := 38 } : Room).slots)
      refine OGo.step (fun _ kk => XS.iinc X13.here hx rfl (hb hby own_d_prog_11_method_7_code_34) rfl (l' := #[.val (.int p1), .val (.ref vb), .val (.int (4 : Int32)), .val (.int ((1 : Int32) + (1 : Int32))), .val (.ref r1)]) rfl kk) ?_
      show OGo p e below (T13.setTop (mkF m 37 #[.val (.int p1), .val (.ref vb), .val (.int (4 : Int32)), .val (.int ((1 : Int32) + (1 : Int32))), .val (.ref r1)] [])) (OEnd s (fun v h L => ∃ (b : Addr) (u : Value), v = some (.ref b) ∧ Fr n0 L ∧ Old Z n0 h ∧ Exa Z h b "java/util/Optional" ∧ Fld Z h b "java/util/Optional" "value" "Ljava/lang/Object;" u ∧ u = own_acc p1 r0 r1 r2 r3) ({ frames := 3, cells := 2, slots := 5, locals := 38 } : Room).cells ({ frames := 3, cells := 2, slots := 5, locals := 38 } : Room).slots)
      refine OGo.step (fun _ kk => XS.goto X13.here hx rfl (pc0 := 37) (pc' := 9) rfl (hb hby own_d_prog_11_method_7_code_37) (by decide) (by decide) kk) ?_
      show OGo p e below (T13.setTop (mkF m 9 #[.val (.int p1), .val (.ref vb), .val (.int (4 : Int32)), .val (.int ((1 : Int32) + (1 : Int32))), .val (.ref r1)] [])) (OEnd s (fun v h L => ∃ (b : Addr) (u : Value), v = some (.ref b) ∧ Fr n0 L ∧ Old Z n0 h ∧ Exa Z h b "java/util/Optional" ∧ Fld Z h b "java/util/Optional" "value" "Ljava/lang/Object;" u ∧ u = own_acc p1 r0 r1 r2 r3) ({ frames := 3, cells := 2, slots := 5, locals := 38 } : Room).cells ({ frames := 3, cells := 2, slots := 5, locals := 38 } : Room).slots)
      show OGo p e below (T13.setTop (mkF m 9 #[.val (.int p1), .val (.ref vb), .val (.int (4 : Int32)), .val (.int (2 : Int32)), .val (.ref r1)] [])) (OEnd s (fun v h L => ∃ (b : Addr) (u : Value), v = some (.ref b) ∧ Fr n0 L ∧ Old Z n0 h ∧ Exa Z h b "java/util/Optional" ∧ Fld Z h b "java/util/Optional" "value" "Ljava/lang/Object;" u ∧ u = own_acc p1 r0 r1 r2 r3) ({ frames := 3, cells := 2, slots := 5, locals := 38 } : Room).cells ({ frames := 3, cells := 2, slots := 5, locals := 38 } : Room).slots)
      refine OGo.step (fun _ kk => XS.iloadN X13.here hx rfl (hb hby own_d_prog_11_method_7_code_9) rfl kk) ?_
      show OGo p e below (T13.setTop (mkF m 10 #[.val (.int p1), .val (.ref vb), .val (.int (4 : Int32)), .val (.int (2 : Int32)), .val (.ref r1)] [(.int (2 : Int32))])) (OEnd s (fun v h L => ∃ (b : Addr) (u : Value), v = some (.ref b) ∧ Fr n0 L ∧ Old Z n0 h ∧ Exa Z h b "java/util/Optional" ∧ Fld Z h b "java/util/Optional" "value" "Ljava/lang/Object;" u ∧ u = own_acc p1 r0 r1 r2 r3) ({ frames := 3, cells := 2, slots := 5, locals := 38 } : Room).cells ({ frames := 3, cells := 2, slots := 5, locals := 38 } : Room).slots)
      refine OGo.step (fun _ kk => XS.iloadN X13.here hx rfl (hb hby own_d_prog_11_method_7_code_10) rfl kk) ?_
      show OGo p e below (T13.setTop (mkF m 11 #[.val (.int p1), .val (.ref vb), .val (.int (4 : Int32)), .val (.int (2 : Int32)), .val (.ref r1)] [(.int (4 : Int32)), (.int (2 : Int32))])) (OEnd s (fun v h L => ∃ (b : Addr) (u : Value), v = some (.ref b) ∧ Fr n0 L ∧ Old Z n0 h ∧ Exa Z h b "java/util/Optional" ∧ Fld Z h b "java/util/Optional" "value" "Ljava/lang/Object;" u ∧ u = own_acc p1 r0 r1 r2 r3) ({ frames := 3, cells := 2, slots := 5, locals := 38 } : Room).cells ({ frames := 3, cells := 2, slots := 5, locals := 38 } : Room).slots)
      refine OGo.step (fun _ kk => XS.icmpNo X13.here hx rfl (hb hby own_d_prog_11_method_7_code_11) rfl (tlt (by decide)).2.1 kk) ?_
      show OGo p e below (T13.setTop (mkF m 14 #[.val (.int p1), .val (.ref vb), .val (.int (4 : Int32)), .val (.int (2 : Int32)), .val (.ref r1)] [])) (OEnd s (fun v h L => ∃ (b : Addr) (u : Value), v = some (.ref b) ∧ Fr n0 L ∧ Old Z n0 h ∧ Exa Z h b "java/util/Optional" ∧ Fld Z h b "java/util/Optional" "value" "Ljava/lang/Object;" u ∧ u = own_acc p1 r0 r1 r2 r3) ({ frames := 3, cells := 2, slots := 5, locals := 38 } : Room).cells ({ frames := 3, cells := 2, slots := 5, locals := 38 } : Room).slots)
      refine OGo.step (fun _ kk => XS.aloadN X13.here hx rfl (hb hby own_d_prog_11_method_7_code_14) rfl rfl kk) ?_
      show OGo p e below (T13.setTop (mkF m 15 #[.val (.int p1), .val (.ref vb), .val (.int (4 : Int32)), .val (.int (2 : Int32)), .val (.ref r1)] [(.ref vb)])) (OEnd s (fun v h L => ∃ (b : Addr) (u : Value), v = some (.ref b) ∧ Fr n0 L ∧ Old Z n0 h ∧ Exa Z h b "java/util/Optional" ∧ Fld Z h b "java/util/Optional" "value" "Ljava/lang/Object;" u ∧ u = own_acc p1 r0 r1 r2 r3) ({ frames := 3, cells := 2, slots := 5, locals := 38 } : Room).cells ({ frames := 3, cells := 2, slots := 5, locals := 38 } : Room).slots)
      refine OGo.step (fun _ kk => XS.iloadN X13.here hx rfl (hb hby own_d_prog_11_method_7_code_15) rfl kk) ?_
      show OGo p e below (T13.setTop (mkF m 16 #[.val (.int p1), .val (.ref vb), .val (.int (4 : Int32)), .val (.int (2 : Int32)), .val (.ref r1)] [(.int (2 : Int32)), (.ref vb)])) (OEnd s (fun v h L => ∃ (b : Addr) (u : Value), v = some (.ref b) ∧ Fr n0 L ∧ Old Z n0 h ∧ Exa Z h b "java/util/Optional" ∧ Fld Z h b "java/util/Optional" "value" "Ljava/lang/Object;" u ∧ u = own_acc p1 r0 r1 r2 r3) ({ frames := 3, cells := 2, slots := 5, locals := 38 } : Room).cells ({ frames := 3, cells := 2, slots := 5, locals := 38 } : Room).slots)
      refine OGo.step (fun _ kk => X13.aaload hx (j := (2 : Int32)) (v := (.ref r2)) (by rw [e13]; exact (AB).1) (State.isArrayOf_alike hZ.alike (AB).2.1) rfl (AB).2.2 (inb_of (z := 4) VS ⟨by decide, by decide⟩) V2 (g := (mkF m 16 #[.val (.int p1), .val (.ref vb), .val (.int (4 : Int32)), .val (.int (2 : Int32)), .val (.ref r1)] [(.int (2 : Int32)), (.ref vb)])) rfl rfl (hb hby own_d_prog_11_method_7_code_16) _ kk) ?_
      show OGo p e below (T13.setTop (mkF m 17 #[.val (.int p1), .val (.ref vb), .val (.int (4 : Int32)), .val (.int (2 : Int32)), .val (.ref r1)] [(.ref r2)])) (OEnd s (fun v h L => ∃ (b : Addr) (u : Value), v = some (.ref b) ∧ Fr n0 L ∧ Old Z n0 h ∧ Exa Z h b "java/util/Optional" ∧ Fld Z h b "java/util/Optional" "value" "Ljava/lang/Object;" u ∧ u = own_acc p1 r0 r1 r2 r3) ({ frames := 3, cells := 2, slots := 5, locals := 38 } : Room).cells ({ frames := 3, cells := 2, slots := 5, locals := 38 } : Room).slots)
      refine OGo.step (fun _ kk => XS.astore X13.here hx rfl (hb hby own_d_prog_11_method_7_code_17) rfl rfl (l' := #[.val (.int p1), .val (.ref vb), .val (.int (4 : Int32)), .val (.int (2 : Int32)), .val (.ref r2)]) rfl kk) ?_
      show OGo p e below (T13.setTop (mkF m 19 #[.val (.int p1), .val (.ref vb), .val (.int (4 : Int32)), .val (.int (2 : Int32)), .val (.ref r2)] [])) (OEnd s (fun v h L => ∃ (b : Addr) (u : Value), v = some (.ref b) ∧ Fr n0 L ∧ Old Z n0 h ∧ Exa Z h b "java/util/Optional" ∧ Fld Z h b "java/util/Optional" "value" "Ljava/lang/Object;" u ∧ u = own_acc p1 r0 r1 r2 r3) ({ frames := 3, cells := 2, slots := 5, locals := 38 } : Room).cells ({ frames := 3, cells := 2, slots := 5, locals := 38 } : Room).slots)
      refine OGo.step (fun _ kk => XS.aload X13.here hx rfl (hb hby own_d_prog_11_method_7_code_19) rfl rfl kk) ?_
      show OGo p e below (T13.setTop (mkF m 21 #[.val (.int p1), .val (.ref vb), .val (.int (4 : Int32)), .val (.int (2 : Int32)), .val (.ref r2)] [(.ref r2)])) (OEnd s (fun v h L => ∃ (b : Addr) (u : Value), v = some (.ref b) ∧ Fr n0 L ∧ Old Z n0 h ∧ Exa Z h b "java/util/Optional" ∧ Fld Z h b "java/util/Optional" "value" "Ljava/lang/Object;" u ∧ u = own_acc p1 r0 r1 r2 r3) ({ frames := 3, cells := 2, slots := 5, locals := 38 } : Room).cells ({ frames := 3, cells := 2, slots := 5, locals := 38 } : Room).slots)
      obtain ⟨T15, X15, e15, st15⟩ := getF X13 hx hZ hown (host := "") (Or.inl (hw _ (List.mem_of_getElem? (i := 23) rfl))) Via.refl e13 (Fa2.ext O1.2) (g := (mkF m 21 #[.val (.int p1), .val (.ref vb), .val (.int (4 : Int32)), .val (.int (2 : Int32)), .val (.ref r2)] [(.ref r2)])) rfl rfl (hb hby own_d_prog_11_method_7_code_21)
      refine OGo.step st15 ?_
      show OGo p e below (T15.setTop (mkF m 24 #[.val (.int p1), .val (.ref vb), .val (.int (4 : Int32)), .val (.int (2 : Int32)), .val (.ref r2)] [(.int (2 : Int32))])) (OEnd s (fun v h L => ∃ (b : Addr) (u : Value), v = some (.ref b) ∧ Fr n0 L ∧ Old Z n0 h ∧ Exa Z h b "java/util/Optional" ∧ Fld Z h b "java/util/Optional" "value" "Ljava/lang/Object;" u ∧ u = own_acc p1 r0 r1 r2 r3) ({ frames := 3, cells := 2, slots := 5, locals := 38 } : Room).cells ({ frames := 3, cells := 2, slots := 5, locals := 38 } : Room).slots)
      refine OGo.step (fun _ kk => XS.iloadN X15.here hx rfl (hb hby own_d_prog_11_method_7_code_24) rfl kk) ?_
      show OGo p e below (T15.setTop (mkF m 25 #[.val (.int p1), .val (.ref vb), .val (.int (4 : Int32)), .val (.int (2 : Int32)), .val (.ref r2)] [(.int p1), (.int (2 : Int32))])) (OEnd s (fun v h L => ∃ (b : Addr) (u : Value), v = some (.ref b) ∧ Fr n0 L ∧ Old Z n0 h ∧ Exa Z h b "java/util/Optional" ∧ Fld Z h b "java/util/Optional" "value" "Ljava/lang/Object;" u ∧ u = own_acc p1 r0 r1 r2 r3) ({ frames := 3, cells := 2, slots := 5, locals := 38 } : Room).cells ({ frames := 3, cells := 2, slots := 5, locals := 38 } : Room).slots)
      by_cases ha2 : (2 : Int32) = p1
      · refine OGo.step (fun _ kk => XS.icmpNo X15.here hx rfl (hb hby own_d_prog_11_method_7_code_25) rfl (teq ha2).2 kk) ?_
        show OGo p e below (T15.setTop (mkF m 28 #[.val (.int p1), .val (.ref vb), .val (.int (4 : Int32)), .val (.int (2 : Int32)), .val (.ref r2)] [])) (OEnd s (fun v h L => ∃ (b : Addr) (u : Value), v = some (.ref b) ∧ Fr n0 L ∧ Old Z n0 h ∧ Exa Z h b "java/util/Optional" ∧ Fld Z h b "java/util/Optional" "value" "Ljava/lang/Object;" u ∧ u = own_acc p1 r0 r1 r2 r3) ({ frames := 3, cells := 2, slots := 5, locals := 38 } : Room).cells ({ frames := 3, cells := 2, slots := 5, locals := 38 } : Room).slots)
        refine OGo.step (fun _ kk => XS.aload X15.here hx rfl (hb hby own_d_prog_11_method_7_code_28) rfl rfl kk) ?_
        show OGo p e below (T15.setTop (mkF m 30 #[.val (.int p1), .val (.ref vb), .val (.int (4 : Int32)), .val (.int (2 : Int32)), .val (.ref r2)] [(.ref r2)])) (OEnd s (fun v h L => ∃ (b : Addr) (u : Value), v = some (.ref b) ∧ Fr n0 L ∧ Old Z n0 h ∧ Exa Z h b "java/util/Optional" ∧ Fld Z h b "java/util/Optional" "value" "Ljava/lang/Object;" u ∧ u = own_acc p1 r0 r1 r2 r3) ({ frames := 3, cells := 2, slots := 5, locals := 38 } : Room).cells ({ frames := 3, cells := 2, slots := 5, locals := 38 } : Room).slots)
        refine own_callS X15 hx hZ (y := (⟨"java/util/Optional", "of", "(Ljava/lang/Object;)Ljava/util/Optional;"⟩ : MethodName)) hown (hw _ (List.mem_of_getElem? (i := 25) rfl)) (hw _ (List.mem_of_getElem? (i := 26) rfl)) (hw _ (List.mem_of_getElem? (i := 27) rfl)) (hw _ (List.mem_of_getElem? (i := 28) rfl)) (by decide) (W := 0) (own_rm3 l Z a0 hw [] r2 _ n0 Z1 O1) e15  (pc := 30) (Ls := #[.val (.int p1), .val (.ref vb), .val (.int (4 : Int32)), .val (.int (2 : Int32)), .val (.ref r2)]) (argsL := [(.ref r2)]) (rest := []) (by rw [hml]; rfl) (lenOf own_pd3 rfl) rfl (hb hby own_d_prog_11_method_7_code_30) (by decide) (by decide) (by decide) (by decide) ?_
        intro v16 T16 L16 X16 hQ16
        obtain ⟨b, rfl, gb, N16, O2, Eb, Gv⟩ := hQ16
        show OGo p e below (T16.setTop (mkF m 33 #[.val (.int p1), .val (.ref vb), .val (.int (4 : Int32)), .val (.int (2 : Int32)), .val (.ref r2)] [(.ref b)])) (OEnd s (fun v h L => ∃ (b : Addr) (u : Value), v = some (.ref b) ∧ Fr n0 L ∧ Old Z n0 h ∧ Exa Z h b "java/util/Optional" ∧ Fld Z h b "java/util/Optional" "value" "Ljava/lang/Object;" u ∧ u = own_acc p1 r0 r1 r2 r3) ({ frames := 3, cells := 2, slots := 5, locals := 38 } : Room).cells ({ frames := 3, cells := 2, slots := 5, locals := 38 } : Room).slots)
        exact own_ret X16 hx hlk hret rfl (Or.inr (Or.inr (Or.inr (Or.inr ⟨rfl, rfl, rfl⟩)))) (hb hby own_d_prog_11_method_7_code_33) ⟨b, .ref r2, rfl, Nn.app N16, O2, Eb, Gv, by subst ha2; rfl⟩ (by decide) (by decide)
      · refine OGo.step (fun _ kk => XS.icmpYes X15.here hx rfl (pc0 := 25) (pc' := 34) rfl (hb hby own_d_prog_11_method_7_code_25) rfl (feq ha2).2 (by decide) (by decide) kk) ?_
        show OGo p e below (T15.setTop (mkF m 34 #[.val (.int p1), .val (.ref vb), .val (.int (4 : Int32)), .val (.int (2 : Int32)), .val (.ref r2)] [])) (OEnd s (fun v h L => ∃ (b : Addr) (u : Value), v = some (.ref b) ∧ Fr n0 L ∧ Old Z n0 h ∧ Exa Z h b "java/util/Optional" ∧ Fld Z h b "java/util/Optional" "value" "Ljava/lang/Object;" u ∧ u = own_acc p1 r0 r1 r2 r3) ({ frames := 3, cells := 2, slots := 5, locals := 38 } : Room).cells ({ frames := 3, cells := 2, slots := 5, locals := 38 } : Room).slots)
        refine OGo.step (fun _ kk => XS.iinc X15.here hx rfl (hb hby own_d_prog_11_method_7_code_34) rfl (l' := #[.val (.int p1), .val (.ref vb), .val (.int (4 : Int32)), .val (.int ((2 : Int32) + (1 : Int32))), .val (.ref r2)]) rfl kk) ?_
        show OGo p e below (T15.setTop (mkF m 37 #[.val (.int p1), .val (.ref vb), .val (.int (4 : Int32)), .val (.int ((2 : Int32) + (1 : Int32))), .val (.ref r2)] [])) (OEnd s (fun v h L => ∃ (b : Addr) (u : Value), v = some (.ref b) ∧ Fr n0 L ∧ Old Z n0 h ∧ Exa Z h b "java/util/Optional" ∧ Fld Z h b "java/util/Optional" "value" "Ljava/lang/Object;" u ∧ u = own_acc p1 r0 r1 r2 r3) ({ frames := 3, cells := 2, slots := 5, locals := 38 } : Room).cells ({ frames := 3, cells := 2, slots := 5, locals := 38 } : Room).slots)
        refine OGo.step (fun _ kk => XS.goto X15.here hx rfl (pc0 := 37) (pc' := 9) rfl (hb hby own_d_prog_11_method_7_code_37) (by decide) (by decide) kk) ?_
        show OGo p e below (T15.setTop (mkF m 9 #[.val (.int p1), .val (.ref vb), .val (.int (4 : Int32)), .val (.int ((2 : Int32) + (1 : Int32))), .val (.ref r2)] [])) (OEnd s (fun v h L => ∃ (b : Addr) (u : Value), v = some (.ref b) ∧ Fr n0 L ∧ Old Z n0 h ∧ Exa Z h b "java/util/Optional" ∧ Fld Z h b "java/util/Optional" "value" "Ljava/lang/Object;" u ∧ u = own_acc p1 r0 r1 r2 r3) ({ frames := 3, cells := 2, slots := 5, locals := 38 } : Room).cells ({ frames := 3, cells := 2, slots := 5, locals := 38 } : Room).slots)
        show OGo p e below (T15.setTop (mkF m 9 #[.val (.int p1), .val (.ref vb), .val (.int (4 : Int32)), .val (.int (3 : Int32)), .val (.ref r2)] [])) (OEnd s (fun v h L => ∃ (b : Addr) (u : Value), v = some (.ref b) ∧ Fr n0 L ∧ Old Z n0 h ∧ Exa Z h b "java/util/Optional" ∧ Fld Z h b "java/util/Optional" "value" "Ljava/lang/Object;" u ∧ u = own_acc p1 r0 r1 r2 r3) ({ frames := 3, cells := 2, slots := 5, locals := 38 } : Room).cells ({ frames := 3, cells := 2, slots := 5, locals := 38 } : Room).slots)
        refine OGo.step (fun _ kk => XS.iloadN X15.here hx rfl (hb hby own_d_prog_11_method_7_code_9) rfl kk) ?_
        show OGo p e below (T15.setTop (mkF m 10 #[.val (.int p1), .val (.ref vb), .val (.int (4 : Int32)), .val (.int (3 : Int32)), .val (.ref r2)] [(.int (3 : Int32))])) (OEnd s (fun v h L => ∃ (b : Addr) (u : Value), v = some (.ref b) ∧ Fr n0 L ∧ Old Z n0 h ∧ Exa Z h b "java/util/Optional" ∧ Fld Z h b "java/util/Optional" "value" "Ljava/lang/Object;" u ∧ u = own_acc p1 r0 r1 r2 r3) ({ frames := 3, cells := 2, slots := 5, locals := 38 } : Room).cells ({ frames := 3, cells := 2, slots := 5, locals := 38 } : Room).slots)
        refine OGo.step (fun _ kk => XS.iloadN X15.here hx rfl (hb hby own_d_prog_11_method_7_code_10) rfl kk) ?_
        show OGo p e below (T15.setTop (mkF m 11 #[.val (.int p1), .val (.ref vb), .val (.int (4 : Int32)), .val (.int (3 : Int32)), .val (.ref r2)] [(.int (4 : Int32)), (.int (3 : Int32))])) (OEnd s (fun v h L => ∃ (b : Addr) (u : Value), v = some (.ref b) ∧ Fr n0 L ∧ Old Z n0 h ∧ Exa Z h b "java/util/Optional" ∧ Fld Z h b "java/util/Optional" "value" "Ljava/lang/Object;" u ∧ u = own_acc p1 r0 r1 r2 r3) ({ frames := 3, cells := 2, slots := 5, locals := 38 } : Room).cells ({ frames := 3, cells := 2, slots := 5, locals := 38 } : Room).slots)
        refine OGo.step (fun _ kk => XS.icmpNo X15.here hx rfl (hb hby own_d_prog_11_method_7_code_11) rfl (tlt (by decide)).2.1 kk) ?_
        show OGo p e below (T15.setTop (mkF m 14 #[.val (.int p1), .val (.ref vb), .val (.int (4 : Int32)), .val (.int (3 : Int32)), .val (.ref r2)] [])) (OEnd s (fun v h L => ∃ (b : Addr) (u : Value), v = some (.ref b) ∧ Fr n0 L ∧ Old Z n0 h ∧ Exa Z h b "java/util/Optional" ∧ Fld Z h b "java/util/Optional" "value" "Ljava/lang/Object;" u ∧ u = own_acc p1 r0 r1 r2 r3) ({ frames := 3, cells := 2, slots := 5, locals := 38 } : Room).cells ({ frames := 3, cells := 2, slots := 5, locals := 38 } : Room).slots)
        refine OGo.step (fun _ kk => XS.aloadN X15.here hx rfl (hb hby own_d_prog_11_method_7_code_14) rfl rfl kk) ?_
        show OGo p e below (T15.setTop (mkF m 15 #[.val (.int p1), .val (.ref vb), .val (.int (4 : Int32)), .val (.int (3 : Int32)), .val (.ref r2)] [(.ref vb)])) (OEnd s (fun v h L => ∃ (b : Addr) (u : Value), v = some (.ref b) ∧ Fr n0 L ∧ Old Z n0 h ∧ Exa Z h b "java/util/Optional" ∧ Fld Z h b "java/util/Optional" "value" "Ljava/lang/Object;" u ∧ u = own_acc p1 r0 r1 r2 r3) ({ frames := 3, cells := 2, slots := 5, locals := 38 } : Room).cells ({ frames := 3, cells := 2, slots := 5, locals := 38 } : Room).slots)
        refine OGo.step (fun _ kk => XS.iloadN X15.here hx rfl (hb hby own_d_prog_11_method_7_code_15) rfl kk) ?_
        show OGo p e below (T15.setTop (mkF m 16 #[.val (.int p1), .val (.ref vb), .val (.int (4 : Int32)), .val (.int (3 : Int32)), .val (.ref r2)] [(.int (3 : Int32)), (.ref vb)])) (OEnd s (fun v h L => ∃ (b : Addr) (u : Value), v = some (.ref b) ∧ Fr n0 L ∧ Old Z n0 h ∧ Exa Z h b "java/util/Optional" ∧ Fld Z h b "java/util/Optional" "value" "Ljava/lang/Object;" u ∧ u = own_acc p1 r0 r1 r2 r3) ({ frames := 3, cells := 2, slots := 5, locals := 38 } : Room).cells ({ frames := 3, cells := 2, slots := 5, locals := 38 } : Room).slots)
        refine OGo.step (fun _ kk => X15.aaload hx (j := (3 : Int32)) (v := (.ref r3)) (by rw [e15]; exact (AB).1) (State.isArrayOf_alike hZ.alike (AB).2.1) rfl (AB).2.2 (inb_of (z := 4) VS ⟨by decide, by decide⟩) V3 (g := (mkF m 16 #[.val (.int p1), .val (.ref vb), .val (.int (4 : Int32)), .val (.int (3 : Int32)), .val (.ref r2)] [(.int (3 : Int32)), (.ref vb)])) rfl rfl (hb hby own_d_prog_11_method_7_code_16) _ kk) ?_
        show OGo p e below (T15.setTop (mkF m 17 #[.val (.int p1), .val (.ref vb), .val (.int (4 : Int32)), .val (.int (3 : Int32)), .val (.ref r2)] [(.ref r3)])) (OEnd s (fun v h L => ∃ (b : Addr) (u : Value), v = some (.ref b) ∧ Fr n0 L ∧ Old Z n0 h ∧ Exa Z h b "java/util/Optional" ∧ Fld Z h b "java/util/Optional" "value" "Ljava/lang/Object;" u ∧ u = own_acc p1 r0 r1 r2 r3) ({ frames := 3, cells := 2, slots := 5, locals := 38 } : Room).cells ({ frames := 3, cells := 2, slots := 5, locals := 38 } : Room).slots)
        refine OGo.step (fun _ kk => XS.astore X15.here hx rfl (hb hby own_d_prog_11_method_7_code_17) rfl rfl (l' := #[.val (.int p1), .val (.ref vb), .val (.int (4 : Int32)), .val (.int (3 : Int32)), .val (.ref r3)]) rfl kk) ?_
        show OGo p e below (T15.setTop (mkF m 19 #[.val (.int p1), .val (.ref vb), .val (.int (4 : Int32)), .val (.int (3 : Int32)), .val (.ref r3)] [])) (OEnd s (fun v h L => ∃ (b : Addr) (u : Value), v = some (.ref b) ∧ Fr n0 L ∧ Old Z n0 h ∧ Exa Z h b "java/util/Optional" ∧ Fld Z h b "java/util/Optional" "value" "Ljava/lang/Object;" u ∧ u = own_acc p1 r0 r1 r2 r3) ({ frames := 3, cells := 2, slots := 5, locals := 38 } : Room).cells ({ frames := 3, cells := 2, slots := 5, locals := 38 } : Room).slots)
        refine OGo.step (fun _ kk => XS.aload X15.here hx rfl (hb hby own_d_prog_11_method_7_code_19) rfl rfl kk) ?_
        show OGo p e below (T15.setTop (mkF m 21 #[.val (.int p1), .val (.ref vb), .val (.int (4 : Int32)), .val (.int (3 : Int32)), .val (.ref r3)] [(.ref r3)])) (OEnd s (fun v h L => ∃ (b : Addr) (u : Value), v = some (.ref b) ∧ Fr n0 L ∧ Old Z n0 h ∧ Exa Z h b "java/util/Optional" ∧ Fld Z h b "java/util/Optional" "value" "Ljava/lang/Object;" u ∧ u = own_acc p1 r0 r1 r2 r3) ({ frames := 3, cells := 2, slots := 5, locals := 38 } : Room).cells ({ frames := 3, cells := 2, slots := 5, locals := 38 } : Room).slots)
        obtain ⟨T17, X17, e17, st17⟩ := getF X15 hx hZ hown (host := "") (Or.inl (hw _ (List.mem_of_getElem? (i := 23) rfl))) Via.refl e15 (Fa3.ext O1.2) (g := (mkF m 21 #[.val (.int p1), .val (.ref vb), .val (.int (4 : Int32)), .val (.int (3 : Int32)), .val (.ref r3)] [(.ref r3)])) rfl rfl (hb hby own_d_prog_11_method_7_code_21)
        refine OGo.step st17 ?_
        show OGo p e below (T17.setTop (mkF m 24 #[.val (.int p1), .val (.ref vb), .val (.int (4 : Int32)), .val (.int (3 : Int32)), .val (.ref r3)] [(.int (0 : Int32))])) (OEnd s (fun v h L => ∃ (b : Addr) (u : Value), v = some (.ref b) ∧ Fr n0 L ∧ Old Z n0 h ∧ Exa Z h b "java/util/Optional" ∧ Fld Z h b "java/util/Optional" "value" "Ljava/lang/Object;" u ∧ u = own_acc p1 r0 r1 r2 r3) ({ frames := 3, cells := 2, slots := 5, locals := 38 } : Room).cells ({ frames := 3, cells := 2, slots := 5, locals := 38 } : Room).slots)
        refine OGo.step (fun _ kk => XS.iloadN X17.here hx rfl (hb hby own_d_prog_11_method_7_code_24) rfl kk) ?_
        show OGo p e below (T17.setTop (mkF m 25 #[.val (.int p1), .val (.ref vb), .val (.int (4 : Int32)), .val (.int (3 : Int32)), .val (.ref r3)] [(.int p1), (.int (0 : Int32))])) (OEnd s (fun v h L => ∃ (b : Addr) (u : Value), v = some (.ref b) ∧ Fr n0 L ∧ Old Z n0 h ∧ Exa Z h b "java/util/Optional" ∧ Fld Z h b "java/util/Optional" "value" "Ljava/lang/Object;" u ∧ u = own_acc p1 r0 r1 r2 r3) ({ frames := 3, cells := 2, slots := 5, locals := 38 } : Room).cells ({ frames := 3, cells := 2, slots := 5, locals := 38 } : Room).slots)
        by_cases ha3 : (0 : Int32) = p1
        · refine OGo.step (fun _ kk => XS.icmpNo X17.here hx rfl (hb hby own_d_prog_11_method_7_code_25) rfl (teq ha3).2 kk) ?_
          show OGo p e below (T17.setTop (mkF m 28 #[.val (.int p1), .val (.ref vb), .val (.int (4 : Int32)), .val (.int (3 : Int32)), .val (.ref r3)] [])) (OEnd s (fun v h L => ∃ (b : Addr) (u : Value), v = some (.ref b) ∧ Fr n0 L ∧ Old Z n0 h ∧ Exa Z h b "java/util/Optional" ∧ Fld Z h b "java/util/Optional" "value" "Ljava/lang/Object;" u ∧ u = own_acc p1 r0 r1 r2 r3) ({ frames := 3, cells := 2, slots := 5, locals := 38 } : Room).cells ({ frames := 3, cells := 2, slots := 5, locals := 38 } : Room).slots)
          refine OGo.step (fun _ kk => XS.aload X17.here hx rfl (hb hby own_d_prog_11_method_7_code_28) rfl rfl kk) ?_
          show OGo p e below (T17.setTop (mkF m 30 #[.val (.int p1), .val (.ref vb), .val (.int (4 : Int32)), .val (.int (3 : Int32)), .val (.ref r3)] [(.ref r3)])) (OEnd s (fun v h L => ∃ (b : Addr) (u : Value), v = some (.ref b) ∧ Fr n0 L ∧ Old Z n0 h ∧ Exa Z h b "java/util/Optional" ∧ Fld Z h b "java/util/Optional" "value" "Ljava/lang/Object;" u ∧ u = own_acc p1 r0 r1 r2 r3) ({ frames := 3, cells := 2, slots := 5, locals := 38 } : Room).cells ({ frames := 3, cells := 2, slots := 5, locals := 38 } : Room).slots)
          refine own_callS X17 hx hZ (y := (⟨"java/util/Optional", "of", "(Ljava/lang/Object;)Ljava/util/Optional;"⟩ : MethodName)) hown (hw _ (List.mem_of_getElem? (i := 25) rfl)) (hw _ (List.mem_of_getElem? (i := 26) rfl)) (hw _ (List.mem_of_getElem? (i := 27) rfl)) (hw _ (List.mem_of_getElem? (i := 28) rfl)) (by decide) (W := 0) (own_rm3 l Z a0 hw [] r3 _ n0 Z1 O1) e17  (pc := 30) (Ls := #[.val (.int p1), .val (.ref vb), .val (.int (4 : Int32)), .val (.int (3 : Int32)), .val (.ref r3)]) (argsL := [(.ref r3)]) (rest := []) (by rw [hml]; rfl) (lenOf own_pd3 rfl) rfl (hb hby own_d_prog_11_method_7_code_30) (by decide) (by decide) (by decide) (by decide) ?_
          intro v18 T18 L18 X18 hQ18
          obtain ⟨b, rfl, gb, N18, O2, Eb, Gv⟩ := hQ18
          show OGo p e below (T18.setTop (mkF m 33 #[.val (.int p1), .val (.ref vb), .val (.int (4 : Int32)), .val (.int (3 : Int32)), .val (.ref r3)] [(.ref b)])) (OEnd s (fun v h L => ∃ (b : Addr) (u : Value), v = some (.ref b) ∧ Fr n0 L ∧ Old Z n0 h ∧ Exa Z h b "java/util/Optional" ∧ Fld Z h b "java/util/Optional" "value" "Ljava/lang/Object;" u ∧ u = own_acc p1 r0 r1 r2 r3) ({ frames := 3, cells := 2, slots := 5, locals := 38 } : Room).cells ({ frames := 3, cells := 2, slots := 5, locals := 38 } : Room).slots)
          exact own_ret X18 hx hlk hret rfl (Or.inr (Or.inr (Or.inr (Or.inr ⟨rfl, rfl, rfl⟩)))) (hb hby own_d_prog_11_method_7_code_33) ⟨b, .ref r3, rfl, Nn.app N18, O2, Eb, Gv, by subst ha3; rfl⟩ (by decide) (by decide)
        · refine OGo.step (fun _ kk => XS.icmpYes X17.here hx rfl (pc0 := 25) (pc' := 34) rfl (hb hby own_d_prog_11_method_7_code_25) rfl (feq ha3).2 (by decide) (by decide) kk) ?_
          show OGo p e below (T17.setTop (mkF m 34 #[.val (.int p1), .val (.ref vb), .val (.int (4 : Int32)), .val (.int (3 : Int32)), .val (.ref r3)] [])) (OEnd s (fun v h L => ∃ (b : Addr) (u : Value), v = some (.ref b) ∧ Fr n0 L ∧ Old Z n0 h ∧ Exa Z h b "java/util/Optional" ∧ Fld Z h b "java/util/Optional" "value" "Ljava/lang/Object;" u ∧ u = own_acc p1 r0 r1 r2 r3) ({ frames := 3, cells := 2, slots := 5, locals := 38 } : Room).cells ({ frames := 3, cells := 2, slots := 5, locals := 38 } : Room).slots)
          refine OGo.step (fun _ kk => XS.iinc X17.here hx rfl (hb hby own_d_prog_11_method_7_code_34) rfl (l' := #[.val (.int p1), .val (.ref vb), .val (.int (4 : Int32)), .val (.int ((3 : Int32) + (1 : Int32))), .val (.ref r3)]) rfl kk) ?_
          show OGo p e below (T17.setTop (mkF m 37 #[.val (.int p1), .val (.ref vb), .val (.int (4 : Int32)), .val (.int ((3 : Int32) + (1 : Int32))), .val (.ref r3)] [])) (OEnd s (fun v h L => ∃ (b : Addr) (u : Value), v = some (.ref b) ∧ Fr n0 L ∧ Old Z n0 h ∧ Exa Z h b "java/util/Optional" ∧ Fld Z h b "java/util/Optional" "value" "Ljava/lang/Object;" u ∧ u = own_acc p1 r0 r1 r2 r3) ({ frames := 3, cells := 2, slots := 5, locals := 38 } : Room).cells ({ frames := 3, cells := 2, slots := 5, locals := 38 } : Room).slots)
          refine OGo.step (fun _ kk => XS.goto X17.here hx rfl (pc0 := 37) (pc' := 9) rfl (hb hby own_d_prog_11_method_7_code_37) (by decide) (by decide) kk) ?_
          show OGo p e below (T17.setTop (mkF m 9 #[.val (.int p1), .val (.ref vb), .val (.int (4 : Int32)), .val (.int ((3 : Int32) + (1 : Int32))), .val (.ref r3)] [])) (OEnd s (fun v h L => ∃ (b : Addr) (u : Value), v = some (.ref b) ∧ Fr n0 L ∧ Old Z n0 h ∧ Exa Z h b "java/util/Optional" ∧ Fld Z h b "java/util/Optional" "value" "Ljava/lang/Object;" u ∧ u = own_acc p1 r0 r1 r2 r3) ({ frames := 3, cells := 2, slots := 5, locals := 38 } : Room).cells ({ frames := 3, cells := 2, slots := 5, locals := 38 } : Room).slots)
          show OGo p e below (T17.setTop (mkF m 9 #[.val (.int p1), .val (.ref vb), .val (.int (4 : Int32)), .val (.int (4 : Int32)), .val (.ref r3)] [])) (OEnd s (fun v h L => ∃ (b : Addr) (u : Value), v = some (.ref b) ∧ Fr n0 L ∧ Old Z n0 h ∧ Exa Z h b "java/util/Optional" ∧ Fld Z h b "java/util/Optional" "value" "Ljava/lang/Object;" u ∧ u = own_acc p1 r0 r1 r2 r3) ({ frames := 3, cells := 2, slots := 5, locals := 38 } : Room).cells ({ frames := 3, cells := 2, slots := 5, locals := 38 } : Room).slots)
          refine OGo.step (fun _ kk => XS.iloadN X17.here hx rfl (hb hby own_d_prog_11_method_7_code_9) rfl kk) ?_
          show OGo p e below (T17.setTop (mkF m 10 #[.val (.int p1), .val (.ref vb), .val (.int (4 : Int32)), .val (.int (4 : Int32)), .val (.ref r3)] [(.int (4 : Int32))])) (OEnd s (fun v h L => ∃ (b : Addr) (u : Value), v = some (.ref b) ∧ Fr n0 L ∧ Old Z n0 h ∧ Exa Z h b "java/util/Optional" ∧ Fld Z h b "java/util/Optional" "value" "Ljava/lang/Object;" u ∧ u = own_acc p1 r0 r1 r2 r3) ({ frames := 3, cells := 2, slots := 5, locals := 38 } : Room).cells ({ frames := 3, cells := 2, slots := 5, locals := 38 } : Room).slots)
          refine OGo.step (fun _ kk => XS.iloadN X17.here hx rfl (hb hby own_d_prog_11_method_7_code_10) rfl kk) ?_
          show OGo p e below (T17.setTop (mkF m 11 #[.val (.int p1), .val (.ref vb), .val (.int (4 : Int32)), .val (.int (4 : Int32)), .val (.ref r3)] [(.int (4 : Int32)), (.int (4 : Int32))])) (OEnd s (fun v h L => ∃ (b : Addr) (u : Value), v = some (.ref b) ∧ Fr n0 L ∧ Old Z n0 h ∧ Exa Z h b "java/util/Optional" ∧ Fld Z h b "java/util/Optional" "value" "Ljava/lang/Object;" u ∧ u = own_acc p1 r0 r1 r2 r3) ({ frames := 3, cells := 2, slots := 5, locals := 38 } : Room).cells ({ frames := 3, cells := 2, slots := 5, locals := 38 } : Room).slots)
          refine OGo.step (fun _ kk => XS.icmpYes X17.here hx rfl (pc0 := 11) (pc' := 40) rfl (hb hby own_d_prog_11_method_7_code_11) rfl (flt (by decide)).2.1 (by decide) (by decide) kk) ?_
          show OGo p e below (T17.setTop (mkF m 40 #[.val (.int p1), .val (.ref vb), .val (.int (4 : Int32)), .val (.int (4 : Int32)), .val (.ref r3)] [])) (OEnd s (fun v h L => ∃ (b : Addr) (u : Value), v = some (.ref b) ∧ Fr n0 L ∧ Old Z n0 h ∧ Exa Z h b "java/util/Optional" ∧ Fld Z h b "java/util/Optional" "value" "Ljava/lang/Object;" u ∧ u = own_acc p1 r0 r1 r2 r3) ({ frames := 3, cells := 2, slots := 5, locals := 38 } : Room).cells ({ frames := 3, cells := 2, slots := 5, locals := 38 } : Room).slots)
          refine own_callS X17 hx hZ (y := (⟨"java/util/Optional", "empty", "()Ljava/util/Optional;"⟩ : MethodName)) hown (hw _ (List.mem_of_getElem? (i := 59) rfl)) (hw _ (List.mem_of_getElem? (i := 60) rfl)) (hw _ (List.mem_of_getElem? (i := 27) rfl)) (hw _ (List.mem_of_getElem? (i := 61) rfl)) (by decide) (W := 0) (own_rm10 l Z a0 hw [] eo _ n0 Z1 SE O1) e17  (pc := 40) (Ls := #[.val (.int p1), .val (.ref vb), .val (.int (4 : Int32)), .val (.int (4 : Int32)), .val (.ref r3)]) (argsL := []) (rest := []) (by rw [hml]; rfl) (lenOf own_pd4 rfl) rfl (hb hby own_d_prog_11_method_7_code_40) (by decide) (by decide) (by decide) (by decide) ?_
          intro v19 T19 L19 X19 hQ19
          obtain ⟨rfl, N19, e19⟩ := hQ19
          show OGo p e below (T19.setTop (mkF m 43 #[.val (.int p1), .val (.ref vb), .val (.int (4 : Int32)), .val (.int (4 : Int32)), .val (.ref r3)] [(.ref eo)])) (OEnd s (fun v h L => ∃ (b : Addr) (u : Value), v = some (.ref b) ∧ Fr n0 L ∧ Old Z n0 h ∧ Exa Z h b "java/util/Optional" ∧ Fld Z h b "java/util/Optional" "value" "Ljava/lang/Object;" u ∧ u = own_acc p1 r0 r1 r2 r3) ({ frames := 3, cells := 2, slots := 5, locals := 38 } : Room).cells ({ frames := 3, cells := 2, slots := 5, locals := 38 } : Room).slots)
          exact own_ret X19 hx hlk hret rfl (Or.inr (Or.inr (Or.inr (Or.inr ⟨rfl, rfl, rfl⟩)))) (hb hby own_d_prog_11_method_7_code_43) (by rw [e19]; exact ⟨eo, .null, rfl, Nn.app N19, O1, EO.ext O1.2, FO.ext O1.2, by unfold own_acc; rw [if_neg (Ne.symm ha3), if_neg (Ne.symm ha0), if_neg (Ne.symm ha2), if_neg (Ne.symm ha1)]⟩) (by decide) (by decide)

set_option maxRecDepth 65536 in
set_option maxHeartbeats 40000000 in
theorem own_rm7 (l : Launch) (Z : State) (a0 : Array Value) (hw : ∀ d ∈ tables_1, d.before a0 Z = true) (ws : List Jvm.Cond) (p1 : Int32) (r0 r1 r2 r3 : Addr) (h0 : Heap) (n0 : Nat) (Z0 : n0 ≤ h0.size) (S0 : Sta Z Z.heap "com/example/tenantd/tenantd/RoleType" "ADMIN" "Lcom/example/tenantd/tenantd/RoleType;" (.ref r0)) (S1 : Sta Z Z.heap "com/example/tenantd/tenantd/RoleType" "RESOURCE_ADMIN" "Lcom/example/tenantd/tenantd/RoleType;" (.ref r1)) (S2 : Sta Z Z.heap "com/example/tenantd/tenantd/RoleType" "DOMAIN_ADMIN" "Lcom/example/tenantd/tenantd/RoleType;" (.ref r2)) (S3 : Sta Z Z.heap "com/example/tenantd/tenantd/RoleType" "USER" "Lcom/example/tenantd/tenantd/RoleType;" (.ref r3)) (O0 : Old Z n0 h0) :
    OMet l Z (⟨"com/example/tenantd/tenantd/RoleTypeOfAccountTypePinLaw", "expected", "(I)Lcom/example/tenantd/tenantd/RoleType;"⟩ : MethodName) method_3_code 1 (some (.object "com/example/tenantd/tenantd/RoleType")) ws ({ frames := 0, cells := 0, slots := 0, locals := 0 } : Room) #[(.int p1)] h0 (fun v h L => v = some (own_acc p1 r0 r1 r2 r3) ∧ Fr n0 L ∧ h = h0) := by
  refine OMet.body (plainFor_of_name own_pn3) ?_
  intro p e s m below meth c s₁ hx hby hml hown hnm hret hlk hZ X0 e0
  refine OGo.step (fun _ kk => castTop (show entryFrame m #[(.int p1)] 1 = (mkF m 0 #[.val (.int p1)] []) from by first | (simp [entryFrame, mkF, argsToLocals, Value.category]; done) | rfl) kk) ?_
  show OGo p e below (s₁.setTop (mkF m 0 #[.val (.int p1)] [])) (OEnd s (fun v h L => v = some (own_acc p1 r0 r1 r2 r3) ∧ Fr n0 L ∧ h = h0) ({ frames := 0, cells := 0, slots := 0, locals := 0 } : Room).cells ({ frames := 0, cells := 0, slots := 0, locals := 0 } : Room).slots)
  have N0 := Fr.nil n0
  refine OGo.step (fun _ kk => XS.iloadN X0.here hx rfl (hb hby own_d_method_3_code_0) rfl kk) ?_
  show OGo p e below (s₁.setTop (mkF m 1 #[.val (.int p1)] [(.int p1)])) (OEnd s (fun v h L => v = some (own_acc p1 r0 r1 r2 r3) ∧ Fr n0 L ∧ h = h0) ({ frames := 0, cells := 0, slots := 0, locals := 0 } : Room).cells ({ frames := 0, cells := 0, slots := 0, locals := 0 } : Room).slots)
  by_cases hc0 : p1 = (0 : Int32)
  · refine OGo.step (fun _ kk => XS.ifNo X0.here hx rfl (hb hby own_d_method_3_code_1) rfl ((if0 _ _).trans (teq hc0).2) kk) ?_
    show OGo p e below (s₁.setTop (mkF m 4 #[.val (.int p1)] [])) (OEnd s (fun v h L => v = some (own_acc p1 r0 r1 r2 r3) ∧ Fr n0 L ∧ h = h0) ({ frames := 0, cells := 0, slots := 0, locals := 0 } : Room).cells ({ frames := 0, cells := 0, slots := 0, locals := 0 } : Room).slots)
    obtain ⟨T20, X20, e20, st20⟩ := getS2 X0 hx hZ hown (host := "") (Or.inl (hw _ (List.mem_of_getElem? (i := 48) rfl))) Via.refl e0 (S3.ext O0.2) (g := (mkF m 4 #[.val (.int p1)] [])) rfl (hb hby own_d_method_3_code_4)
    refine OGo.step st20 ?_
    show OGo p e below (T20.setTop (mkF m 7 #[.val (.int p1)] [(.ref r3)])) (OEnd s (fun v h L => v = some (own_acc p1 r0 r1 r2 r3) ∧ Fr n0 L ∧ h = h0) ({ frames := 0, cells := 0, slots := 0, locals := 0 } : Room).cells ({ frames := 0, cells := 0, slots := 0, locals := 0 } : Room).slots)
    exact own_ret X20 hx hlk hret rfl (Or.inr (Or.inr (Or.inr (Or.inr ⟨rfl, rfl, rfl⟩)))) (hb hby own_d_method_3_code_7) ⟨by unfold own_acc; rw [if_pos hc0], N0, e20⟩ (by decide) (by decide)
  · refine OGo.step (fun _ kk => XS.ifYes X0.here hx rfl (pc0 := 1) (pc' := 8) rfl (hb hby own_d_method_3_code_1) rfl ((if0 _ _).trans (feq hc0).2) (by decide) (by decide) kk) ?_
    show OGo p e below (s₁.setTop (mkF m 8 #[.val (.int p1)] [])) (OEnd s (fun v h L => v = some (own_acc p1 r0 r1 r2 r3) ∧ Fr n0 L ∧ h = h0) ({ frames := 0, cells := 0, slots := 0, locals := 0 } : Room).cells ({ frames := 0, cells := 0, slots := 0, locals := 0 } : Room).slots)
    refine OGo.step (fun _ kk => XS.iloadN X0.here hx rfl (hb hby own_d_method_3_code_8) rfl kk) ?_
    show OGo p e below (s₁.setTop (mkF m 9 #[.val (.int p1)] [(.int p1)])) (OEnd s (fun v h L => v = some (own_acc p1 r0 r1 r2 r3) ∧ Fr n0 L ∧ h = h0) ({ frames := 0, cells := 0, slots := 0, locals := 0 } : Room).cells ({ frames := 0, cells := 0, slots := 0, locals := 0 } : Room).slots)
    refine OGo.step (fun _ kk => XS.iconst X0.here hx rfl (hb hby own_d_method_3_code_9) kk) ?_
    show OGo p e below (s₁.setTop (mkF m 10 #[.val (.int p1)] [(.int (1 : Int32)), (.int p1)])) (OEnd s (fun v h L => v = some (own_acc p1 r0 r1 r2 r3) ∧ Fr n0 L ∧ h = h0) ({ frames := 0, cells := 0, slots := 0, locals := 0 } : Room).cells ({ frames := 0, cells := 0, slots := 0, locals := 0 } : Room).slots)
    by_cases hc1 : p1 = (1 : Int32)
    · refine OGo.step (fun _ kk => XS.icmpNo X0.here hx rfl (hb hby own_d_method_3_code_10) rfl (teq hc1).2 kk) ?_
      show OGo p e below (s₁.setTop (mkF m 13 #[.val (.int p1)] [])) (OEnd s (fun v h L => v = some (own_acc p1 r0 r1 r2 r3) ∧ Fr n0 L ∧ h = h0) ({ frames := 0, cells := 0, slots := 0, locals := 0 } : Room).cells ({ frames := 0, cells := 0, slots := 0, locals := 0 } : Room).slots)
      obtain ⟨T21, X21, e21, st21⟩ := getS2 X0 hx hZ hown (host := "") (Or.inl (hw _ (List.mem_of_getElem? (i := 65) rfl))) Via.refl e0 (S0.ext O0.2) (g := (mkF m 13 #[.val (.int p1)] [])) rfl (hb hby own_d_method_3_code_13)
      refine OGo.step st21 ?_
      show OGo p e below (T21.setTop (mkF m 16 #[.val (.int p1)] [(.ref r0)])) (OEnd s (fun v h L => v = some (own_acc p1 r0 r1 r2 r3) ∧ Fr n0 L ∧ h = h0) ({ frames := 0, cells := 0, slots := 0, locals := 0 } : Room).cells ({ frames := 0, cells := 0, slots := 0, locals := 0 } : Room).slots)
      exact own_ret X21 hx hlk hret rfl (Or.inr (Or.inr (Or.inr (Or.inr ⟨rfl, rfl, rfl⟩)))) (hb hby own_d_method_3_code_16) ⟨by unfold own_acc; rw [if_neg hc0, if_pos hc1], N0, e21⟩ (by decide) (by decide)
    · refine OGo.step (fun _ kk => XS.icmpYes X0.here hx rfl (pc0 := 10) (pc' := 17) rfl (hb hby own_d_method_3_code_10) rfl (feq hc1).2 (by decide) (by decide) kk) ?_
      show OGo p e below (s₁.setTop (mkF m 17 #[.val (.int p1)] [])) (OEnd s (fun v h L => v = some (own_acc p1 r0 r1 r2 r3) ∧ Fr n0 L ∧ h = h0) ({ frames := 0, cells := 0, slots := 0, locals := 0 } : Room).cells ({ frames := 0, cells := 0, slots := 0, locals := 0 } : Room).slots)
      refine OGo.step (fun _ kk => XS.iloadN X0.here hx rfl (hb hby own_d_method_3_code_17) rfl kk) ?_
      show OGo p e below (s₁.setTop (mkF m 18 #[.val (.int p1)] [(.int p1)])) (OEnd s (fun v h L => v = some (own_acc p1 r0 r1 r2 r3) ∧ Fr n0 L ∧ h = h0) ({ frames := 0, cells := 0, slots := 0, locals := 0 } : Room).cells ({ frames := 0, cells := 0, slots := 0, locals := 0 } : Room).slots)
      refine OGo.step (fun _ kk => XS.iconst X0.here hx rfl (hb hby own_d_method_3_code_18) kk) ?_
      show OGo p e below (s₁.setTop (mkF m 19 #[.val (.int p1)] [(.int (2 : Int32)), (.int p1)])) (OEnd s (fun v h L => v = some (own_acc p1 r0 r1 r2 r3) ∧ Fr n0 L ∧ h = h0) ({ frames := 0, cells := 0, slots := 0, locals := 0 } : Room).cells ({ frames := 0, cells := 0, slots := 0, locals := 0 } : Room).slots)
      by_cases hc2 : p1 = (2 : Int32)
      · refine OGo.step (fun _ kk => XS.icmpNo X0.here hx rfl (hb hby own_d_method_3_code_19) rfl (teq hc2).2 kk) ?_
        show OGo p e below (s₁.setTop (mkF m 22 #[.val (.int p1)] [])) (OEnd s (fun v h L => v = some (own_acc p1 r0 r1 r2 r3) ∧ Fr n0 L ∧ h = h0) ({ frames := 0, cells := 0, slots := 0, locals := 0 } : Room).cells ({ frames := 0, cells := 0, slots := 0, locals := 0 } : Room).slots)
        obtain ⟨T22, X22, e22, st22⟩ := getS2 X0 hx hZ hown (host := "") (Or.inl (hw _ (List.mem_of_getElem? (i := 64) rfl))) Via.refl e0 (S2.ext O0.2) (g := (mkF m 22 #[.val (.int p1)] [])) rfl (hb hby own_d_method_3_code_22)
        refine OGo.step st22 ?_
        show OGo p e below (T22.setTop (mkF m 25 #[.val (.int p1)] [(.ref r2)])) (OEnd s (fun v h L => v = some (own_acc p1 r0 r1 r2 r3) ∧ Fr n0 L ∧ h = h0) ({ frames := 0, cells := 0, slots := 0, locals := 0 } : Room).cells ({ frames := 0, cells := 0, slots := 0, locals := 0 } : Room).slots)
        exact own_ret X22 hx hlk hret rfl (Or.inr (Or.inr (Or.inr (Or.inr ⟨rfl, rfl, rfl⟩)))) (hb hby own_d_method_3_code_25) ⟨by unfold own_acc; rw [if_neg hc0, if_neg hc1, if_pos hc2], N0, e22⟩ (by decide) (by decide)
      · refine OGo.step (fun _ kk => XS.icmpYes X0.here hx rfl (pc0 := 19) (pc' := 26) rfl (hb hby own_d_method_3_code_19) rfl (feq hc2).2 (by decide) (by decide) kk) ?_
        show OGo p e below (s₁.setTop (mkF m 26 #[.val (.int p1)] [])) (OEnd s (fun v h L => v = some (own_acc p1 r0 r1 r2 r3) ∧ Fr n0 L ∧ h = h0) ({ frames := 0, cells := 0, slots := 0, locals := 0 } : Room).cells ({ frames := 0, cells := 0, slots := 0, locals := 0 } : Room).slots)
        refine OGo.step (fun _ kk => XS.iloadN X0.here hx rfl (hb hby own_d_method_3_code_26) rfl kk) ?_
        show OGo p e below (s₁.setTop (mkF m 27 #[.val (.int p1)] [(.int p1)])) (OEnd s (fun v h L => v = some (own_acc p1 r0 r1 r2 r3) ∧ Fr n0 L ∧ h = h0) ({ frames := 0, cells := 0, slots := 0, locals := 0 } : Room).cells ({ frames := 0, cells := 0, slots := 0, locals := 0 } : Room).slots)
        refine OGo.step (fun _ kk => XS.iconst X0.here hx rfl (hb hby own_d_method_3_code_27) kk) ?_
        show OGo p e below (s₁.setTop (mkF m 28 #[.val (.int p1)] [(.int (3 : Int32)), (.int p1)])) (OEnd s (fun v h L => v = some (own_acc p1 r0 r1 r2 r3) ∧ Fr n0 L ∧ h = h0) ({ frames := 0, cells := 0, slots := 0, locals := 0 } : Room).cells ({ frames := 0, cells := 0, slots := 0, locals := 0 } : Room).slots)
        by_cases hc3 : p1 = (3 : Int32)
        · refine OGo.step (fun _ kk => XS.icmpNo X0.here hx rfl (hb hby own_d_method_3_code_28) rfl (teq hc3).2 kk) ?_
          show OGo p e below (s₁.setTop (mkF m 31 #[.val (.int p1)] [])) (OEnd s (fun v h L => v = some (own_acc p1 r0 r1 r2 r3) ∧ Fr n0 L ∧ h = h0) ({ frames := 0, cells := 0, slots := 0, locals := 0 } : Room).cells ({ frames := 0, cells := 0, slots := 0, locals := 0 } : Room).slots)
          obtain ⟨T23, X23, e23, st23⟩ := getS2 X0 hx hZ hown (host := "") (Or.inl (hw _ (List.mem_of_getElem? (i := 63) rfl))) Via.refl e0 (S1.ext O0.2) (g := (mkF m 31 #[.val (.int p1)] [])) rfl (hb hby own_d_method_3_code_31)
          refine OGo.step st23 ?_
          show OGo p e below (T23.setTop (mkF m 34 #[.val (.int p1)] [(.ref r1)])) (OEnd s (fun v h L => v = some (own_acc p1 r0 r1 r2 r3) ∧ Fr n0 L ∧ h = h0) ({ frames := 0, cells := 0, slots := 0, locals := 0 } : Room).cells ({ frames := 0, cells := 0, slots := 0, locals := 0 } : Room).slots)
          exact own_ret X23 hx hlk hret rfl (Or.inr (Or.inr (Or.inr (Or.inr ⟨rfl, rfl, rfl⟩)))) (hb hby own_d_method_3_code_34) ⟨by unfold own_acc; rw [if_neg hc0, if_neg hc1, if_neg hc2, if_pos hc3], N0, e23⟩ (by decide) (by decide)
        · refine OGo.step (fun _ kk => XS.icmpYes X0.here hx rfl (pc0 := 28) (pc' := 35) rfl (hb hby own_d_method_3_code_28) rfl (feq hc3).2 (by decide) (by decide) kk) ?_
          show OGo p e below (s₁.setTop (mkF m 35 #[.val (.int p1)] [])) (OEnd s (fun v h L => v = some (own_acc p1 r0 r1 r2 r3) ∧ Fr n0 L ∧ h = h0) ({ frames := 0, cells := 0, slots := 0, locals := 0 } : Room).cells ({ frames := 0, cells := 0, slots := 0, locals := 0 } : Room).slots)
          refine OGo.step (fun _ kk => XS.aconstNull X0.here hx rfl (hb hby own_d_method_3_code_35) kk) ?_
          show OGo p e below (s₁.setTop (mkF m 36 #[.val (.int p1)] [.null])) (OEnd s (fun v h L => v = some (own_acc p1 r0 r1 r2 r3) ∧ Fr n0 L ∧ h = h0) ({ frames := 0, cells := 0, slots := 0, locals := 0 } : Room).cells ({ frames := 0, cells := 0, slots := 0, locals := 0 } : Room).slots)
          exact own_ret X0 hx hlk hret rfl (Or.inr (Or.inr (Or.inr (Or.inr ⟨rfl, rfl, rfl⟩)))) (hb hby own_d_method_3_code_36) ⟨by unfold own_acc; rw [if_neg hc0, if_neg hc1, if_neg hc2, if_neg hc3], N0, e0⟩ (by decide) (by decide)

set_option maxRecDepth 65536 in
set_option maxHeartbeats 40000000 in
theorem own_rm8 (l : Launch) (Z : State) (a0 : Array Value) (hw : ∀ d ∈ tables_1, d.before a0 Z = true) (ws : List Jvm.Cond) (a1 : Addr) (u : Value) (h0 : Heap) (n0 : Nat) (Z0 : n0 ≤ h0.size) (hu : u.isRef = true) (F1 : Fld Z h0 a1 "java/util/Optional" "value" "Ljava/lang/Object;" u) :
    OMet l Z (⟨"java/util/Optional", "isPresent", "()Z"⟩ : MethodName) jdk_32_method_6_code 1 (some .boolean) ws ({ frames := 0, cells := 0, slots := 0, locals := 0 } : Room) #[(.ref a1)] h0 (fun v h L => v = some (.int (match u with | .null => 0 | _ => 1)) ∧ Fr n0 L ∧ h = h0) := by
  refine OMet.body (plainFor_of_name own_pn0) ?_
  intro p e s m below meth c s₁ hx hby hml hown hnm hret hlk hZ X0 e0
  refine OGo.step (fun _ kk => castTop (show entryFrame m #[(.ref a1)] 1 = (mkF m 0 #[.val (.ref a1)] []) from by first | (simp [entryFrame, mkF, argsToLocals, Value.category]; done) | rfl) kk) ?_
  show OGo p e below (s₁.setTop (mkF m 0 #[.val (.ref a1)] [])) (OEnd s (fun v h L => v = some (.int (match u with | .null => 0 | _ => 1)) ∧ Fr n0 L ∧ h = h0) ({ frames := 0, cells := 0, slots := 0, locals := 0 } : Room).cells ({ frames := 0, cells := 0, slots := 0, locals := 0 } : Room).slots)
  have N0 := Fr.nil n0
  refine OGo.step (fun _ kk => XS.aloadN X0.here hx rfl (hb hby own_d_jdk_32_method_6_code_0) rfl rfl kk) ?_
  show OGo p e below (s₁.setTop (mkF m 1 #[.val (.ref a1)] [(.ref a1)])) (OEnd s (fun v h L => v = some (.int (match u with | .null => 0 | _ => 1)) ∧ Fr n0 L ∧ h = h0) ({ frames := 0, cells := 0, slots := 0, locals := 0 } : Room).cells ({ frames := 0, cells := 0, slots := 0, locals := 0 } : Room).slots)
  rcases ref_cases hu with rfl | ⟨ua, rfl⟩
  · show OGo p e below (s₁.setTop (mkF m 1 #[.val (.ref a1)] [(.ref a1)])) (OEnd s (fun v h L => v = some (.int (match Value.null with | .null => 0 | _ => 1)) ∧ Fr n0 L ∧ h = h0) ({ frames := 0, cells := 0, slots := 0, locals := 0 } : Room).cells ({ frames := 0, cells := 0, slots := 0, locals := 0 } : Room).slots)
    obtain ⟨T24, X24, e24, st24⟩ := getF X0 hx hZ hown (host := "") (Or.inl (hw _ (List.mem_of_getElem? (i := 42) rfl))) Via.refl e0 F1 (g := (mkF m 1 #[.val (.ref a1)] [(.ref a1)])) rfl rfl (hb hby own_d_jdk_32_method_6_code_1)
    refine OGo.step st24 ?_
    show OGo p e below (T24.setTop (mkF m 4 #[.val (.ref a1)] [.null])) (OEnd s (fun v h L => v = some (.int (match Value.null with | .null => 0 | _ => 1)) ∧ Fr n0 L ∧ h = h0) ({ frames := 0, cells := 0, slots := 0, locals := 0 } : Room).cells ({ frames := 0, cells := 0, slots := 0, locals := 0 } : Room).slots)
    refine OGo.step (fun _ kk => XS.ifnullYes X24.here hx rfl (pc0 := 4) (pc' := 11) rfl (hb hby own_d_jdk_32_method_6_code_4) rfl (by decide) (by decide) kk) ?_
    show OGo p e below (T24.setTop (mkF m 11 #[.val (.ref a1)] [])) (OEnd s (fun v h L => v = some (.int (match Value.null with | .null => 0 | _ => 1)) ∧ Fr n0 L ∧ h = h0) ({ frames := 0, cells := 0, slots := 0, locals := 0 } : Room).cells ({ frames := 0, cells := 0, slots := 0, locals := 0 } : Room).slots)
    refine OGo.step (fun _ kk => XS.iconst X24.here hx rfl (hb hby own_d_jdk_32_method_6_code_11) kk) ?_
    show OGo p e below (T24.setTop (mkF m 12 #[.val (.ref a1)] [(.int (0 : Int32))])) (OEnd s (fun v h L => v = some (.int (match Value.null with | .null => 0 | _ => 1)) ∧ Fr n0 L ∧ h = h0) ({ frames := 0, cells := 0, slots := 0, locals := 0 } : Room).cells ({ frames := 0, cells := 0, slots := 0, locals := 0 } : Room).slots)
    exact own_retN X24 hx hlk hret (by simp) (hb hby own_d_jdk_32_method_6_code_12) ⟨rfl, N0, e24⟩ (by decide) (by decide)
  · show OGo p e below (s₁.setTop (mkF m 1 #[.val (.ref a1)] [(.ref a1)])) (OEnd s (fun v h L => v = some (.int (match Value.ref ua with | .null => 0 | _ => 1)) ∧ Fr n0 L ∧ h = h0) ({ frames := 0, cells := 0, slots := 0, locals := 0 } : Room).cells ({ frames := 0, cells := 0, slots := 0, locals := 0 } : Room).slots)
    obtain ⟨T25, X25, e25, st25⟩ := getF X0 hx hZ hown (host := "") (Or.inl (hw _ (List.mem_of_getElem? (i := 42) rfl))) Via.refl e0 F1 (g := (mkF m 1 #[.val (.ref a1)] [(.ref a1)])) rfl rfl (hb hby own_d_jdk_32_method_6_code_1)
    refine OGo.step st25 ?_
    show OGo p e below (T25.setTop (mkF m 4 #[.val (.ref a1)] [(.ref ua)])) (OEnd s (fun v h L => v = some (.int (match Value.ref ua with | .null => 0 | _ => 1)) ∧ Fr n0 L ∧ h = h0) ({ frames := 0, cells := 0, slots := 0, locals := 0 } : Room).cells ({ frames := 0, cells := 0, slots := 0, locals := 0 } : Room).slots)
    refine OGo.step (fun _ kk => XS.ifnullNo X25.here hx rfl (hb hby own_d_jdk_32_method_6_code_4) rfl kk) ?_
    show OGo p e below (T25.setTop (mkF m 7 #[.val (.ref a1)] [])) (OEnd s (fun v h L => v = some (.int (match Value.ref ua with | .null => 0 | _ => 1)) ∧ Fr n0 L ∧ h = h0) ({ frames := 0, cells := 0, slots := 0, locals := 0 } : Room).cells ({ frames := 0, cells := 0, slots := 0, locals := 0 } : Room).slots)
    refine OGo.step (fun _ kk => XS.iconst X25.here hx rfl (hb hby own_d_jdk_32_method_6_code_7) kk) ?_
    show OGo p e below (T25.setTop (mkF m 8 #[.val (.ref a1)] [(.int (1 : Int32))])) (OEnd s (fun v h L => v = some (.int (match Value.ref ua with | .null => 0 | _ => 1)) ∧ Fr n0 L ∧ h = h0) ({ frames := 0, cells := 0, slots := 0, locals := 0 } : Room).cells ({ frames := 0, cells := 0, slots := 0, locals := 0 } : Room).slots)
    refine OGo.step (fun _ kk => XS.goto X25.here hx rfl (pc0 := 8) (pc' := 12) rfl (hb hby own_d_jdk_32_method_6_code_8) (by decide) (by decide) kk) ?_
    show OGo p e below (T25.setTop (mkF m 12 #[.val (.ref a1)] [(.int (1 : Int32))])) (OEnd s (fun v h L => v = some (.int (match Value.ref ua with | .null => 0 | _ => 1)) ∧ Fr n0 L ∧ h = h0) ({ frames := 0, cells := 0, slots := 0, locals := 0 } : Room).cells ({ frames := 0, cells := 0, slots := 0, locals := 0 } : Room).slots)
    exact own_retN X25 hx hlk hret (by simp) (hb hby own_d_jdk_32_method_6_code_12) ⟨rfl, N0, e25⟩ (by decide) (by decide)

set_option maxRecDepth 65536 in
set_option maxHeartbeats 40000000 in
theorem own_rm9 (l : Launch) (Z : State) (a0 : Array Value) (hw : ∀ d ∈ tables_1, d.before a0 Z = true) (ws : List Jvm.Cond) (a1 ua : Addr) (h0 : Heap) (n0 : Nat) (Z0 : n0 ≤ h0.size) (F1 : Fld Z h0 a1 "java/util/Optional" "value" "Ljava/lang/Object;" (.ref ua)) :
    OMet l Z (⟨"java/util/Optional", "get", "()Ljava/lang/Object;"⟩ : MethodName) jdk_32_method_5_code 1 (some (.object "java/lang/Object")) ws ({ frames := 0, cells := 0, slots := 0, locals := 0 } : Room) #[(.ref a1)] h0 (fun v h L => v = some (.ref ua) ∧ Fr n0 L ∧ h = h0) := by
  refine OMet.body (plainFor_of_name own_pn0) ?_
  intro p e s m below meth c s₁ hx hby hml hown hnm hret hlk hZ X0 e0
  refine OGo.step (fun _ kk => castTop (show entryFrame m #[(.ref a1)] 1 = (mkF m 0 #[.val (.ref a1)] []) from by first | (simp [entryFrame, mkF, argsToLocals, Value.category]; done) | rfl) kk) ?_
  show OGo p e below (s₁.setTop (mkF m 0 #[.val (.ref a1)] [])) (OEnd s (fun v h L => v = some (.ref ua) ∧ Fr n0 L ∧ h = h0) ({ frames := 0, cells := 0, slots := 0, locals := 0 } : Room).cells ({ frames := 0, cells := 0, slots := 0, locals := 0 } : Room).slots)
  have N0 := Fr.nil n0
  refine OGo.step (fun _ kk => XS.aloadN X0.here hx rfl (hb hby own_d_jdk_32_method_5_code_0) rfl rfl kk) ?_
  show OGo p e below (s₁.setTop (mkF m 1 #[.val (.ref a1)] [(.ref a1)])) (OEnd s (fun v h L => v = some (.ref ua) ∧ Fr n0 L ∧ h = h0) ({ frames := 0, cells := 0, slots := 0, locals := 0 } : Room).cells ({ frames := 0, cells := 0, slots := 0, locals := 0 } : Room).slots)
  obtain ⟨T26, X26, e26, st26⟩ := getF X0 hx hZ hown (host := "") (Or.inl (hw _ (List.mem_of_getElem? (i := 42) rfl))) Via.refl e0 F1 (g := (mkF m 1 #[.val (.ref a1)] [(.ref a1)])) rfl rfl (hb hby own_d_jdk_32_method_5_code_1)
  refine OGo.step st26 ?_
  show OGo p e below (T26.setTop (mkF m 4 #[.val (.ref a1)] [(.ref ua)])) (OEnd s (fun v h L => v = some (.ref ua) ∧ Fr n0 L ∧ h = h0) ({ frames := 0, cells := 0, slots := 0, locals := 0 } : Room).cells ({ frames := 0, cells := 0, slots := 0, locals := 0 } : Room).slots)
  refine OGo.step (fun _ kk => XS.ifnonnullYes X26.here hx rfl (pc0 := 4) (pc' := 17) rfl (hb hby own_d_jdk_32_method_5_code_4) rfl (by decide) (by decide) kk) ?_
  show OGo p e below (T26.setTop (mkF m 17 #[.val (.ref a1)] [])) (OEnd s (fun v h L => v = some (.ref ua) ∧ Fr n0 L ∧ h = h0) ({ frames := 0, cells := 0, slots := 0, locals := 0 } : Room).cells ({ frames := 0, cells := 0, slots := 0, locals := 0 } : Room).slots)
  refine OGo.step (fun _ kk => XS.aloadN X26.here hx rfl (hb hby own_d_jdk_32_method_5_code_17) rfl rfl kk) ?_
  show OGo p e below (T26.setTop (mkF m 18 #[.val (.ref a1)] [(.ref a1)])) (OEnd s (fun v h L => v = some (.ref ua) ∧ Fr n0 L ∧ h = h0) ({ frames := 0, cells := 0, slots := 0, locals := 0 } : Room).cells ({ frames := 0, cells := 0, slots := 0, locals := 0 } : Room).slots)
  obtain ⟨T27, X27, e27, st27⟩ := getF X26 hx hZ hown (host := "") (Or.inl (hw _ (List.mem_of_getElem? (i := 42) rfl))) Via.refl e26 F1 (g := (mkF m 18 #[.val (.ref a1)] [(.ref a1)])) rfl rfl (hb hby own_d_jdk_32_method_5_code_18)
  refine OGo.step st27 ?_
  show OGo p e below (T27.setTop (mkF m 21 #[.val (.ref a1)] [(.ref ua)])) (OEnd s (fun v h L => v = some (.ref ua) ∧ Fr n0 L ∧ h = h0) ({ frames := 0, cells := 0, slots := 0, locals := 0 } : Room).cells ({ frames := 0, cells := 0, slots := 0, locals := 0 } : Room).slots)
  exact own_ret X27 hx hlk hret rfl (Or.inr (Or.inr (Or.inr (Or.inr ⟨rfl, rfl, rfl⟩)))) (hb hby own_d_jdk_32_method_5_code_21) ⟨rfl, N0, e27⟩ (by decide) (by decide)

set_option maxRecDepth 65536 in
set_option maxHeartbeats 40000000 in
theorem own_rm0 (l : Launch) (Z : State) (a0 : Array Value) (hw : ∀ d ∈ tables_1, d.before a0 Z = true) (ws : List Jvm.Cond) (p1 p2 : Int32) (va : Addr) (vc : Cell) (r0 r1 r2 r3 : Addr) (eo : Addr) (h0 : Heap) (n0 : Nat) (Z0 : n0 ≤ h0.size) (SV : Sta Z Z.heap "com/example/tenantd/tenantd/RoleType" "$VALUES" "[Lcom/example/tenantd/tenantd/RoleType;" (.ref va)) (AV : Arr Z Z.heap va vc (.object "com/example/tenantd/tenantd/RoleType")) (EV : Exa Z Z.heap va "[Lcom/example/tenantd/tenantd/RoleType;") (FV : FitC Z vc) (VS : vc.slots.size = 4) (O0 : Old Z n0 h0) (V0 : vc.slots[0]? = some (.ref r0)) (V1 : vc.slots[1]? = some (.ref r1)) (V2 : vc.slots[2]? = some (.ref r2)) (V3 : vc.slots[3]? = some (.ref r3)) (Fa0 : Fld Z Z.heap r0 "com/example/tenantd/tenantd/RoleType" "accountType" "I" (.int 1)) (Fa1 : Fld Z Z.heap r1 "com/example/tenantd/tenantd/RoleType" "accountType" "I" (.int 3)) (Fa2 : Fld Z Z.heap r2 "com/example/tenantd/tenantd/RoleType" "accountType" "I" (.int 2)) (Fa3 : Fld Z Z.heap r3 "com/example/tenantd/tenantd/RoleType" "accountType" "I" (.int 0)) (SE : Sta Z Z.heap "java/util/Optional" "EMPTY" "Ljava/util/Optional;" (.ref eo)) (EO : Exa Z Z.heap eo "java/util/Optional") (FO : Fld Z Z.heap eo "java/util/Optional" "value" "Ljava/lang/Object;" .null) (S0 : Sta Z Z.heap "com/example/tenantd/tenantd/RoleType" "ADMIN" "Lcom/example/tenantd/tenantd/RoleType;" (.ref r0)) (S1 : Sta Z Z.heap "com/example/tenantd/tenantd/RoleType" "RESOURCE_ADMIN" "Lcom/example/tenantd/tenantd/RoleType;" (.ref r1)) (S2 : Sta Z Z.heap "com/example/tenantd/tenantd/RoleType" "DOMAIN_ADMIN" "Lcom/example/tenantd/tenantd/RoleType;" (.ref r2)) (S3 : Sta Z Z.heap "com/example/tenantd/tenantd/RoleType" "USER" "Lcom/example/tenantd/tenantd/RoleType;" (.ref r3)) :
    OMet l Z x code maxLocals ret ws room_1 #[(.int p1), (.int p2)] h0 (fun v h L => v = some (.int (1 : Int32)) ∧ Fr n0 L) := by
  refine OMet.body (plainFor_of_name own_pn3) ?_
  intro p e s m below meth c s₁ hx hby hml hown hnm hret hlk hZ X0 e0
  have hml : c.maxLocals = 5 := hml
  refine OGo.step (fun _ kk => castTop (show entryFrame m #[(.int p1), (.int p2)] maxLocals = (mkF m 0 #[.val (.int p1), .val (.int p2), .unset, .unset, .unset] []) from by first | (simp [entryFrame, mkF, argsToLocals, Value.category, maxLocals]; done) | rfl) kk) ?_
  show OGo p e below (s₁.setTop (mkF m 0 #[.val (.int p1), .val (.int p2), .unset, .unset, .unset] [])) (OEnd s (fun v h L => v = some (.int (1 : Int32)) ∧ Fr n0 L) room_1.cells room_1.slots)
  refine OGo.step (fun _ kk => XS.iloadN X0.here hx rfl (hb hby at_0) rfl kk) ?_
  show OGo p e below (s₁.setTop (mkF m 1 #[.val (.int p1), .val (.int p2), .unset, .unset, .unset] [(.int p2)])) (OEnd s (fun v h L => v = some (.int (1 : Int32)) ∧ Fr n0 L) room_1.cells room_1.slots)
  refine OGo.step (fun _ kk => XS.iconst X0.here hx rfl (hb hby at_1) kk) ?_
  show OGo p e below (s₁.setTop (mkF m 2 #[.val (.int p1), .val (.int p2), .unset, .unset, .unset] [(.int (1 : Int32)), (.int p2)])) (OEnd s (fun v h L => v = some (.int (1 : Int32)) ∧ Fr n0 L) room_1.cells room_1.slots)
  refine OGo.step (fun _ kk => XS.iand X0.here hx rfl (hb hby at_2) rfl kk) ?_
  show OGo p e below (s₁.setTop (mkF m 3 #[.val (.int p1), .val (.int p2), .unset, .unset, .unset] [(.int (p2 &&& (1 : Int32)))])) (OEnd s (fun v h L => v = some (.int (1 : Int32)) ∧ Fr n0 L) room_1.cells room_1.slots)
  have K16 : ∀ ac : Int32, OGo p e below (s₁.setTop (mkF m 16 #[.val (.int p1), .val (.int p2), .unset, .unset, .unset] [(.int ac)])) (OEnd s (fun v h L => v = some (.int (1 : Int32)) ∧ Fr n0 L) room_1.cells room_1.slots) := by
    intro ac
    show OGo p e below (s₁.setTop (mkF m 16 #[.val (.int p1), .val (.int p2), .unset, .unset, .unset] [(.int ac)])) (OEnd s (fun v h L => v = some (.int (1 : Int32)) ∧ Fr n0 L) room_1.cells room_1.slots)
    refine OGo.step (fun _ kk => XS.istoreN X0.here hx rfl (hb hby at_16) rfl (l' := #[.val (.int p1), .val (.int p2), .val (.int ac), .unset, .unset]) rfl kk) ?_
    show OGo p e below (s₁.setTop (mkF m 17 #[.val (.int p1), .val (.int p2), .val (.int ac), .unset, .unset] [])) (OEnd s (fun v h L => v = some (.int (1 : Int32)) ∧ Fr n0 L) room_1.cells room_1.slots)
    refine OGo.step (fun _ kk => XS.iloadN X0.here hx rfl (hb hby at_17) rfl kk) ?_
    show OGo p e below (s₁.setTop (mkF m 18 #[.val (.int p1), .val (.int p2), .val (.int ac), .unset, .unset] [(.int ac)])) (OEnd s (fun v h L => v = some (.int (1 : Int32)) ∧ Fr n0 L) room_1.cells room_1.slots)
    refine own_callS X0 hx hZ (y := (⟨"com/example/tenantd/tenantd/RoleType", "ofAccountType", "(I)Ljava/util/Optional;"⟩ : MethodName)) hown (hw _ (List.mem_of_getElem? (i := 0) rfl)) (hw _ (List.mem_of_getElem? (i := 1) rfl)) (hw _ (List.mem_of_getElem? (i := 2) rfl)) (hw _ (List.mem_of_getElem? (i := 3) rfl)) (by decide) (W := 0) (own_rm1 l Z a0 hw [] ac va vc r0 r1 r2 r3 eo h0 n0 Z0 SV AV EV FV VS O0 V0 V1 V2 V3 Fa0 Fa1 Fa2 Fa3 SE EO FO) e0  (pc := 18) (Ls := #[.val (.int p1), .val (.int p2), .val (.int ac), .unset, .unset]) (argsL := [(.int ac)]) (rest := []) (by rw [hml]; rfl) (lenOf own_pd5 rfl) rfl (hb hby at_18) (by decide) (by decide) (by decide) (by decide) ?_
    intro v28 T28 L28 X28 hQ28
    obtain ⟨b, u, rfl, N28, O1, Eb, Gv, hu⟩ := hQ28
    show OGo p e below (T28.setTop (mkF m 21 #[.val (.int p1), .val (.int p2), .val (.int ac), .unset, .unset] [(.ref b)])) (OEnd s (fun v h L => v = some (.int (1 : Int32)) ∧ Fr n0 L) room_1.cells room_1.slots)
    have Z1 : n0 ≤ T28.heap.size := O1.1 ▸ O1.2.1
    have hur : u.isRef = true := hu ▸ own_acc_ref ac r0 r1 r2 r3
    refine OGo.step (fun _ kk => XS.astoreN X28.here hx rfl (hb hby at_21) rfl rfl (l' := #[.val (.int p1), .val (.int p2), .val (.int ac), .val (.ref b), .unset]) rfl kk) ?_
    show OGo p e below (T28.setTop (mkF m 22 #[.val (.int p1), .val (.int p2), .val (.int ac), .val (.ref b), .unset] [])) (OEnd s (fun v h L => v = some (.int (1 : Int32)) ∧ Fr n0 L) room_1.cells room_1.slots)
    refine OGo.step (fun _ kk => XS.aloadN X28.here hx rfl (hb hby at_22) rfl rfl kk) ?_
    show OGo p e below (T28.setTop (mkF m 23 #[.val (.int p1), .val (.int p2), .val (.int ac), .val (.ref b), .unset] [(.ref b)])) (OEnd s (fun v h L => v = some (.int (1 : Int32)) ∧ Fr n0 L) room_1.cells room_1.slots)
    refine OGo.step (fun _ kk => XS.ifnonnullYes X28.here hx rfl (pc0 := 23) (pc' := 28) rfl (hb hby at_23) rfl (by decide) (by decide) kk) ?_
    show OGo p e below (T28.setTop (mkF m 28 #[.val (.int p1), .val (.int p2), .val (.int ac), .val (.ref b), .unset] [])) (OEnd s (fun v h L => v = some (.int (1 : Int32)) ∧ Fr n0 L) room_1.cells room_1.slots)
    refine OGo.step (fun _ kk => XS.iloadN X28.here hx rfl (hb hby at_28) rfl kk) ?_
    show OGo p e below (T28.setTop (mkF m 29 #[.val (.int p1), .val (.int p2), .val (.int ac), .val (.ref b), .unset] [(.int ac)])) (OEnd s (fun v h L => v = some (.int (1 : Int32)) ∧ Fr n0 L) room_1.cells room_1.slots)
    refine own_callS X28 hx hZ (y := (⟨"com/example/tenantd/tenantd/RoleTypeOfAccountTypePinLaw", "expected", "(I)Lcom/example/tenantd/tenantd/RoleType;"⟩ : MethodName)) hown (hw _ (List.mem_of_getElem? (i := 44) rfl)) (hw _ (List.mem_of_getElem? (i := 45) rfl)) (hw _ (List.mem_of_getElem? (i := 46) rfl)) (hw _ (List.mem_of_getElem? (i := 47) rfl)) (by decide) (W := 0) (own_rm7 l Z a0 hw [] ac r0 r1 r2 r3 _ n0 Z1 S0 S1 S2 S3 O1) rfl  (pc := 29) (Ls := #[.val (.int p1), .val (.int p2), .val (.int ac), .val (.ref b), .unset]) (argsL := [(.int ac)]) (rest := []) (by rw [hml]; rfl) (lenOf own_pd6 rfl) rfl (hb hby at_29) (by decide) (by decide) (by decide) (by decide) ?_
    intro v29 T29 L29 X29 hQ29
    obtain ⟨rfl, N29, e29⟩ := hQ29
    show OGo p e below (T29.setTop (mkF m 32 #[.val (.int p1), .val (.int p2), .val (.int ac), .val (.ref b), .unset] [(own_acc ac r0 r1 r2 r3)])) (OEnd s (fun v h L => v = some (.int (1 : Int32)) ∧ Fr n0 L) room_1.cells room_1.slots)
    rw [← hu]
    show OGo p e below (T29.setTop (mkF m 32 #[.val (.int p1), .val (.int p2), .val (.int ac), .val (.ref b), .unset] [u])) (OEnd s (fun v h L => v = some (.int (1 : Int32)) ∧ Fr n0 L) room_1.cells room_1.slots)
    rcases ref_cases hur with q | ⟨ua, q⟩
    · subst q
      show OGo p e below (T29.setTop (mkF m 32 #[.val (.int p1), .val (.int p2), .val (.int ac), .val (.ref b), .unset] [.null])) (OEnd s (fun v h L => v = some (.int (1 : Int32)) ∧ Fr n0 L) room_1.cells room_1.slots)
      refine OGo.step (fun _ kk => XS.astore X29.here hx rfl (hb hby at_32) rfl rfl (l' := #[.val (.int p1), .val (.int p2), .val (.int ac), .val (.ref b), .val .null]) rfl kk) ?_
      show OGo p e below (T29.setTop (mkF m 34 #[.val (.int p1), .val (.int p2), .val (.int ac), .val (.ref b), .val .null] [])) (OEnd s (fun v h L => v = some (.int (1 : Int32)) ∧ Fr n0 L) room_1.cells room_1.slots)
      refine OGo.step (fun _ kk => XS.aload X29.here hx rfl (hb hby at_34) rfl rfl kk) ?_
      show OGo p e below (T29.setTop (mkF m 36 #[.val (.int p1), .val (.int p2), .val (.int ac), .val (.ref b), .val .null] [.null])) (OEnd s (fun v h L => v = some (.int (1 : Int32)) ∧ Fr n0 L) room_1.cells room_1.slots)
      refine OGo.step (fun _ kk => XS.ifnonnullNo X29.here hx rfl (hb hby at_36) rfl kk) ?_
      show OGo p e below (T29.setTop (mkF m 39 #[.val (.int p1), .val (.int p2), .val (.int ac), .val (.ref b), .val .null] [])) (OEnd s (fun v h L => v = some (.int (1 : Int32)) ∧ Fr n0 L) room_1.cells room_1.slots)
      refine OGo.step (fun _ kk => XS.aloadN X29.here hx rfl (hb hby at_39) rfl rfl kk) ?_
      show OGo p e below (T29.setTop (mkF m 40 #[.val (.int p1), .val (.int p2), .val (.int ac), .val (.ref b), .val .null] [(.ref b)])) (OEnd s (fun v h L => v = some (.int (1 : Int32)) ∧ Fr n0 L) room_1.cells room_1.slots)
      refine own_virtual X29 hx hZ (y := (⟨"java/util/Optional", "isPresent", "()Z"⟩ : MethodName)) (z := (⟨"java/util/Optional", "isPresent", "()Z"⟩ : MethodName)) hown (hw _ (List.mem_of_getElem? (i := 49) rfl)) (hw _ (List.mem_of_getElem? (i := 50) rfl)) (notFace_of_selects (args := #[]) (mvT hZ (hw _ (List.mem_of_getElem? (i := 52) rfl)))) (hw _ (List.mem_of_getElem? (i := 52) rfl)) (hw _ (List.mem_of_getElem? (i := 51) rfl)) (by decide) (hw _ (List.mem_of_getElem? (i := 53) rfl)) (hw _ (List.mem_of_getElem? (i := 27) rfl)) (b := b) Eb (W := 0) (own_rm8 l Z a0 hw [] b .null _ n0 Z1 rfl Gv) e29  (pc := 40) (Ls := #[.val (.int p1), .val (.int p2), .val (.int ac), .val (.ref b), .val .null]) (argsL := []) (rest := []) (by rw [hml]; rfl) (lenOf own_pd7 rfl) rfl (hb hby at_40) (by decide) (by decide) (by decide) (by decide) ?_
      intro v30 T30 L30 X30 hQ30
      obtain ⟨rfl, N30, e30⟩ := hQ30
      show OGo p e below (T30.setTop (mkF m 43 #[.val (.int p1), .val (.int p2), .val (.int ac), .val (.ref b), .val .null] [(.int (0 : Int32))])) (OEnd s (fun v h L => v = some (.int (1 : Int32)) ∧ Fr n0 L) room_1.cells room_1.slots)
      refine OGo.step (fun _ kk => XS.ifNo X30.here hx rfl (hb hby at_43) rfl ((if0 _ _).trans (teq rfl).2) kk) ?_
      show OGo p e below (T30.setTop (mkF m 46 #[.val (.int p1), .val (.int p2), .val (.int ac), .val (.ref b), .val .null] [])) (OEnd s (fun v h L => v = some (.int (1 : Int32)) ∧ Fr n0 L) room_1.cells room_1.slots)
      refine OGo.step (fun _ kk => XS.iconst X30.here hx rfl (hb hby at_46) kk) ?_
      show OGo p e below (T30.setTop (mkF m 47 #[.val (.int p1), .val (.int p2), .val (.int ac), .val (.ref b), .val .null] [(.int (1 : Int32))])) (OEnd s (fun v h L => v = some (.int (1 : Int32)) ∧ Fr n0 L) room_1.cells room_1.slots)
      refine OGo.step (fun _ kk => XS.goto X30.here hx rfl (pc0 := 47) (pc' := 51) rfl (hb hby at_47) (by decide) (by decide) kk) ?_
      show OGo p e below (T30.setTop (mkF m 51 #[.val (.int p1), .val (.int p2), .val (.int ac), .val (.ref b), .val .null] [(.int (1 : Int32))])) (OEnd s (fun v h L => v = some (.int (1 : Int32)) ∧ Fr n0 L) room_1.cells room_1.slots)
      exact own_retN X30 hx hlk hret (by simp) (hb hby at_51) ⟨rfl, (((Fr.nil n0).app N28).app N29).app N30⟩ (by decide) (by decide)
    · subst q
      show OGo p e below (T29.setTop (mkF m 32 #[.val (.int p1), .val (.int p2), .val (.int ac), .val (.ref b), .unset] [(.ref ua)])) (OEnd s (fun v h L => v = some (.int (1 : Int32)) ∧ Fr n0 L) room_1.cells room_1.slots)
      refine OGo.step (fun _ kk => XS.astore X29.here hx rfl (hb hby at_32) rfl rfl (l' := #[.val (.int p1), .val (.int p2), .val (.int ac), .val (.ref b), .val (.ref ua)]) rfl kk) ?_
      show OGo p e below (T29.setTop (mkF m 34 #[.val (.int p1), .val (.int p2), .val (.int ac), .val (.ref b), .val (.ref ua)] [])) (OEnd s (fun v h L => v = some (.int (1 : Int32)) ∧ Fr n0 L) room_1.cells room_1.slots)
      refine OGo.step (fun _ kk => XS.aload X29.here hx rfl (hb hby at_34) rfl rfl kk) ?_
      show OGo p e below (T29.setTop (mkF m 36 #[.val (.int p1), .val (.int p2), .val (.int ac), .val (.ref b), .val (.ref ua)] [(.ref ua)])) (OEnd s (fun v h L => v = some (.int (1 : Int32)) ∧ Fr n0 L) room_1.cells room_1.slots)
      refine OGo.step (fun _ kk => XS.ifnonnullYes X29.here hx rfl (pc0 := 36) (pc' := 52) rfl (hb hby at_36) rfl (by decide) (by decide) kk) ?_
      show OGo p e below (T29.setTop (mkF m 52 #[.val (.int p1), .val (.int p2), .val (.int ac), .val (.ref b), .val (.ref ua)] [])) (OEnd s (fun v h L => v = some (.int (1 : Int32)) ∧ Fr n0 L) room_1.cells room_1.slots)
      refine OGo.step (fun _ kk => XS.aloadN X29.here hx rfl (hb hby at_52) rfl rfl kk) ?_
      show OGo p e below (T29.setTop (mkF m 53 #[.val (.int p1), .val (.int p2), .val (.int ac), .val (.ref b), .val (.ref ua)] [(.ref b)])) (OEnd s (fun v h L => v = some (.int (1 : Int32)) ∧ Fr n0 L) room_1.cells room_1.slots)
      refine own_virtual X29 hx hZ (y := (⟨"java/util/Optional", "isPresent", "()Z"⟩ : MethodName)) (z := (⟨"java/util/Optional", "isPresent", "()Z"⟩ : MethodName)) hown (hw _ (List.mem_of_getElem? (i := 49) rfl)) (hw _ (List.mem_of_getElem? (i := 50) rfl)) (notFace_of_selects (args := #[]) (mvT hZ (hw _ (List.mem_of_getElem? (i := 52) rfl)))) (hw _ (List.mem_of_getElem? (i := 52) rfl)) (hw _ (List.mem_of_getElem? (i := 51) rfl)) (by decide) (hw _ (List.mem_of_getElem? (i := 53) rfl)) (hw _ (List.mem_of_getElem? (i := 27) rfl)) (b := b) Eb (W := 0) (own_rm8 l Z a0 hw [] b (.ref ua) _ n0 Z1 rfl Gv) e29  (pc := 53) (Ls := #[.val (.int p1), .val (.int p2), .val (.int ac), .val (.ref b), .val (.ref ua)]) (argsL := []) (rest := []) (by rw [hml]; rfl) (lenOf own_pd7 rfl) rfl (hb hby at_53) (by decide) (by decide) (by decide) (by decide) ?_
      intro v31 T31 L31 X31 hQ31
      obtain ⟨rfl, N31, e31⟩ := hQ31
      show OGo p e below (T31.setTop (mkF m 56 #[.val (.int p1), .val (.int p2), .val (.int ac), .val (.ref b), .val (.ref ua)] [(.int (1 : Int32))])) (OEnd s (fun v h L => v = some (.int (1 : Int32)) ∧ Fr n0 L) room_1.cells room_1.slots)
      refine OGo.step (fun _ kk => XS.ifNo X31.here hx rfl (hb hby at_56) rfl ((if0 _ _).trans (feq (by decide)).1) kk) ?_
      show OGo p e below (T31.setTop (mkF m 59 #[.val (.int p1), .val (.int p2), .val (.int ac), .val (.ref b), .val (.ref ua)] [])) (OEnd s (fun v h L => v = some (.int (1 : Int32)) ∧ Fr n0 L) room_1.cells room_1.slots)
      refine OGo.step (fun _ kk => XS.aloadN X31.here hx rfl (hb hby at_59) rfl rfl kk) ?_
      show OGo p e below (T31.setTop (mkF m 60 #[.val (.int p1), .val (.int p2), .val (.int ac), .val (.ref b), .val (.ref ua)] [(.ref b)])) (OEnd s (fun v h L => v = some (.int (1 : Int32)) ∧ Fr n0 L) room_1.cells room_1.slots)
      refine own_virtual X31 hx hZ (y := (⟨"java/util/Optional", "get", "()Ljava/lang/Object;"⟩ : MethodName)) (z := (⟨"java/util/Optional", "get", "()Ljava/lang/Object;"⟩ : MethodName)) hown (hw _ (List.mem_of_getElem? (i := 54) rfl)) (hw _ (List.mem_of_getElem? (i := 55) rfl)) (notFace_of_selects (args := #[]) (mvT hZ (hw _ (List.mem_of_getElem? (i := 57) rfl)))) (hw _ (List.mem_of_getElem? (i := 57) rfl)) (hw _ (List.mem_of_getElem? (i := 56) rfl)) (by decide) (hw _ (List.mem_of_getElem? (i := 58) rfl)) (hw _ (List.mem_of_getElem? (i := 27) rfl)) (b := b) Eb (W := 0) (own_rm9 l Z a0 hw [] b ua _ n0 Z1 Gv) e31  (pc := 60) (Ls := #[.val (.int p1), .val (.int p2), .val (.int ac), .val (.ref b), .val (.ref ua)]) (argsL := []) (rest := []) (by rw [hml]; rfl) (lenOf own_pd8 rfl) rfl (hb hby at_60) (by decide) (by decide) (by decide) (by decide) ?_
      intro v32 T32 L32 X32 hQ32
      obtain ⟨rfl, N32, e32⟩ := hQ32
      show OGo p e below (T32.setTop (mkF m 63 #[.val (.int p1), .val (.int p2), .val (.int ac), .val (.ref b), .val (.ref ua)] [(.ref ua)])) (OEnd s (fun v h L => v = some (.int (1 : Int32)) ∧ Fr n0 L) room_1.cells room_1.slots)
      refine OGo.step (fun _ kk => XS.aload X32.here hx rfl (hb hby at_63) rfl rfl kk) ?_
      show OGo p e below (T32.setTop (mkF m 65 #[.val (.int p1), .val (.int p2), .val (.int ac), .val (.ref b), .val (.ref ua)] [(.ref ua), (.ref ua)])) (OEnd s (fun v h L => v = some (.int (1 : Int32)) ∧ Fr n0 L) room_1.cells room_1.slots)
      refine OGo.step (fun _ kk => Jvm.RoadKit.acmp (g := (mkF m 65 #[.val (.int p1), .val (.int p2), .val (.int ac), .val (.ref b), .val (.ref ua)] [(.ref ua), (.ref ua)])) X32 hx rfl rfl rfl (pc0 := 65) (pc' := 68) (same := true) rfl (hb hby at_65) rfl (decide_eq_true rfl) (by decide) (by decide) kk) ?_
      show OGo p e below (T32.setTop (mkF m 68 #[.val (.int p1), .val (.int p2), .val (.int ac), .val (.ref b), .val (.ref ua)] [])) (OEnd s (fun v h L => v = some (.int (1 : Int32)) ∧ Fr n0 L) room_1.cells room_1.slots)
      refine OGo.step (fun _ kk => XS.iconst X32.here hx rfl (hb hby at_68) kk) ?_
      show OGo p e below (T32.setTop (mkF m 69 #[.val (.int p1), .val (.int p2), .val (.int ac), .val (.ref b), .val (.ref ua)] [(.int (1 : Int32))])) (OEnd s (fun v h L => v = some (.int (1 : Int32)) ∧ Fr n0 L) room_1.cells room_1.slots)
      refine OGo.step (fun _ kk => XS.goto X32.here hx rfl (pc0 := 69) (pc' := 73) rfl (hb hby at_69) (by decide) (by decide) kk) ?_
      show OGo p e below (T32.setTop (mkF m 73 #[.val (.int p1), .val (.int p2), .val (.int ac), .val (.ref b), .val (.ref ua)] [(.int (1 : Int32))])) (OEnd s (fun v h L => v = some (.int (1 : Int32)) ∧ Fr n0 L) room_1.cells room_1.slots)
      exact own_retN X32 hx hlk hret (by simp) (hb hby at_73) ⟨rfl, ((((Fr.nil n0).app N28).app N29).app N31).app N32⟩ (by decide) (by decide)
  by_cases hk : (p2 &&& (1 : Int32)) = (0 : Int32)
  · refine OGo.step (fun _ kk => XS.ifYes X0.here hx rfl (pc0 := 3) (pc' := 10) rfl (hb hby at_3) rfl ((if0 _ _).trans (teq hk).1) (by decide) (by decide) kk) ?_
    show OGo p e below (s₁.setTop (mkF m 10 #[.val (.int p1), .val (.int p2), .unset, .unset, .unset] [])) (OEnd s (fun v h L => v = some (.int (1 : Int32)) ∧ Fr n0 L) room_1.cells room_1.slots)
    refine OGo.step (fun _ kk => XS.iloadN X0.here hx rfl (hb hby at_10) rfl kk) ?_
    show OGo p e below (s₁.setTop (mkF m 11 #[.val (.int p1), .val (.int p2), .unset, .unset, .unset] [(.int p1)])) (OEnd s (fun v h L => v = some (.int (1 : Int32)) ∧ Fr n0 L) room_1.cells room_1.slots)
    refine OGo.step (fun _ kk => XS.bipush X0.here hx rfl (hb hby at_11) kk) ?_
    show OGo p e below (s₁.setTop (mkF m 13 #[.val (.int p1), .val (.int p2), .unset, .unset, .unset] [(.int (7 : Int32)), (.int p1)])) (OEnd s (fun v h L => v = some (.int (1 : Int32)) ∧ Fr n0 L) room_1.cells room_1.slots)
    refine OGo.step (fun _ kk => XS.iand X0.here hx rfl (hb hby at_13) rfl kk) ?_
    show OGo p e below (s₁.setTop (mkF m 14 #[.val (.int p1), .val (.int p2), .unset, .unset, .unset] [(.int (p1 &&& (7 : Int32)))])) (OEnd s (fun v h L => v = some (.int (1 : Int32)) ∧ Fr n0 L) room_1.cells room_1.slots)
    refine OGo.step (fun _ kk => XS.iconst X0.here hx rfl (hb hby at_14) kk) ?_
    show OGo p e below (s₁.setTop (mkF m 15 #[.val (.int p1), .val (.int p2), .unset, .unset, .unset] [(.int (2 : Int32)), (.int (p1 &&& (7 : Int32)))])) (OEnd s (fun v h L => v = some (.int (1 : Int32)) ∧ Fr n0 L) room_1.cells room_1.slots)
    refine OGo.step (fun _ kk => XS.isub X0.here hx rfl (hb hby at_15) rfl kk) ?_
    show OGo p e below (s₁.setTop (mkF m 16 #[.val (.int p1), .val (.int p2), .unset, .unset, .unset] [(.int ((p1 &&& (7 : Int32)) - (2 : Int32)))])) (OEnd s (fun v h L => v = some (.int (1 : Int32)) ∧ Fr n0 L) room_1.cells room_1.slots)
    exact K16 _
  · refine OGo.step (fun _ kk => XS.ifNo X0.here hx rfl (hb hby at_3) rfl ((if0 _ _).trans (feq hk).1) kk) ?_
    show OGo p e below (s₁.setTop (mkF m 6 #[.val (.int p1), .val (.int p2), .unset, .unset, .unset] [])) (OEnd s (fun v h L => v = some (.int (1 : Int32)) ∧ Fr n0 L) room_1.cells room_1.slots)
    refine OGo.step (fun _ kk => XS.iloadN X0.here hx rfl (hb hby at_6) rfl kk) ?_
    show OGo p e below (s₁.setTop (mkF m 7 #[.val (.int p1), .val (.int p2), .unset, .unset, .unset] [(.int p1)])) (OEnd s (fun v h L => v = some (.int (1 : Int32)) ∧ Fr n0 L) room_1.cells room_1.slots)
    refine OGo.step (fun _ kk => XS.goto X0.here hx rfl (pc0 := 7) (pc' := 16) rfl (hb hby at_7) (by decide) (by decide) kk) ?_
    show OGo p e below (s₁.setTop (mkF m 16 #[.val (.int p1), .val (.int p2), .unset, .unset, .unset] [(.int p1)])) (OEnd s (fun v h L => v = some (.int (1 : Int32)) ∧ Fr n0 L) room_1.cells room_1.slots)
    exact K16 _

set_option maxRecDepth 65536 in
set_option maxHeartbeats 40000000 in
theorem comes_1 {Post : Tables → Env → Array Value → State → Outcome → State → Prop} (hpost : ∀ tb e args s v u, (limb_1_1.after args s (.returned v) u = true ∧ limb_1_2.after args s (.returned v) u = true ∧ True) → FrameEnd s (.returned v) u (Jvm.fieldLocs frame_1_writes args s ++ Jvm.arrayLocs frame_1_arrays args s ++ Jvm.staticLocs frame_1_statics s) 16 128 → Post tb e args s (.returned v) u) :
    ArmFor flags0 classFile x code maxLocals ret World_1 tables_1 room_1 Calls_1 rest_1 Pre_1 Post := by
  intro l hfl _ _ p e ha hc hk s m args below hf hA hF happ hP
  obtain ⟨hcalls, hrest, hpre⟩ := hP
  obtain ⟨-, -, -, hnamed, -, -, -, hat⟩ := (Spec.applies_iff hf).mp happ
  obtain ⟨hg, hn⟩ := and_e (Cond.before_iff.mp (show (Jvm.Cond.and given_1 narrow_1).before args s = true from hpre))
  obtain ⟨k33, k33'⟩ := and_e hg
  obtain ⟨k34, k34'⟩ := and_e k33'
  obtain ⟨w0_, w1_, rfl⟩ : ∃ w0_ w1_ : Value, args = #[w0_, w1_] := by
    have hs : args.size = 2 := by simpa [Cond.value, given_1] using k33
    obtain ⟨L⟩ := args
    match L, hs with
    | [w0_, w1_], _ => exact ⟨w0_, w1_, rfl⟩
  have hw := fun d (hd : d ∈ tables_1) => atoms_spec (ws := Jvm.Cond.code x code maxLocals ret :: tables_1) hat d (List.mem_cons_of_mem _ hd)
  have hfit : Fit s := fun {y c} hc i hi => by
    obtain ⟨ha, rfl⟩ := Array.getElem?_eq_some_iff.mp hc
    have q := List.all_eq_true.mp ((Array.all_eq_true_iff_forall_mem.mp hF) _ (Array.getElem_mem ha)) i (List.mem_range.mpr hi)
    simpa [Array.getElem?_eq_getElem hi] using q
  obtain ⟨hsets, hown0⟩ := atoms_of _ (rest_1_c_eq ▸ (show rest_1_c.before _ s = true from hrest))
  obtain ⟨i0, ei0⟩ := is_v k34
  obtain rfl : w0_ = (.int i0) := Option.some.inj ei0
  obtain ⟨i1, ei1⟩ := is_v k34'
  obtain rfl : w1_ = (.int i1) := Option.some.inj ei1
  obtain ⟨k35, k35'⟩ := and_e hn
  obtain ⟨k36, k36'⟩ := and_e k35'
  obtain ⟨k37, k37'⟩ := and_e k36'
  obtain ⟨k38, k38'⟩ := and_e k37'
  obtain ⟨k39, k39'⟩ := and_e k38'
  obtain ⟨k40, k40'⟩ := and_e k39'
  obtain ⟨k41, k41'⟩ := and_e k40'
  obtain ⟨k42, k42'⟩ := and_e k41'
  obtain ⟨k43, k43'⟩ := and_e k42'
  obtain ⟨k44, k44'⟩ := and_e k43'
  obtain ⟨k45, k45'⟩ := and_e k44'
  obtain ⟨k46, k46'⟩ := and_e k45'
  obtain ⟨k47, k47'⟩ := and_e k46'
  obtain ⟨k48, k48'⟩ := and_e k47'
  obtain ⟨a__VALUES, ev__VALUES⟩ := arr_v k35
  have S__VALUES := Sta.start ev__VALUES (Or.inr ⟨(hw _ (List.mem_of_getElem? (i := 2) rfl)), (hw _ (List.mem_of_getElem? (i := 8) rfl))⟩)
  obtain ⟨c__VALUES, Ar__VALUES⟩ := Arr.start ev__VALUES k35
  have E__VALUES := Exa.start ev__VALUES k36
  obtain ⟨a_ADMIN, ev_ADMIN⟩ := exa_v k38
  have S_ADMIN := Sta.start ev_ADMIN (Or.inr ⟨(hw _ (List.mem_of_getElem? (i := 2) rfl)), (hw _ (List.mem_of_getElem? (i := 16) rfl))⟩)
  have E_ADMIN := Exa.start ev_ADMIN k38
  obtain ⟨a_RESOURCE_ADMIN, ev_RESOURCE_ADMIN⟩ := exa_v k40
  have S_RESOURCE_ADMIN := Sta.start ev_RESOURCE_ADMIN (Or.inr ⟨(hw _ (List.mem_of_getElem? (i := 2) rfl)), (hw _ (List.mem_of_getElem? (i := 17) rfl))⟩)
  have E_RESOURCE_ADMIN := Exa.start ev_RESOURCE_ADMIN k40
  obtain ⟨a_DOMAIN_ADMIN, ev_DOMAIN_ADMIN⟩ := exa_v k42
  have S_DOMAIN_ADMIN := Sta.start ev_DOMAIN_ADMIN (Or.inr ⟨(hw _ (List.mem_of_getElem? (i := 2) rfl)), (hw _ (List.mem_of_getElem? (i := 18) rfl))⟩)
  have E_DOMAIN_ADMIN := Exa.start ev_DOMAIN_ADMIN k42
  obtain ⟨a_USER, ev_USER⟩ := exa_v k44
  have S_USER := Sta.start ev_USER (Or.inr ⟨(hw _ (List.mem_of_getElem? (i := 2) rfl)), (hw _ (List.mem_of_getElem? (i := 19) rfl))⟩)
  have E_USER := Exa.start ev_USER k44
  have len__VALUES := own_len ev__VALUES Ar__VALUES (own_eqv k37 rfl)
  have el__VALUES_0 := own_elem ev__VALUES Ar__VALUES (own_eqv k39 ev_ADMIN)
  have el__VALUES_1 := own_elem ev__VALUES Ar__VALUES (own_eqv k41 ev_RESOURCE_ADMIN)
  have el__VALUES_2 := own_elem ev__VALUES Ar__VALUES (own_eqv k43 ev_DOMAIN_ADMIN)
  have el__VALUES_3 := own_elem ev__VALUES Ar__VALUES (own_eqv k45 ev_USER)
  have F_ADMIN_accountType := Fld.start ((fld_at ev_ADMIN).symm.trans (own_eqv k46 rfl))
  have F_RESOURCE_ADMIN_accountType := Fld.start ((fld_at ev_RESOURCE_ADMIN).symm.trans (own_eqv k47 rfl))
  have F_DOMAIN_ADMIN_accountType := Fld.start ((fld_at ev_DOMAIN_ADMIN).symm.trans (own_eqv k48 rfl))
  have F_USER_accountType := Fld.start ((fld_at ev_USER).symm.trans (own_eqv k48' rfl))
  have xE := Cond.before_iff.mp (hsets _ (List.mem_of_getElem? (i := 2) rfl))
  obtain ⟨eo, evE⟩ := exa_v xE
  have SE := Sta.start evE (Or.inl (hsets _ (List.mem_of_getElem? (i := 1) rfl)))
  have EO := Exa.start evE xE
  have FO := Fld.start ((fld_at evE).symm.trans (null_v (Cond.before_iff.mp (hsets _ (List.mem_of_getElem? (i := 3) rfl)))))
  have VS : c__VALUES.slots.size = 4 := by
    have q := len_toInt len__VALUES.1
    rw [len__VALUES.2] at q
    have z : (4 : Int32).toInt = 4 := rfl
    omega
  obtain ⟨n, o, h1, h2, h3, _, L, rfl, ⟨rfl, N⟩, hq⟩ := own_rm0 l s _ hw tables_1 i0 i1 a__VALUES c__VALUES a_ADMIN a_RESOURCE_ADMIN a_DOMAIN_ADMIN a_USER eo s.heap s.heap.size (Nat.le_refl _) S__VALUES Ar__VALUES E__VALUES (FitC.start hfit Ar__VALUES) VS (Old.start s) el__VALUES_0 el__VALUES_1 el__VALUES_2 el__VALUES_3 F_ADMIN_accountType F_RESOURCE_ADMIN_accountType F_DOMAIN_ADMIN_accountType F_USER_accountType SE EO FO S_ADMIN S_RESOURCE_ADMIN S_DOMAIN_ADMIN S_USER p e ha hc hk s m _ below hf ((Spec.applies_iff_loose hf).mp happ).1 ⟨rfl, State.Warmed39.refl s, rfl⟩ trivial
  exact ⟨n, _, h1, h2, h3, hpost _ _ _ _ _ _ ⟨Cond.after_iff.mpr rfl, Cond.after_iff.mpr (eq_i res_at (Term.int_eval (1)) rfl), trivial⟩ ⟨hq.1, hq.2.1, (hq.2.2.sift fun y hy => Or.inr (N y hy)).mono (by decide) (by decide)⟩⟩
theorem main_1_1 : Claimed_1_1 := comes_1 fun _ _ _ _ _ _ h hF => ⟨h.1, hF⟩
theorem main_1_2 : Claimed_1_2 := comes_1 fun _ _ _ _ _ _ h hF => ⟨h.2.1, hF⟩
end Jvm.Pilot.@@N@@
namespace Jvm.Pilot.@@N@@
open Jvm Jvm.ClassFile Sem Op Lib Jvm.Free Jvm.Stand Jvm.Pilot.@@N@@.Jvm.D
/-! MADE BY PROGRAM (witnessworld.py) out of the Statement's table words and the real class files: 15 classes; the members and pool entries that the words name. The judged class is class 1, her method 1. -/
namespace start1
open Jvm.ClassFile
def u (s : String) : CpInfo := .utf8 (stringToUtf16 s)
/-- a pool by its gaps: so many unusable entries, then the entry; so many at the end -/
def gap : Nat → List CpInfo → List CpInfo
  | 0, r => r
  | n + 1, r => .unusable :: gap n r
def poolList (es : List (Nat × CpInfo)) (last : Nat) : List CpInfo := es.foldr (fun e r => gap e.1 (e.2 :: r)) (gap last [])
def pool (es : List (Nat × CpInfo)) (last : Nat) : Array CpInfo := ⟨poolList es last⟩
def fileOf (pool : Array CpInfo) (this : Nat) (attrs : Array Attribute := #[]) (ms : Array MethodInfo := #[]) (fl : Nat := 33) (sup : Nat := 0) (ifs : Array Nat := #[]) (fds : Array FieldInfo := #[]) : ClassFile where
  minorVersion := 0
  majorVersion := 65
  constantPool := pool
  accessFlags := fl
  thisClass := this
  superClass := sup
  interfaces := ifs
  fields := fds
  methods := ms
  attributes := attrs
def plain (name : String) (sup : Option ClassId) : Class where
  name := name
  kind := .ordinary
  loader := none
  accessFlags := 33
  super := sup
  interfaces := #[]
  cf := none
  fields := #[]
  methods := #[]
  instanceTypes := #[]
  staticTypes := #[]
  resolved := #[]
  callSites := []
  init := .initialized
  statics := none
  mirror := none

def pool0 : Array CpInfo := pool [(5, u "<init>"), (0, u "()V"), (1, .class_ 10), (1, u "java/lang/Object"), (85, u "clone"), (0, u "()Ljava/lang/Object;")] 26

def k0c0 : Code := { maxStack := 0, maxLocals := 1, code := object_method_1_code, exceptionTable := #[], attributes := #[] }
def k0m0 : Method := { name := "<init>", desc := "()V", sig := { parameters := [], returnType := none }, accessFlags := 1, code := some k0c0 }
def k0m1 : Method := { name := "clone", desc := "()Ljava/lang/Object;", sig := { parameters := [], returnType := some (.object "java/lang/Object") }, accessFlags := 260, code := none }
/-- java/lang/Object -/
def k0 : Class := { plain "java/lang/Object" none with
  accessFlags := 33
  interfaces := #[]
  cf := some (fileOf pool0 8 #[] #[{ accessFlags := 1, nameIndex := 5, descriptorIndex := 6, attributes := #[] }, { accessFlags := 260, nameIndex := 96, descriptorIndex := 97, attributes := #[] }] 33 0 #[] #[])
  fields := #[]
  methods := #[k0m0, k0m1]
  instanceTypes := #[]
  staticTypes := #[]
  resolved := Array.replicate 124 none
  statics := none }

def pool1 : Array CpInfo := pool [(2, .class_ 4), (1, u "java/lang/Object"), (0, u "<init>"), (0, u "()V"), (0, .methodref 8 9), (0, .class_ 10), (0, .nameAndType 11 12), (0, u "com/example/tenantd/tenantd/RoleType"), (0, u "ofAccountType"), (0, u "(I)Ljava/util/Optional;"), (0, .methodref 14 15), (0, .class_ 16), (0, .nameAndType 17 18), (0, u "com/example/tenantd/tenantd/RoleTypeOfAccountTypePinLaw"), (0, u "expected"), (0, u "(I)Lcom/example/tenantd/tenantd/RoleType;"), (0, .methodref 20 21), (0, .class_ 22), (0, .nameAndType 23 24), (0, u "java/util/Optional"), (0, u "isPresent"), (0, u "()Z"), (0, .methodref 20 26), (0, .nameAndType 27 28), (0, u "get"), (0, u "()Ljava/lang/Object;"), (0, .fieldref 8 30), (0, .nameAndType 31 32), (0, u "USER"), (0, u "Lcom/example/tenantd/tenantd/RoleType;"), (0, .fieldref 8 34), (0, .nameAndType 35 32), (0, u "ADMIN"), (0, .fieldref 8 37), (0, .nameAndType 38 32), (0, u "DOMAIN_ADMIN"), (0, .fieldref 8 40), (0, .nameAndType 41 32), (0, u "RESOURCE_ADMIN"), (2, u "law"), (0, u "(II)Z")] 3

def k1m0 : Method := { name := "<init>", desc := "()V", sig := { parameters := [], returnType := none }, accessFlags := 2, code := none }
def k1c1 : Code := { maxStack := 2, maxLocals := 5, code := code, exceptionTable := #[], attributes := #[] }
def k1m1 : Method := { name := "law", desc := "(II)Z", sig := { parameters := [.int, .int], returnType := some .boolean }, accessFlags := 9, code := some k1c1 }
def k1c2 : Code := { maxStack := 2, maxLocals := 1, code := method_3_code, exceptionTable := #[], attributes := #[] }
def k1m2 : Method := { name := "expected", desc := "(I)Lcom/example/tenantd/tenantd/RoleType;", sig := { parameters := [.int], returnType := some (.object "com/example/tenantd/tenantd/RoleType") }, accessFlags := 10, code := some k1c2 }
/-- com/example/tenantd/tenantd/RoleTypeOfAccountTypePinLaw -/
def k1 : Class := { plain "com/example/tenantd/tenantd/RoleTypeOfAccountTypePinLaw" (some 0) with
  accessFlags := 49
  interfaces := #[]
  cf := some (fileOf pool1 14 #[] #[{ accessFlags := 2, nameIndex := 5, descriptorIndex := 6, attributes := #[] }, { accessFlags := 9, nameIndex := 44, descriptorIndex := 45, attributes := #[] }, { accessFlags := 10, nameIndex := 17, descriptorIndex := 18, attributes := #[] }] 49 2 #[] #[])
  fields := #[]
  methods := #[k1m0, k1m1, k1m2]
  instanceTypes := #[]
  staticTypes := #[]
  resolved := Array.replicate 49 none
  statics := none }

def pool2 : Array CpInfo := pool [(1, .class_ 2), (0, u "java/lang/constant/Constable"), (0, .class_ 4), (0, u "java/lang/Object")] 6

/-- java/lang/constant/Constable -/
def k2 : Class := { plain "java/lang/constant/Constable" (some 0) with
  accessFlags := 1537
  interfaces := #[]
  cf := some (fileOf pool2 1 #[] #[] 1537 3 #[] #[])
  fields := #[]
  methods := #[]
  instanceTypes := #[]
  staticTypes := #[]
  resolved := Array.replicate 11 none
  statics := none }

def pool3 : Array CpInfo := pool [(1, .class_ 2), (0, u "java/lang/Comparable"), (0, .class_ 4), (0, u "java/lang/Object")] 7

/-- java/lang/Comparable -/
def k3 : Class := { plain "java/lang/Comparable" (some 0) with
  accessFlags := 1537
  interfaces := #[]
  cf := some (fileOf pool3 1 #[] #[] 1537 3 #[] #[])
  fields := #[]
  methods := #[]
  instanceTypes := #[]
  staticTypes := #[]
  resolved := Array.replicate 12 none
  statics := none }

def pool4 : Array CpInfo := pool [(1, .class_ 2), (0, u "java/io/Serializable"), (0, .class_ 4), (0, u "java/lang/Object")] 2

/-- java/io/Serializable -/
def k4 : Class := { plain "java/io/Serializable" (some 0) with
  accessFlags := 1537
  interfaces := #[]
  cf := some (fileOf pool4 1 #[] #[] 1537 3 #[] #[])
  fields := #[]
  methods := #[]
  instanceTypes := #[]
  staticTypes := #[]
  resolved := Array.replicate 7 none
  statics := none }

def pool5 : Array CpInfo := pool [(2, .class_ 4), (1, u "java/lang/Enum"), (0, u "name"), (0, u "Ljava/lang/String;"), (2, u "ordinal"), (0, u "I"), (1, .class_ 14), (1, u "java/lang/Object"), (4, u "hash"), (86, .class_ 108), (1, u "java/lang/Enum$EnumDesc"), (2, .class_ 112), (0, u "java/lang/constant/Constable"), (0, .class_ 114), (0, u "java/lang/Comparable"), (0, .class_ 116), (0, u "java/io/Serializable")] 87

/-- java/lang/Enum -/
def k5 : Class := { plain "java/lang/Enum" (some 0) with
  accessFlags := 1057
  interfaces := #[2, 3, 4]
  cf := some (fileOf pool5 2 #[.nestMembers #[106]] #[] 1057 12 #[111, 113, 115] #[{ accessFlags := 18, nameIndex := 5, descriptorIndex := 6, attributes := #[] }, { accessFlags := 18, nameIndex := 9, descriptorIndex := 10, attributes := #[] }, { accessFlags := 2, nameIndex := 19, descriptorIndex := 10, attributes := #[] }])
  fields := #[{ name := "name", type := (.object "java/lang/String"), accessFlags := 18, slot := 0, constantValue := 0 }, { name := "ordinal", type := .int, accessFlags := 18, slot := 1, constantValue := 0 }, { name := "hash", type := .int, accessFlags := 2, slot := 2, constantValue := 0 }]
  methods := #[]
  instanceTypes := #[(.object "java/lang/String"), .int, .int]
  staticTypes := #[]
  resolved := Array.replicate 204 none
  statics := none }

def pool6 : Array CpInfo := pool [(1, .class_ 2), (0, u "com/example/tenantd/tenantd/RoleType"), (2, u "ADMIN"), (0, u "Lcom/example/tenantd/tenantd/RoleType;"), (2, u "RESOURCE_ADMIN"), (2, u "DOMAIN_ADMIN"), (2, u "USER"), (0, .fieldref 1 17), (0, .nameAndType 18 19), (0, u "$VALUES"), (0, u "[Lcom/example/tenantd/tenantd/RoleType;"), (0, .methodref 21 22), (0, .class_ 19), (0, .nameAndType 23 24), (0, u "clone"), (0, u "()Ljava/lang/Object;"), (1, .class_ 28), (1, u "java/lang/Enum"), (8, u "text"), (0, u "Ljava/lang/String;"), (2, u "defaultRoleName"), (0, .fieldref 1 43), (0, .nameAndType 44 45), (0, u "accountType"), (0, u "I"), (0, .methodref 1 47), (0, .nameAndType 48 49), (0, u "values"), (0, u "()[Lcom/example/tenantd/tenantd/RoleType;"), (0, .methodref 51 52), (0, .class_ 53), (0, .nameAndType 54 55), (0, u "java/util/Optional"), (0, u "of"), (0, u "(Ljava/lang/Object;)Ljava/util/Optional;"), (0, .methodref 51 57), (0, .nameAndType 58 59), (0, u "empty"), (0, u "()Ljava/util/Optional;"), (38, u "ofAccountType"), (0, u "(I)Ljava/util/Optional;")] 10

def k6c0 : Code := { maxStack := 1, maxLocals := 0, code := prog_11_method_1_code, exceptionTable := #[], attributes := #[] }
def k6m0 : Method := { name := "values", desc := "()[Lcom/example/tenantd/tenantd/RoleType;", sig := { parameters := [], returnType := some (.array (.object "com/example/tenantd/tenantd/RoleType")) }, accessFlags := 9, code := some k6c0 }
def k6c1 : Code := { maxStack := 2, maxLocals := 5, code := prog_11_method_7_code, exceptionTable := #[], attributes := #[] }
def k6m1 : Method := { name := "ofAccountType", desc := "(I)Ljava/util/Optional;", sig := { parameters := [.int], returnType := some (.object "java/util/Optional") }, accessFlags := 8, code := some k6c1 }
/-- com/example/tenantd/tenantd/RoleType -/
def k6 : Class := { plain "com/example/tenantd/tenantd/RoleType" (some 5) with
  accessFlags := 16432
  interfaces := #[]
  cf := some (fileOf pool6 1 #[] #[{ accessFlags := 9, nameIndex := 48, descriptorIndex := 49, attributes := #[] }, { accessFlags := 8, nameIndex := 98, descriptorIndex := 99, attributes := #[] }] 16432 26 #[] #[{ accessFlags := 16409, nameIndex := 5, descriptorIndex := 6, attributes := #[] }, { accessFlags := 16409, nameIndex := 9, descriptorIndex := 6, attributes := #[] }, { accessFlags := 16409, nameIndex := 12, descriptorIndex := 6, attributes := #[] }, { accessFlags := 16409, nameIndex := 15, descriptorIndex := 6, attributes := #[] }, { accessFlags := 18, nameIndex := 37, descriptorIndex := 38, attributes := #[] }, { accessFlags := 18, nameIndex := 41, descriptorIndex := 38, attributes := #[] }, { accessFlags := 18, nameIndex := 44, descriptorIndex := 45, attributes := #[] }, { accessFlags := 4122, nameIndex := 18, descriptorIndex := 19, attributes := #[] }])
  fields := #[{ name := "ADMIN", type := (.object "com/example/tenantd/tenantd/RoleType"), accessFlags := 16409, slot := 0, constantValue := 0 }, { name := "RESOURCE_ADMIN", type := (.object "com/example/tenantd/tenantd/RoleType"), accessFlags := 16409, slot := 1, constantValue := 0 }, { name := "DOMAIN_ADMIN", type := (.object "com/example/tenantd/tenantd/RoleType"), accessFlags := 16409, slot := 2, constantValue := 0 }, { name := "USER", type := (.object "com/example/tenantd/tenantd/RoleType"), accessFlags := 16409, slot := 3, constantValue := 0 }, { name := "text", type := (.object "java/lang/String"), accessFlags := 18, slot := 3, constantValue := 0 }, { name := "defaultRoleName", type := (.object "java/lang/String"), accessFlags := 18, slot := 4, constantValue := 0 }, { name := "accountType", type := .int, accessFlags := 18, slot := 5, constantValue := 0 }, { name := "$VALUES", type := (.array (.object "com/example/tenantd/tenantd/RoleType")), accessFlags := 4122, slot := 4, constantValue := 0 }]
  methods := #[k6m0, k6m1]
  instanceTypes := #[(.object "java/lang/String"), .int, .int, (.object "java/lang/String"), (.object "java/lang/String"), .int]
  staticTypes := #[(.object "com/example/tenantd/tenantd/RoleType"), (.object "com/example/tenantd/tenantd/RoleType"), (.object "com/example/tenantd/tenantd/RoleType"), (.object "com/example/tenantd/tenantd/RoleType"), (.array (.object "com/example/tenantd/tenantd/RoleType"))]
  resolved := Array.replicate 110 none
  statics := some 0 }

def pool7 : Array CpInfo := pool [(1, .class_ 2), (0, u "java/lang/Cloneable"), (0, .class_ 4), (0, u "java/lang/Object")] 2

/-- java/lang/Cloneable -/
def k7 : Class := { plain "java/lang/Cloneable" (some 0) with
  accessFlags := 1537
  interfaces := #[]
  cf := some (fileOf pool7 1 #[] #[] 1537 3 #[] #[])
  fields := #[]
  methods := #[]
  instanceTypes := #[]
  staticTypes := #[]
  resolved := Array.replicate 7 none
  statics := none }

def pool8 : Array CpInfo := pool [(1, .fieldref 2 3), (0, .class_ 4), (0, .nameAndType 5 6), (0, u "java/util/Optional"), (0, u "EMPTY"), (0, u "Ljava/util/Optional;"), (0, .methodref 8 9), (0, .class_ 10), (0, .nameAndType 11 12), (0, u "java/lang/Object"), (0, u "<init>"), (0, u "()V"), (0, .fieldref 2 14), (0, .nameAndType 15 16), (0, u "value"), (0, u "Ljava/lang/Object;"), (0, .methodref 18 19), (0, .class_ 20), (0, .nameAndType 21 22), (0, u "java/util/Objects"), (0, u "requireNonNull"), (0, u "(Ljava/lang/Object;)Ljava/lang/Object;"), (0, .methodref 2 24), (0, .nameAndType 11 25), (0, u "(Ljava/lang/Object;)V"), (20, u "()Z"), (8, u "empty"), (0, u "()Ljava/util/Optional;"), (8, u "(Ljava/lang/Object;)Ljava/util/Optional;"), (2, u "isPresent"), (4, u "get"), (0, u "()Ljava/lang/Object;"), (7, u "of")] 104

def k8c0 : Code := { maxStack := 1, maxLocals := 1, code := jdk_32_method_1_code, exceptionTable := #[], attributes := #[] }
def k8m0 : Method := { name := "empty", desc := "()Ljava/util/Optional;", sig := { parameters := [], returnType := some (.object "java/util/Optional") }, accessFlags := 9, code := some k8c0 }
def k8c1 : Code := { maxStack := 2, maxLocals := 2, code := jdk_32_method_2_code, exceptionTable := #[], attributes := #[] }
def k8m1 : Method := { name := "<init>", desc := "(Ljava/lang/Object;)V", sig := { parameters := [(.object "java/lang/Object")], returnType := none }, accessFlags := 2, code := some k8c1 }
def k8c2 : Code := { maxStack := 3, maxLocals := 1, code := jdk_32_method_3_code, exceptionTable := #[], attributes := #[] }
def k8m2 : Method := { name := "of", desc := "(Ljava/lang/Object;)Ljava/util/Optional;", sig := { parameters := [(.object "java/lang/Object")], returnType := some (.object "java/util/Optional") }, accessFlags := 9, code := some k8c2 }
def k8c3 : Code := { maxStack := 3, maxLocals := 1, code := jdk_32_method_5_code, exceptionTable := #[], attributes := #[] }
def k8m3 : Method := { name := "get", desc := "()Ljava/lang/Object;", sig := { parameters := [], returnType := some (.object "java/lang/Object") }, accessFlags := 1, code := some k8c3 }
def k8c4 : Code := { maxStack := 1, maxLocals := 1, code := jdk_32_method_6_code, exceptionTable := #[], attributes := #[] }
def k8m4 : Method := { name := "isPresent", desc := "()Z", sig := { parameters := [], returnType := some .boolean }, accessFlags := 1, code := some k8c4 }
/-- java/util/Optional -/
def k8 : Class := { plain "java/util/Optional" (some 0) with
  accessFlags := 49
  interfaces := #[]
  cf := some (fileOf pool8 2 #[] #[{ accessFlags := 9, nameIndex := 55, descriptorIndex := 56, attributes := #[] }, { accessFlags := 2, nameIndex := 11, descriptorIndex := 25, attributes := #[] }, { accessFlags := 9, nameIndex := 82, descriptorIndex := 65, attributes := #[] }, { accessFlags := 1, nameIndex := 73, descriptorIndex := 74, attributes := #[] }, { accessFlags := 1, nameIndex := 68, descriptorIndex := 46, attributes := #[] }] 49 8 #[] #[{ accessFlags := 26, nameIndex := 5, descriptorIndex := 6, attributes := #[] }, { accessFlags := 18, nameIndex := 15, descriptorIndex := 16, attributes := #[] }])
  fields := #[{ name := "EMPTY", type := (.object "java/util/Optional"), accessFlags := 26, slot := 0, constantValue := 0 }, { name := "value", type := (.object "java/lang/Object"), accessFlags := 18, slot := 0, constantValue := 0 }]
  methods := #[k8m0, k8m1, k8m2, k8m3, k8m4]
  instanceTypes := #[(.object "java/lang/Object")]
  staticTypes := #[(.object "java/util/Optional")]
  resolved := Array.replicate 187 none
  statics := some 1 }

def pool9 : Array CpInfo := pool [(2, .class_ 4), (1, u "java/lang/Object"), (0, u "<init>"), (0, u "()V"), (35, .class_ 44), (1, u "java/util/Objects"), (0, u "requireNonNull"), (0, u "(Ljava/lang/Object;)Ljava/lang/Object;")] 137

def k9m0 : Method := { name := "<init>", desc := "()V", sig := { parameters := [], returnType := none }, accessFlags := 2, code := none }
def k9c1 : Code := { maxStack := 2, maxLocals := 1, code := jdk_31_method_10_code, exceptionTable := #[], attributes := #[] }
def k9m1 : Method := { name := "requireNonNull", desc := "(Ljava/lang/Object;)Ljava/lang/Object;", sig := { parameters := [(.object "java/lang/Object")], returnType := some (.object "java/lang/Object") }, accessFlags := 9, code := some k9c1 }
/-- java/util/Objects -/
def k9 : Class := { plain "java/util/Objects" (some 0) with
  accessFlags := 49
  interfaces := #[]
  cf := some (fileOf pool9 42 #[] #[{ accessFlags := 2, nameIndex := 5, descriptorIndex := 6, attributes := #[] }, { accessFlags := 9, nameIndex := 45, descriptorIndex := 46, attributes := #[] }] 49 2 #[] #[])
  fields := #[]
  methods := #[k9m0, k9m1]
  instanceTypes := #[]
  staticTypes := #[]
  resolved := Array.replicate 184 none
  statics := none }

/-- the primitive byte -/
def k10 : Class := { plain "byte" none with kind := .primitive 'B', accessFlags := 0x411 }
/-- [B -/
def k11 : Class := { plain "[B" (some 0) with kind := .array 10 .byte, interfaces := #[7, 4], accessFlags := 1041 }

/-- the primitive int -/
def k12 : Class := { plain "int" none with kind := .primitive 'I', accessFlags := 0x411 }
/-- [I -/
def k13 : Class := { plain "[I" (some 0) with kind := .array 12 .int, interfaces := #[7, 4], accessFlags := 1041 }

/-- [Lcom/example/tenantd/tenantd/RoleType; -/
def k14 : Class := { plain "[Lcom/example/tenantd/tenantd/RoleType;" (some 0) with kind := .array 6 (.object "com/example/tenantd/tenantd/RoleType"), interfaces := #[7, 4], accessFlags := 1041 }

def heap : Heap := #[{ cls := 6, slots := #[.ref 3, .ref 4, .ref 5, .ref 6, .ref 2], vm := .statics 6 },
  { cls := 8, slots := #[.ref 7], vm := .statics 8 },
  { cls := 14, slots := #[.ref 3, .ref 4, .ref 5, .ref 6], vm := .none },
  { cls := 6, slots := #[.null, .int 0, .int 0, .null, .null, .int 1], vm := .none },
  { cls := 6, slots := #[.null, .int 1, .int 0, .null, .null, .int 3], vm := .none },
  { cls := 6, slots := #[.null, .int 2, .int 0, .null, .null, .int 2], vm := .none },
  { cls := 6, slots := #[.null, .int 3, .int 0, .null, .null, .int 0], vm := .none },
  { cls := 8, slots := #[.null], vm := .none }]
def classes : Array Class := #[k0, k1, k2, k3, k4, k5, k6, k7, k8, k9, k10, k11, k12, k13, k14]
def interned : List (Array UInt16 × Addr) := []
def slotsUsed : Nat := 35
def theMethod : MethodId := ⟨1, 1⟩
def args0 : Array Value := #[.int 5, .int 1]
def aboutOver (below : List Frame) : State where
  vm := { classes := classes, interned := interned.toArray }
  heap := heap
  slotsUsed := slotsUsed
  threads := #[{ frames := .invoking theMethod args0 :: below }]
def below0 : List Frame := [.native { method := ⟨0, 0⟩, args := #[] }]
def about1 : State := aboutOver below0
def p0 : Program := .bare "" "" ""
def e0 : Env := launch0.env 0 0 0
theorem w_frames : about1.frames = Frame.invoking theMethod args0 :: below0 := rfl
set_option maxRecDepth 65536 in
theorem w_args : argsFit about1.vm theMethod args0 = true := by decide +kernel
set_option maxRecDepth 65536 in
theorem w_heap : heapFits about1 = true := by decide +kernel
set_option maxRecDepth 65536 in
theorem w_runnable : about1.curStatus? = some .runnable := by decide +kernel
set_option maxRecDepth 65536 in
theorem w_alone : about1.alone = true := by decide +kernel
set_option maxRecDepth 65536 in
theorem w_named : about1.methodNamed? x = some theMethod := by decide +kernel
set_option maxRecDepth 65536 in
theorem w_hears : about1.hears theMethod below0 = true := by decide +kernel
set_option maxRecDepth 65536 in
theorem w_ripe : about1.ripe theMethod args0 below0 = true := by decide +kernel
theorem w_running : about1.status = .running := rfl
set_option maxRecDepth 65536 in
theorem w_room : about1.hasRoom e0.platform room_1 = true :=
  launch0.hasRoom_least _ room_1 (by decide +kernel) (by decide +kernel) (by decide +kernel) (by decide +kernel) (by decide +kernel) (by decide +kernel)
theorem allAtoms_all (ts : List Jvm.Cond) (a : Array Jvm.Value) (st : Jvm.State) : (allAtoms ts).before a st = ts.all (fun c => c.before a st) := by
  induction ts with
  | nil => rfl
  | cons c t ih =>
    show (Jvm.Cond.and c (allAtoms t)).before a st = _
    rw [Jvm.Cond.before_and, ih, List.all_cons]
def words1 : List Jvm.Cond := Jvm.Cond.code x code maxLocals ret :: tables_1
/-- a 'code' word, met by the world's own term for the bytes: nothing is compared byte by byte -/
theorem code_word {y : MethodName} {bytes : ByteArray} {mx : Nat} {rt : Option FieldType} {a : Array Value} {s : State} {m : MethodId} {meth : Method} {c : Code} (h1 : s.methodNamed? y = some m) (h2 : s.vm.method? m = some meth) (h3 : meth.code = some c) (h4 : c.code = bytes)
    (h5 : (c.maxLocals == mx && c.exceptionTable.isEmpty && decide (c.maxStack ≤ mostOperands) && decide (meth.sig.returnType = rt) && !meth.locks && decide (parseMethodDescriptor y.desc = some meth.sig)) = true) : (Jvm.Cond.code y bytes mx rt).before a s = true := by
  simp only [Bool.and_eq_true, beq_iff_eq, Bool.not_eq_true', decide_eq_true_eq] at h5
  obtain ⟨⟨⟨⟨⟨g1, g2⟩, g3⟩, g4⟩, g5⟩, g6⟩ := h5
  simp [Cond.before, Cond.holds, Cond.value, h1, h2, h3, h4, g1, g2, g3, g4, g5, g6]
def isCode : Jvm.Cond → Bool
  | .code _ _ _ _ => true
  | _ => false
theorem all_split {L : List Jvm.Cond} {P : Jvm.Cond → Bool} (h1 : L.all (fun c => isCode c || P c) = true) (h2 : ∀ c ∈ L.filter isCode, P c = true) : L.all P = true := by
  refine List.all_eq_true.mpr fun c hc => ?_
  have h := List.all_eq_true.mp h1 c hc
  rcases Bool.eq_false_or_eq_true (isCode c) with hi | hi
  · exact h2 c (List.mem_filter.mpr ⟨hc, hi⟩)
  · simpa [hi] using h
set_option maxRecDepth 65536 in
theorem w_c0 : (Jvm.Cond.code x code maxLocals ret).before args0 about1 = true := code_word (m := ⟨1, 1⟩) (meth := k1m1) (c := k1c1) (by decide +kernel) rfl rfl rfl (by decide +kernel)
set_option maxRecDepth 65536 in
theorem w_c1 : (Jvm.Cond.code ({ cls := "com/example/tenantd/tenantd/RoleType", name := "ofAccountType", desc := "(I)Ljava/util/Optional;" } : Jvm.MethodName) prog_11_method_7_code (5 : Nat) (Option.some (Jvm.ClassFile.FieldType.object "java/util/Optional"))).before args0 about1 = true := code_word (m := ⟨6, 1⟩) (meth := k6m1) (c := k6c1) (by decide +kernel) rfl rfl rfl (by decide +kernel)
set_option maxRecDepth 65536 in
theorem w_c2 : (Jvm.Cond.code ({ cls := "com/example/tenantd/tenantd/RoleType", name := "values", desc := "()[Lcom/example/tenantd/tenantd/RoleType;" } : Jvm.MethodName) prog_11_method_1_code (0 : Nat) (Option.some (Jvm.ClassFile.FieldType.array (Jvm.ClassFile.FieldType.object "com/example/tenantd/tenantd/RoleType")))).before args0 about1 = true := code_word (m := ⟨6, 0⟩) (meth := k6m0) (c := k6c0) (by decide +kernel) rfl rfl rfl (by decide +kernel)
set_option maxRecDepth 65536 in
theorem w_c3 : (Jvm.Cond.code ({ cls := "java/util/Optional", name := "of", desc := "(Ljava/lang/Object;)Ljava/util/Optional;" } : Jvm.MethodName) jdk_32_method_3_code (1 : Nat) (Option.some (Jvm.ClassFile.FieldType.object "java/util/Optional"))).before args0 about1 = true := code_word (m := ⟨8, 2⟩) (meth := k8m2) (c := k8c2) (by decide +kernel) rfl rfl rfl (by decide +kernel)
set_option maxRecDepth 65536 in
theorem w_c4 : (Jvm.Cond.code ({ cls := "java/util/Objects", name := "requireNonNull", desc := "(Ljava/lang/Object;)Ljava/lang/Object;" } : Jvm.MethodName) jdk_31_method_10_code (1 : Nat) (Option.some (Jvm.ClassFile.FieldType.object "java/lang/Object"))).before args0 about1 = true := code_word (m := ⟨9, 1⟩) (meth := k9m1) (c := k9c1) (by decide +kernel) rfl rfl rfl (by decide +kernel)
set_option maxRecDepth 65536 in
theorem w_c5 : (Jvm.Cond.code ({ cls := "java/util/Optional", name := "<init>", desc := "(Ljava/lang/Object;)V" } : Jvm.MethodName) jdk_32_method_2_code (2 : Nat) (Option.none : Option Jvm.ClassFile.FieldType)).before args0 about1 = true := code_word (m := ⟨8, 1⟩) (meth := k8m1) (c := k8c1) (by decide +kernel) rfl rfl rfl (by decide +kernel)
set_option maxRecDepth 65536 in
theorem w_c6 : (Jvm.Cond.code ({ cls := "java/lang/Object", name := "<init>", desc := "()V" } : Jvm.MethodName) object_method_1_code (1 : Nat) (Option.none : Option Jvm.ClassFile.FieldType)).before args0 about1 = true := code_word (m := ⟨0, 0⟩) (meth := k0m0) (c := k0c0) (by decide +kernel) rfl rfl rfl (by decide +kernel)
set_option maxRecDepth 65536 in
theorem w_c7 : (Jvm.Cond.code ({ cls := "com/example/tenantd/tenantd/RoleTypeOfAccountTypePinLaw", name := "expected", desc := "(I)Lcom/example/tenantd/tenantd/RoleType;" } : Jvm.MethodName) method_3_code (1 : Nat) (Option.some (Jvm.ClassFile.FieldType.object "com/example/tenantd/tenantd/RoleType"))).before args0 about1 = true := code_word (m := ⟨1, 2⟩) (meth := k1m2) (c := k1c2) (by decide +kernel) rfl rfl rfl (by decide +kernel)
set_option maxRecDepth 65536 in
theorem w_c8 : (Jvm.Cond.code ({ cls := "java/util/Optional", name := "isPresent", desc := "()Z" } : Jvm.MethodName) jdk_32_method_6_code (1 : Nat) (Option.some Jvm.ClassFile.FieldType.boolean)).before args0 about1 = true := code_word (m := ⟨8, 4⟩) (meth := k8m4) (c := k8c4) (by decide +kernel) rfl rfl rfl (by decide +kernel)
set_option maxRecDepth 65536 in
theorem w_c9 : (Jvm.Cond.code ({ cls := "java/util/Optional", name := "get", desc := "()Ljava/lang/Object;" } : Jvm.MethodName) jdk_32_method_5_code (1 : Nat) (Option.some (Jvm.ClassFile.FieldType.object "java/lang/Object"))).before args0 about1 = true := code_word (m := ⟨8, 3⟩) (meth := k8m3) (c := k8c3) (by decide +kernel) rfl rfl rfl (by decide +kernel)
set_option maxRecDepth 65536 in
theorem w_c10 : (Jvm.Cond.code ({ cls := "java/util/Optional", name := "empty", desc := "()Ljava/util/Optional;" } : Jvm.MethodName) jdk_32_method_1_code (1 : Nat) (Option.some (Jvm.ClassFile.FieldType.object "java/util/Optional"))).before args0 about1 = true := code_word (m := ⟨8, 0⟩) (meth := k8m0) (c := k8c0) (by decide +kernel) rfl rfl rfl (by decide +kernel)
def codes1 : List Jvm.Cond := [Jvm.Cond.code x code maxLocals ret, Jvm.Cond.code ({ cls := "com/example/tenantd/tenantd/RoleType", name := "ofAccountType", desc := "(I)Ljava/util/Optional;" } : Jvm.MethodName) prog_11_method_7_code (5 : Nat) (Option.some (Jvm.ClassFile.FieldType.object "java/util/Optional")), Jvm.Cond.code ({ cls := "com/example/tenantd/tenantd/RoleType", name := "values", desc := "()[Lcom/example/tenantd/tenantd/RoleType;" } : Jvm.MethodName) prog_11_method_1_code (0 : Nat) (Option.some (Jvm.ClassFile.FieldType.array (Jvm.ClassFile.FieldType.object "com/example/tenantd/tenantd/RoleType"))), Jvm.Cond.code ({ cls := "java/util/Optional", name := "of", desc := "(Ljava/lang/Object;)Ljava/util/Optional;" } : Jvm.MethodName) jdk_32_method_3_code (1 : Nat) (Option.some (Jvm.ClassFile.FieldType.object "java/util/Optional")), Jvm.Cond.code ({ cls := "java/util/Objects", name := "requireNonNull", desc := "(Ljava/lang/Object;)Ljava/lang/Object;" } : Jvm.MethodName) jdk_31_method_10_code (1 : Nat) (Option.some (Jvm.ClassFile.FieldType.object "java/lang/Object")), Jvm.Cond.code ({ cls := "java/util/Optional", name := "<init>", desc := "(Ljava/lang/Object;)V" } : Jvm.MethodName) jdk_32_method_2_code (2 : Nat) (Option.none : Option Jvm.ClassFile.FieldType), Jvm.Cond.code ({ cls := "java/lang/Object", name := "<init>", desc := "()V" } : Jvm.MethodName) object_method_1_code (1 : Nat) (Option.none : Option Jvm.ClassFile.FieldType), Jvm.Cond.code ({ cls := "com/example/tenantd/tenantd/RoleTypeOfAccountTypePinLaw", name := "expected", desc := "(I)Lcom/example/tenantd/tenantd/RoleType;" } : Jvm.MethodName) method_3_code (1 : Nat) (Option.some (Jvm.ClassFile.FieldType.object "com/example/tenantd/tenantd/RoleType")), Jvm.Cond.code ({ cls := "java/util/Optional", name := "isPresent", desc := "()Z" } : Jvm.MethodName) jdk_32_method_6_code (1 : Nat) (Option.some Jvm.ClassFile.FieldType.boolean), Jvm.Cond.code ({ cls := "java/util/Optional", name := "get", desc := "()Ljava/lang/Object;" } : Jvm.MethodName) jdk_32_method_5_code (1 : Nat) (Option.some (Jvm.ClassFile.FieldType.object "java/lang/Object")), Jvm.Cond.code ({ cls := "java/util/Optional", name := "empty", desc := "()Ljava/util/Optional;" } : Jvm.MethodName) jdk_32_method_1_code (1 : Nat) (Option.some (Jvm.ClassFile.FieldType.object "java/util/Optional"))]
set_option maxRecDepth 65536 in
theorem codes_eq : words1.filter isCode = codes1 := rfl
theorem w_codes : ∀ c ∈ words1.filter isCode, c.before args0 about1 = true := by
  rw [codes_eq]
  intro c hc
  simp only [codes1, List.mem_cons, List.not_mem_nil, or_false] at hc
  rcases hc with rfl | rfl | rfl | rfl | rfl | rfl | rfl | rfl | rfl | rfl | rfl
  · exact w_c0
  · exact w_c1
  · exact w_c2
  · exact w_c3
  · exact w_c4
  · exact w_c5
  · exact w_c6
  · exact w_c7
  · exact w_c8
  · exact w_c9
  · exact w_c10
set_option maxRecDepth 65536 in
theorem w_t1 : (words1.take 24).all (fun c => isCode c || c.before args0 about1) = true := by decide +kernel
set_option maxRecDepth 65536 in
theorem w_t2 : ((words1.drop 24).take 24).all (fun c => isCode c || c.before args0 about1) = true := by decide +kernel
set_option maxRecDepth 65536 in
theorem w_t3 : ((words1.drop 24).drop 24).all (fun c => isCode c || c.before args0 about1) = true := by decide +kernel
theorem w_tables : (allAtoms (Jvm.Cond.code x code maxLocals ret :: tables_1)).before args0 about1 = true := by
  rw [allAtoms_all]
  show words1.all (fun c => c.before args0 about1) = true
  refine all_split ?_ w_codes
  rw [← List.take_append_drop 24 words1, List.all_append, w_t1, ← List.take_append_drop 24 (words1.drop 24), List.all_append, w_t2, w_t3]
  rfl
set_option maxRecDepth 65536 in
theorem w_rest : rest_1_c.before args0 about1 = true := by decide +kernel
set_option maxRecDepth 65536 in
theorem w_case : (Jvm.Cond.and given_1 narrow_1).before args0 about1 = true := by decide +kernel
theorem w_applies : (headSpec (Jvm.Cond.code x code maxLocals ret :: tables_1) room_1).applies x e0.platform about1 = true :=
  (Spec.applies_iff w_frames).mpr ⟨w_running, w_runnable, w_alone, w_named, w_hears, w_ripe, w_room, w_tables⟩
theorem atStart : AtStart classFile x code maxLocals ret World_1 tables_1 room_1 Calls_1 rest_1 Pre_1 launch0 p0 e0 about1 theMethod args0 below0 :=
  ⟨lists_1, trivial, launch0.admits_env _ _ _, launch0.least_env, fairChoices_fair.cas, fairChoices_fair.clock, w_frames, w_args, w_heap, w_applies, trivial, w_rest, w_case⟩
end start1
theorem witness_1 : WitnessClaimed_1 := ⟨start1.p0, start1.e0, start1.about1, start1.theMethod, start1.args0, start1.below0, start1.atStart⟩
end Jvm.Pilot.@@N@@
