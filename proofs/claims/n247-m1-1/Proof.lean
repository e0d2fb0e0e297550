import JvmDerived
import JvmDerived.Pilot.@@N@@Statement
import JvmDerived.Pilot.@@N@@Code
set_option linter.unusedVariables false
set_option linter.unusedSimpArgs false
@@BLOCK:NumsL.lean.txt@@
namespace Jvm.Pilot.@@N@@
open Jvm Jvm.ClassFile Sem Op Lib Jvm.Free Jvm.Stand Jvm.LawKit Jvm.RoadKit Bundle Jvm.Pilot.@@N@@.Jvm.D
section Own
variable {p : Program} {l : Launch} {e : Env} {R : Room} {s : State} {m : MethodId} {args : Array Value} {below : List Frame} {meth : Method} {c : Code} {T : State} {locs : List Loc} {cells slots : Nat} {Z : State} {a0 : Array Value} {h : Heap}
/-- from U the run comes to the method's end, and P holds there -/
def OGo (p : Program) (e : Env) (below : List Frame) (U : State) (P : State → Outcome → Prop) : Prop :=
  ∃ t o, Steps p.tables e below U t ∧ t.status = .running ∧ Ended t below o ∧ P t o
theorem OGo.step {U U' : State} {P : State → Outcome → Prop} (k : ∀ t, Steps p.tables e below U' t → Steps p.tables e below U t) (g : OGo p e below U' P) : OGo p e below U P := by
  obtain ⟨t, o, h1, h2⟩ := g
  exact ⟨t, o, k t h1, h2⟩
def OEnd (s : State) (Q : Option Value → Heap → List Loc → Prop) (kc ks : Nat) (t : State) (o : Outcome) : Prop :=
  ∃ v L, o = .returned v ∧ Q v t.heap L ∧ FrameEnd s o t L kc ks
/-- the contract of one body, at one array of arguments and one heap -/
abbrev OMet (l : Launch) (Z : State) (y : MethodName) (bytes : ByteArray) (maxL : Nat) (ret : Option FieldType) (ws : List Jvm.Cond) (rm : Room) (as' : Array Value) (h0 : Heap) (Q : Option Value → Heap → List Loc → Prop) : Prop :=
  MetFree l y (head1 (Jvm.Cond.code y bytes maxL ret :: ws) rm) (fun a U => a = as' ∧ Z.Warmed39 U.vm ∧ U.heap = h0) (fun _ _ _ _ _ => True) (fun _ U o U' => ∃ v L, o = .returned v ∧ Q v U'.heap L ∧ FrameEnd U o U' L rm.cells rm.slots)
theorem OMet.body {y : MethodName} {bytes : ByteArray} {maxL : Nat} {ret : Option FieldType} {ws : List Jvm.Cond} {rm : Room} {as' : Array Value} {h0 : Heap} {Q : Option Value → Heap → List Loc → Prop} (hpn : plainFor y = true)
    (b : ∀ (p : Program) (e : Env) (s : State) (m : MethodId) (below : List Frame) (meth : Method) (c : Code) (s₁ : State), p.tables.exec = Jvm.exec → c.code = bytes → c.maxLocals = maxL → s.vm.findClass y.cls = some m.cls → meth.name = y.name → meth.sig.returnType = ret → meth.locks = false → Z.Warmed39 s.vm →
      Stand p l e rm s m as' below meth c s₁ [] 0 0 → s₁.heap = h0 → OGo p e below (s₁.setTop (entryFrame m as' maxL)) (OEnd s Q rm.cells rm.slots)) : OMet l Z y bytes maxL ret ws rm as' h0 Q := by
  refine MetFree.of_bodySF hpn hisR ?_
  intro p e s m args below meth c s₁ Bd hml0 hP hK
  obtain ⟨rfl, hZ, hh⟩ := hP
  exact b p e s m below meth c s₁ Bd.exec Bd.bytes hml0 (findClass_of_methodNamed Bd.named) (name_of_methodNamed Bd.named Bd.method).1 Bd.returns Bd.notSynchronized hZ (Stand.of_body Bd) (by rw [← hh, Bd.state]; rfl)
theorem own_ret (X : Stand p l e R s m args below meth c T locs cells slots) (hx : p.tables.exec = Jvm.exec) (hlk : meth.locks = false) {pc : Nat} {Ls : Array Slot} {w : Value} {t : FieldType} {i : Instr} {rest : List Value} (hret : meth.sig.returnType = some t) (hn : narrow t w = w)
    (hi : (i = .ireturn ∧ (t = .int ∨ t = .boolean ∨ t = .byte ∨ t = .char ∨ t = .short) ∧ ∃ z, w = .int z) ∨ (i = .lreturn ∧ t = .long ∧ ∃ z, w = .long z) ∨ (i = .dreturn ∧ t = .double ∧ ∃ z, w = .double z) ∨ (i = .freturn ∧ t = .float ∧ ∃ z, w = .float z) ∨ (i = .areturn ∧ t.isReference = true ∧ w.isRef = true))
    (hd : decode c.code pc = .ok (i, 1)) {Q : Option Value → Heap → List Loc → Prop} {kc ks : Nat} (hQ : Q (some w) T.heap locs) (h1 : cells ≤ kc) (h2 : slots ≤ ks) : OGo p e below (T.setTop (mkF m pc Ls (w :: rest))) (OEnd s Q kc ks) := by
  obtain ⟨fs, hr, hrun, hended, hW, hsame⟩ := X.leave (v := some w) (fun h => by rw [hret] at h; cases h) hlk
  exact ⟨_, _, retOut X hx hret hn hi hd hr, hrun, hended, _, _, rfl, hQ, ⟨_, rfl⟩, hW, hsame.mono h1 h2⟩
theorem own_retN (X : Stand p l e R s m args below meth c T locs cells slots) (hx : p.tables.exec = Jvm.exec) (hlk : meth.locks = false) {pc : Nat} {Ls : Array Slot} {z : Int32} {t : FieldType} {rest : List Value} (hret : meth.sig.returnType = some t) (ht : t = .boolean ∨ t = .byte ∨ t = .char ∨ t = .short)
    (hd : decode c.code pc = .ok (.ireturn, 1)) {Q : Option Value → Heap → List Loc → Prop} {kc ks : Nat} (hQ : Q (some (.int (nar t z))) T.heap locs) (h1 : cells ≤ kc) (h2 : slots ≤ ks) : OGo p e below (T.setTop (mkF m pc Ls (.int z :: rest))) (OEnd s Q kc ks) := by
  obtain ⟨fs, hr, hrun, hended, hW, hsame⟩ := X.leave (v := some (.int (nar t z))) (fun h => by rw [hret] at h; cases h) hlk
  exact ⟨_, _, retN X hx hret ht hd hr, hrun, hended, _, _, rfl, hQ, ⟨_, rfl⟩, hW, hsame.mono h1 h2⟩
theorem own_ret0 (X : Stand p l e R s m args below meth c T locs cells slots) (hx : p.tables.exec = Jvm.exec) (hlk : meth.locks = false) {pc : Nat} {Ls : Array Slot} (hret : meth.sig.returnType = none)
    (hd : decode c.code pc = .ok (.return_, 1)) {Q : Option Value → Heap → List Loc → Prop} {kc ks : Nat} (hQ : Q none T.heap locs) (h1 : cells ≤ kc) (h2 : slots ≤ ks) : OGo p e below (T.setTop (mkF m pc Ls [])) (OEnd s Q kc ks) := by
  obtain ⟨fs, hr, hrun, hended, hW, hsame⟩ := X.leave (v := none) (fun _ => rfl) hlk
  exact ⟨_, _, X.returnOut hx hret hd hr, hrun, hended, _, _, rfl, hQ, ⟨_, rfl⟩, hW, hsame.mono h1 h2⟩
/-- who pays a call: at these arguments and this heap -/
abbrev OBack (l : Launch) (R : Room) (p : Program) (e : Env) (below : List Frame) (s : State) (args : Array Value) (y : MethodName) (len W : Nat) (as' : Array Value) (h : Heap) (kc ks : Nat) (Q : Option Value → Heap → List Loc → Prop) : Prop :=
  Back l R p e below s args y len W (fun P a => a = as' ∧ P.U.heap = h ∧ P.cells + kc ≤ R.cells ∧ P.slots + ks ≤ R.slots) (fun P _ v B => ∃ L, Q v B.U.heap L ∧ B.locs = P.locs ++ L ∧ B.cells = P.cells + kc ∧ B.slots = P.slots + ks)
/-- a static call by the callee's contract -/
theorem own_callSK (X : Stand p l e R s m args below meth c T locs cells slots) (hx : p.tables.exec = Jvm.exec) (hZ : Z.Warmed39 s.vm) {own : String} {index : Nat} {y : MethodName} {bytes : ByteArray} {maxL : Nat} {ret : Option FieldType}
    (hown : s.vm.findClass own = some m.cls) (w1 : (Jvm.Cond.methodLink own index y).before a0 Z = true) (w2 : (Jvm.Cond.static y).before a0 Z = true) (w3 : (Jvm.Cond.initialized y.cls).before a0 Z = true)
    (w4 : (Jvm.Cond.code y bytes maxL ret).before a0 Z = true) (hy : y.cls ≠ "java/lang/invoke/MethodHandle" ∧ y.cls ≠ "java/lang/invoke/VarHandle")
    {W : Nat} {kc ks : Nat} {argsL rest : List Value} {Q : Option Value → Heap → List Loc → Prop} (hK : OBack l R p e below s args y 3 W argsL.toArray h kc ks Q) (eT : T.heap = h)
    {pc : Nat} {Ls : Array Slot} (hsize : Ls.size = c.maxLocals) (hlen : ∀ sig, parseMethodDescriptor y.desc = some sig → argsL.length = sig.parameters.length) (hW : (rest.map fun v => v.category).sum = W)
    (hd : decode c.code pc = .ok (.invokestatic index, 3)) (hc : cells + kc ≤ R.cells) (hs : slots + ks ≤ R.slots) {P : State → Outcome → Prop}
    (k : ∀ (v : Option Value) (T' : State) (L : List Loc), Stand p l e R s m args below meth c T' (locs ++ L) (cells + kc) (slots + ks) → Q v T'.heap L → OGo p e below (T'.setTop (mkF m (pc + 3) Ls (v.toList ++ rest))) P) :
    OGo p e below (T.setTop (mkF m pc Ls (argsL.reverse ++ rest))) P := by
  obtain ⟨v, vm, ⟨T', L', k', n'⟩, -, X', ⟨L, hQ, l1, y1, z1⟩, st⟩ := Jvm.LawKit.callS X hx (y := y) hown (mvT hZ w1) (mvT hZ w2) (mvT hZ w3) (mvT hZ w4) hy hK (g := mkF m pc Ls (argsL.reverse ++ rest)) rfl hsize (argsL := argsL) (rest := rest) hlen rfl
    (by show 2 * 0 + _ ≤ _; rw [hW]; omega) hd (fun _ _ => ⟨rfl, eT, hc, hs⟩)
  dsimp only [Pt.U, Pt.locs, Pt.cells, Pt.slots] at X' l1 y1 z1 st hQ
  subst l1 y1 z1
  exact OGo.step st (k v T' L X' hQ)
theorem own_callS (X : Stand p l e R s m args below meth c T locs cells slots) (hx : p.tables.exec = Jvm.exec) (hZ : Z.Warmed39 s.vm) {own : String} {index : Nat} {y : MethodName} {bytes : ByteArray} {maxL : Nat} {ret : Option FieldType}
    (hown : s.vm.findClass own = some m.cls) (w1 : (Jvm.Cond.methodLink own index y).before a0 Z = true) (w2 : (Jvm.Cond.static y).before a0 Z = true) (w3 : (Jvm.Cond.initialized y.cls).before a0 Z = true)
    (w4 : (Jvm.Cond.code y bytes maxL ret).before a0 Z = true) (hy : y.cls ≠ "java/lang/invoke/MethodHandle" ∧ y.cls ≠ "java/lang/invoke/VarHandle")
    {W : Nat} {rm : Room} {argsL rest : List Value} {Q : Option Value → Heap → List Loc → Prop} (hM : OMet l Z y bytes maxL ret [] rm argsL.toArray h Q) (eT : T.heap = h)
    {pc : Nat} {Ls : Array Slot} (hsize : Ls.size = c.maxLocals) (hlen : ∀ sig, parseMethodDescriptor y.desc = some sig → argsL.length = sig.parameters.length) (hW : (rest.map fun v => v.category).sum = W)
    (hd : decode c.code pc = .ok (.invokestatic index, 3)) (hf : rm.frames + 1 ≤ R.frames) (hl : W + (maxL + 11) + rm.locals ≤ R.locals) (hc : cells + rm.cells ≤ R.cells) (hs : slots + rm.slots ≤ R.slots) {P : State → Outcome → Prop}
    (k : ∀ (v : Option Value) (T' : State) (L : List Loc), Stand p l e R s m args below meth c T' (locs ++ L) (cells + rm.cells) (slots + rm.slots) → Q v T'.heap L → OGo p e below (T'.setTop (mkF m (pc + 3) Ls (v.toList ++ rest))) P) :
    OGo p e below (T.setTop (mkF m pc Ls (argsL.reverse ++ rest))) P := 
  own_callSK X hx hZ hown w1 w2 w3 w4 hy (backOf (W := W) hM hZ w4 w3 hf hl) eT hsize hlen hW hd hc hs k
/-- a constructor by its contract -/
theorem own_specialK (X : Stand p l e R s m args below meth c T locs cells slots) (hx : p.tables.exec = Jvm.exec) (hZ : Z.Warmed39 s.vm) {own : String} {index : Nat} {y : MethodName} {bytes : ByteArray} {maxL : Nat} (hy1 : y.name = "<init>")
    (hown : s.vm.findClass own = some m.cls) (w1 : (Jvm.Cond.methodLink own index y).before a0 Z = true) (w2 : (Jvm.Cond.instanceMethod y).before a0 Z = true)
    (w4 : (Jvm.Cond.code y bytes maxL none).before a0 Z = true) (hy : y.cls ≠ "java/lang/invoke/MethodHandle" ∧ y.cls ≠ "java/lang/invoke/VarHandle") {a : Addr}
    {W : Nat} {kc ks : Nat} {argsL rest : List Value} {Q : Option Value → Heap → List Loc → Prop} (hK : OBack l R p e below s args y 3 W (.ref a :: argsL).toArray h kc ks Q) (eT : T.heap = h)
    {pc : Nat} {Ls : Array Slot} (hsize : Ls.size = c.maxLocals) (hlen : ∀ sig, parseMethodDescriptor y.desc = some sig → argsL.length = sig.parameters.length) (hW : (rest.map fun v => v.category).sum = W)
    (hd : decode c.code pc = .ok (.invokespecial index, 3)) (hc : cells + kc ≤ R.cells) (hs : slots + ks ≤ R.slots) {P : State → Outcome → Prop}
    (k : ∀ (v : Option Value) (T' : State) (L : List Loc), Stand p l e R s m args below meth c T' (locs ++ L) (cells + kc) (slots + ks) → Q v T'.heap L → OGo p e below (T'.setTop (mkF m (pc + 3) Ls (v.toList ++ rest))) P) :
    OGo p e below (T.setTop (mkF m pc Ls (argsL.reverse ++ .ref a :: rest))) P := by
  obtain ⟨v, vm, ⟨T', L', k', n'⟩, -, X', ⟨L, hQ, l1, y1, z1⟩, st⟩ := X.specialBack hx (y := y) hy1 hown (mvT hZ w1) (mvT hZ w2) (mvT hZ w4) hy hK (g := mkF m pc Ls (argsL.reverse ++ .ref a :: rest)) rfl hsize (Steps.refl _) (a := a) (argsL := argsL) (rest := rest) hlen rfl
    (by show 2 * 0 + _ ≤ _; rw [hW]; omega) hd (fun _ _ => ⟨rfl, eT, hc, hs⟩)
  dsimp only [Pt.U, Pt.locs, Pt.cells, Pt.slots] at X' l1 y1 z1 st hQ
  subst l1 y1 z1
  exact OGo.step (fun _ kk => st.trans kk) (k v T' L X' hQ)
theorem own_special (X : Stand p l e R s m args below meth c T locs cells slots) (hx : p.tables.exec = Jvm.exec) (hZ : Z.Warmed39 s.vm) {own : String} {index : Nat} {y : MethodName} {bytes : ByteArray} {maxL : Nat} (hy1 : y.name = "<init>")
    (hown : s.vm.findClass own = some m.cls) (w1 : (Jvm.Cond.methodLink own index y).before a0 Z = true) (w2 : (Jvm.Cond.instanceMethod y).before a0 Z = true)
    (w4 : (Jvm.Cond.code y bytes maxL none).before a0 Z = true) (w3 : (Jvm.Cond.initialized y.cls).before a0 Z = true) (hy : y.cls ≠ "java/lang/invoke/MethodHandle" ∧ y.cls ≠ "java/lang/invoke/VarHandle") {a : Addr}
    {W : Nat} {rm : Room} {argsL rest : List Value} {Q : Option Value → Heap → List Loc → Prop} (hM : OMet l Z y bytes maxL none [] rm (.ref a :: argsL).toArray h Q) (eT : T.heap = h)
    {pc : Nat} {Ls : Array Slot} (hsize : Ls.size = c.maxLocals) (hlen : ∀ sig, parseMethodDescriptor y.desc = some sig → argsL.length = sig.parameters.length) (hW : (rest.map fun v => v.category).sum = W)
    (hd : decode c.code pc = .ok (.invokespecial index, 3)) (hf : rm.frames + 1 ≤ R.frames) (hl : W + (maxL + 11) + rm.locals ≤ R.locals) (hc : cells + rm.cells ≤ R.cells) (hs : slots + rm.slots ≤ R.slots) {P : State → Outcome → Prop}
    (k : ∀ (v : Option Value) (T' : State) (L : List Loc), Stand p l e R s m args below meth c T' (locs ++ L) (cells + rm.cells) (slots + rm.slots) → Q v T'.heap L → OGo p e below (T'.setTop (mkF m (pc + 3) Ls (v.toList ++ rest))) P) :
    OGo p e below (T.setTop (mkF m pc Ls (argsL.reverse ++ .ref a :: rest))) P := 
  own_specialK X hx hZ hy1 hown w1 w2 w4 hy (backOf (W := W) hM hZ w4 w3 hf hl) eT hsize hlen hW hd hc hs k
/-- an instance method by its contract -/
theorem own_virtualK (X : Stand p l e R s m args below meth c T locs cells slots) (hx : p.tables.exec = Jvm.exec) (hZ : Z.Warmed39 s.vm) {own C : String} {index : Nat} {y z : MethodName}
    (hown : s.vm.findClass own = some m.cls) (w1 : (Jvm.Cond.methodLink own index y).before a0 Z = true) (w2 : (Jvm.Cond.declares y).before a0 Z = true) (hnf : NotFace s y) (w5 : (Jvm.Cond.selects C y z).before a0 Z = true) (w6 : (Jvm.Cond.instanceMethod z).before a0 Z = true)
    (hy : y.cls ≠ "java/lang/invoke/MethodHandle" ∧ y.cls ≠ "java/lang/invoke/VarHandle") {b : Addr} (hb : Exa Z h b C)
    {W : Nat} {kc ks : Nat} {argsL rest : List Value} {Q : Option Value → Heap → List Loc → Prop} (hK : OBack l R p e below s args z 3 W (.ref b :: argsL).toArray h kc ks Q) (eT : T.heap = h)
    {pc : Nat} {Ls : Array Slot} (hsize : Ls.size = c.maxLocals) (hlen : ∀ sig, parseMethodDescriptor y.desc = some sig → argsL.length = sig.parameters.length) (hW : (rest.map fun v => v.category).sum = W)
    (hd : decode c.code pc = .ok (.invokevirtual index, 3)) (hc : cells + kc ≤ R.cells) (hs : slots + ks ≤ R.slots) {P : State → Outcome → Prop}
    (k : ∀ (v : Option Value) (T' : State) (L : List Loc), Stand p l e R s m args below meth c T' (locs ++ L) (cells + kc) (slots + ks) → Q v T'.heap L → OGo p e below (T'.setTop (mkF m (pc + 3) Ls (v.toList ++ rest))) P) :
    OGo p e below (T.setTop (mkF m pc Ls (argsL.reverse ++ .ref b :: rest))) P := by
  obtain ⟨cq, kq, qa, qb, qc⟩ := isOf hZ eT hb
  obtain ⟨v, vm, ⟨T', L', k', n'⟩, -, X', ⟨L, hQ, l1, y1, z1⟩, st⟩ := X.virtualBack hx (y := y) (z := z) hown (mvT hZ w1) (mvT hZ w2) hnf (mvT hZ w5) (mvT hZ w6) hy hK qa qc (g := mkF m pc Ls (argsL.reverse ++ .ref b :: rest)) rfl hsize (Steps.refl _) (argsL := argsL) (rest := rest) hlen rfl
    (by show 2 * 0 + _ ≤ _; rw [hW]; omega) hd (fun _ _ => ⟨rfl, eT, hc, hs⟩)
  dsimp only [Pt.U, Pt.locs, Pt.cells, Pt.slots] at X' l1 y1 z1 st hQ
  subst l1 y1 z1
  exact OGo.step (fun _ kk => st.trans kk) (k v T' L X' hQ)
theorem own_virtual (X : Stand p l e R s m args below meth c T locs cells slots) (hx : p.tables.exec = Jvm.exec) (hZ : Z.Warmed39 s.vm) {own C : String} {index : Nat} {y z : MethodName} {bytes : ByteArray} {maxL : Nat} {ret : Option FieldType}
    (hown : s.vm.findClass own = some m.cls) (w1 : (Jvm.Cond.methodLink own index y).before a0 Z = true) (w2 : (Jvm.Cond.declares y).before a0 Z = true) (hnf : NotFace s y) (w5 : (Jvm.Cond.selects C y z).before a0 Z = true) (w6 : (Jvm.Cond.instanceMethod z).before a0 Z = true)
    (hy : y.cls ≠ "java/lang/invoke/MethodHandle" ∧ y.cls ≠ "java/lang/invoke/VarHandle") (w4 : (Jvm.Cond.code z bytes maxL ret).before a0 Z = true) (w3 : (Jvm.Cond.initialized z.cls).before a0 Z = true) {b : Addr} (hb : Exa Z h b C)
    {W : Nat} {rm : Room} {argsL rest : List Value} {Q : Option Value → Heap → List Loc → Prop} (hM : OMet l Z z bytes maxL ret [] rm (.ref b :: argsL).toArray h Q) (eT : T.heap = h)
    {pc : Nat} {Ls : Array Slot} (hsize : Ls.size = c.maxLocals) (hlen : ∀ sig, parseMethodDescriptor y.desc = some sig → argsL.length = sig.parameters.length) (hW : (rest.map fun v => v.category).sum = W)
    (hd : decode c.code pc = .ok (.invokevirtual index, 3)) (hf : rm.frames + 1 ≤ R.frames) (hl : W + (maxL + 11) + rm.locals ≤ R.locals) (hc : cells + rm.cells ≤ R.cells) (hs : slots + rm.slots ≤ R.slots) {P : State → Outcome → Prop}
    (k : ∀ (v : Option Value) (T' : State) (L : List Loc), Stand p l e R s m args below meth c T' (locs ++ L) (cells + rm.cells) (slots + rm.slots) → Q v T'.heap L → OGo p e below (T'.setTop (mkF m (pc + 3) Ls (v.toList ++ rest))) P) :
    OGo p e below (T.setTop (mkF m pc Ls (argsL.reverse ++ .ref b :: rest))) P := 
  own_virtualK X hx hZ hown w1 w2 hnf w5 w6 hy hb (backOf (W := W) hM hZ w4 w3 hf hl) eT hsize hlen hW hd hc hs k
/-- an instance method that an ancestor declares, by its contract -/
theorem own_virtualUpK (X : Stand p l e R s m args below meth c T locs cells slots) (hx : p.tables.exec = Jvm.exec) (hZ : Z.Warmed39 s.vm) {own C owner : String} {index : Nat} {y z : MethodName}
    (hown : s.vm.findClass own = some m.cls) (w1 : (Jvm.Cond.methodLink own index y).before a0 Z = true) (w7 : (Jvm.Cond.sameMethod y.cls owner y.name y.desc).before a0 Z = true) (w2 : (Jvm.Cond.declares ⟨owner, y.name, y.desc⟩).before a0 Z = true) (w5 : (Jvm.Cond.selects C y z).before a0 Z = true) (w6 : (Jvm.Cond.instanceMethod z).before a0 Z = true)
    (hy : owner ≠ "java/lang/invoke/MethodHandle" ∧ owner ≠ "java/lang/invoke/VarHandle") {b : Addr} (hb : Exa Z h b C)
    {W : Nat} {kc ks : Nat} {argsL rest : List Value} {Q : Option Value → Heap → List Loc → Prop} (hK : OBack l R p e below s args z 3 W (.ref b :: argsL).toArray h kc ks Q) (eT : T.heap = h)
    {pc : Nat} {Ls : Array Slot} (hsize : Ls.size = c.maxLocals) (hlen : ∀ sig, parseMethodDescriptor y.desc = some sig → argsL.length = sig.parameters.length) (hW : (rest.map fun v => v.category).sum = W)
    (hd : decode c.code pc = .ok (.invokevirtual index, 3)) (hc : cells + kc ≤ R.cells) (hs : slots + ks ≤ R.slots) {P : State → Outcome → Prop}
    (k : ∀ (v : Option Value) (T' : State) (L : List Loc), Stand p l e R s m args below meth c T' (locs ++ L) (cells + kc) (slots + ks) → Q v T'.heap L → OGo p e below (T'.setTop (mkF m (pc + 3) Ls (v.toList ++ rest))) P) :
    OGo p e below (T.setTop (mkF m pc Ls (argsL.reverse ++ .ref b :: rest))) P := by
  obtain ⟨cq, kq, qa, qb, qc⟩ := isOf hZ eT hb
  obtain ⟨v, vm, ⟨T', L', k', n'⟩, -, X', ⟨L, hQ, l1, y1, z1⟩, st⟩ := X.virtualBackUp hx (x := y) (y := z) hown (mvT hZ w1) (mvT hZ w7) (mvT hZ w2) hy (mvT hZ w5) (mvT hZ w6) hK qa qc (g := mkF m pc Ls (argsL.reverse ++ .ref b :: rest)) rfl hsize (Steps.refl _) (argsL := argsL) (rest := rest) hlen rfl
    (by show 2 * 0 + _ ≤ _; rw [hW]; omega) hd (fun _ _ => ⟨rfl, eT, hc, hs⟩)
  dsimp only [Pt.U, Pt.locs, Pt.cells, Pt.slots] at X' l1 y1 z1 st hQ
  subst l1 y1 z1
  exact OGo.step (fun _ kk => st.trans kk) (k v T' L X' hQ)
theorem own_virtualUp (X : Stand p l e R s m args below meth c T locs cells slots) (hx : p.tables.exec = Jvm.exec) (hZ : Z.Warmed39 s.vm) {own C owner : String} {index : Nat} {y z : MethodName} {bytes : ByteArray} {maxL : Nat} {ret : Option FieldType}
    (hown : s.vm.findClass own = some m.cls) (w1 : (Jvm.Cond.methodLink own index y).before a0 Z = true) (w7 : (Jvm.Cond.sameMethod y.cls owner y.name y.desc).before a0 Z = true) (w2 : (Jvm.Cond.declares ⟨owner, y.name, y.desc⟩).before a0 Z = true) (w5 : (Jvm.Cond.selects C y z).before a0 Z = true) (w6 : (Jvm.Cond.instanceMethod z).before a0 Z = true)
    (hy : owner ≠ "java/lang/invoke/MethodHandle" ∧ owner ≠ "java/lang/invoke/VarHandle") (w4 : (Jvm.Cond.code z bytes maxL ret).before a0 Z = true) (w3 : (Jvm.Cond.initialized z.cls).before a0 Z = true) {b : Addr} (hb : Exa Z h b C)
    {W : Nat} {rm : Room} {argsL rest : List Value} {Q : Option Value → Heap → List Loc → Prop} (hM : OMet l Z z bytes maxL ret [] rm (.ref b :: argsL).toArray h Q) (eT : T.heap = h)
    {pc : Nat} {Ls : Array Slot} (hsize : Ls.size = c.maxLocals) (hlen : ∀ sig, parseMethodDescriptor y.desc = some sig → argsL.length = sig.parameters.length) (hW : (rest.map fun v => v.category).sum = W)
    (hd : decode c.code pc = .ok (.invokevirtual index, 3)) (hf : rm.frames + 1 ≤ R.frames) (hl : W + (maxL + 11) + rm.locals ≤ R.locals) (hc : cells + rm.cells ≤ R.cells) (hs : slots + rm.slots ≤ R.slots) {P : State → Outcome → Prop}
    (k : ∀ (v : Option Value) (T' : State) (L : List Loc), Stand p l e R s m args below meth c T' (locs ++ L) (cells + rm.cells) (slots + rm.slots) → Q v T'.heap L → OGo p e below (T'.setTop (mkF m (pc + 3) Ls (v.toList ++ rest))) P) :
    OGo p e below (T.setTop (mkF m pc Ls (argsL.reverse ++ .ref b :: rest))) P := 
  own_virtualUpK X hx hZ hown w1 w7 w2 w5 w6 hy hb (backOf (W := W) hM hZ w4 w3 hf hl) eT hsize hlen hW hd hc hs k
theorem own_cat {v : Value} (q : v.isRef = true) : v.category = 1 := by cases v <;> first | rfl | (simp [Value.isRef] at q)
theorem own_narR {v : Value} {t : FieldType} (q : v.isRef = true) (ht : t.isReference = true := by rfl) : narrow t v = v := by cases v <;> first | (simp [Value.isRef] at q; done) | (cases t <;> first | rfl | (cases ht))
theorem own_fitR {v : Value} {t : FieldType} (q : v.isRef = true) (ht : t.isReference = true := by rfl) : fits t v = true := by cases v <;> first | (simp [Value.isRef] at q; done) | (cases t <;> first | rfl | (cases ht))
theorem own_store1 {l l' : Array Slot} {i : Nat} {v : Value} {o : Slot} (hold : l[i]? = some o) (ho : o = .unset ∨ ∃ w, o = .val w ∧ w.category = 1) (hv : v.category = 1) (hl' : l.setIfInBounds i (.val v) = l' := by rfl) : storeLocals l i v = some l' := by
  rw [XS.store1 hold ho hv, hl']
end Own
theorem own_eqv {args : Array Value} {s : State} {a b : Term} {y : Value} (h : (Jvm.Cond.eq a b).value args s none s [] = some true) (hb : b.eval args s none [] s = some y) : a.eval args s none [] s = some y := by
  cases ha : a.eval args s none [] s with
  | none => simp [Cond.value, ha] at h
  | some x => cases x <;> cases y <;> simp_all [Cond.value]
theorem own_len {args : Array Value} {s : State} {t : Term} {a : Addr} {cl : Cell} {ty : FieldType} {n : Int32} (ev : t.eval args s none [] s = some (.ref a)) (A : Arr s s.heap a cl ty) (h : (Term.length t).eval args s none [] s = some (.int n)) : cl.slots.size < 2 ^ 31 ∧ cl.slots.size.toInt32 = n := by
  have ha : s.arrayAt? a = some cl := Arr.fin (State.WarmedH.refl s).alike A
  by_cases q : cl.slots.size < 2 ^ 31
  · rw [len_f ev ha q] at h
    exact ⟨q, Value.int.inj (Option.some.inj h)⟩
  · simp [Term.eval, ev, ha] at h
    omega
theorem own_elem {args : Array Value} {s : State} {t : Term} {a : Addr} {cl : Cell} {ty : FieldType} {j : Int32} {v : Value} (ev : t.eval args s none [] s = some (.ref a)) (A : Arr s s.heap a cl ty) (h : (Term.elem t (Term.int j)).eval args s none [] s = some v) (hn : ¬ j < 0 := by decide) : cl.slots[j.toNatClampNeg]? = some v := by
  have ha : s.arrayAt? a = some cl := Arr.fin (State.WarmedH.refl s).alike A
  rw [← elem_f ev (Term.int_eval j) ha hn]; exact h
theorem own_pd0 : parseMethodDescriptor "()V" = some ⟨[], none⟩ := by decide +kernel
theorem own_pd1 : parseMethodDescriptor "(DD)V" = some ⟨[.double, .double], none⟩ := by decide +kernel
theorem own_pd2 : parseMethodDescriptor "(Lcom/example/haze_to_match/hazetomatch/Membership;D[D)V" = some ⟨[(.object "com/example/haze_to_match/hazetomatch/Membership"), .double, (.array .double)], none⟩ := by decide +kernel
theorem own_pn0 : plainName "java/lang/Record" = true := by first | (simp [plainName, overriddenIn]; done) | decide +kernel
theorem own_pn1 : plainName "com/example/haze_to_match/hazetomatch/Membership" = true := by first | (simp [plainName, overriddenIn]; done) | decide +kernel
theorem own_pn2 : plainName "com/example/haze_to_match/hazetomatch/MembershipAlongPinLaw" = true := by first | (simp [plainName, overriddenIn]; done) | decide +kernel
theorem own_d_jdk_30_method_1_code_0 : decode jdk_30_method_1_code 0 = .ok (.aload_n 0, 1) := by decide +kernel
theorem own_d_jdk_30_method_1_code_1 : decode jdk_30_method_1_code 1 = .ok (.invokespecial 1, 3) := by decide +kernel
theorem own_d_jdk_30_method_1_code_4 : decode jdk_30_method_1_code 4 = .ok (.return_, 1) := by decide +kernel
theorem own_d_prog_54_method_1_code_0 : decode prog_54_method_1_code 0 = .ok (.aload_n 0, 1) := by decide +kernel
theorem own_d_prog_54_method_1_code_1 : decode prog_54_method_1_code 1 = .ok (.invokespecial 1, 3) := by decide +kernel
theorem own_d_prog_54_method_1_code_4 : decode prog_54_method_1_code 4 = .ok (.aload_n 0, 1) := by decide +kernel
theorem own_d_prog_54_method_1_code_5 : decode prog_54_method_1_code 5 = .ok (.dload_n 1, 1) := by decide +kernel
theorem own_d_prog_54_method_1_code_6 : decode prog_54_method_1_code 6 = .ok (.putfield 7, 3) := by decide +kernel
theorem own_d_prog_54_method_1_code_9 : decode prog_54_method_1_code 9 = .ok (.aload_n 0, 1) := by decide +kernel
theorem own_d_prog_54_method_1_code_10 : decode prog_54_method_1_code 10 = .ok (.dload_n 3, 1) := by decide +kernel
theorem own_d_prog_54_method_1_code_11 : decode prog_54_method_1_code 11 = .ok (.putfield 13, 3) := by decide +kernel
theorem own_d_prog_54_method_1_code_14 : decode prog_54_method_1_code 14 = .ok (.return_, 1) := by decide +kernel
theorem own_d_prog_54_method_2_code_0 : decode prog_54_method_2_code 0 = .ok (.dload_n 2, 1) := by decide +kernel
theorem own_d_prog_54_method_2_code_1 : decode prog_54_method_2_code 1 = .ok (.ldc2_w 16, 3) := by decide +kernel
theorem own_d_prog_54_method_2_code_4 : decode prog_54_method_2_code 4 = .ok (.dcmp .g, 1) := by decide +kernel
theorem own_d_prog_54_method_2_code_5 : decode prog_54_method_2_code 5 = .ok (.ifCond .gt 46, 3) := by decide +kernel
theorem own_d_prog_54_method_2_code_51 : decode prog_54_method_2_code 51 = .ok (.dconst 1, 1) := by decide +kernel
theorem own_d_prog_54_method_2_code_52 : decode prog_54_method_2_code 52 = .ok (.dload_n 2, 1) := by decide +kernel
theorem own_d_prog_54_method_2_code_53 : decode prog_54_method_2_code 53 = .ok (.dsub, 1) := by decide +kernel
theorem own_d_prog_54_method_2_code_54 : decode prog_54_method_2_code 54 = .ok (.dstore 5, 2) := by decide +kernel
theorem own_d_prog_54_method_2_code_56 : decode prog_54_method_2_code 56 = .ok (.aload 4, 2) := by decide +kernel
theorem own_d_prog_54_method_2_code_58 : decode prog_54_method_2_code 58 = .ok (.iconst 0, 1) := by decide +kernel
theorem own_d_prog_54_method_2_code_59 : decode prog_54_method_2_code 59 = .ok (.aload_n 1, 1) := by decide +kernel
theorem own_d_prog_54_method_2_code_60 : decode prog_54_method_2_code 60 = .ok (.getfield 7, 3) := by decide +kernel
theorem own_d_prog_54_method_2_code_63 : decode prog_54_method_2_code 63 = .ok (.dload 5, 2) := by decide +kernel
theorem own_d_prog_54_method_2_code_65 : decode prog_54_method_2_code 65 = .ok (.aload_n 0, 1) := by decide +kernel
theorem own_d_prog_54_method_2_code_66 : decode prog_54_method_2_code 66 = .ok (.getfield 7, 3) := by decide +kernel
theorem own_d_prog_54_method_2_code_69 : decode prog_54_method_2_code 69 = .ok (.aload_n 1, 1) := by decide +kernel
theorem own_d_prog_54_method_2_code_70 : decode prog_54_method_2_code 70 = .ok (.getfield 7, 3) := by decide +kernel
theorem own_d_prog_54_method_2_code_73 : decode prog_54_method_2_code 73 = .ok (.dsub, 1) := by decide +kernel
theorem own_d_prog_54_method_2_code_74 : decode prog_54_method_2_code 74 = .ok (.dmul, 1) := by decide +kernel
theorem own_d_prog_54_method_2_code_75 : decode prog_54_method_2_code 75 = .ok (.dadd, 1) := by decide +kernel
theorem own_d_prog_54_method_2_code_76 : decode prog_54_method_2_code 76 = .ok (.dastore, 1) := by decide +kernel
theorem own_d_prog_54_method_2_code_77 : decode prog_54_method_2_code 77 = .ok (.aload 4, 2) := by decide +kernel
theorem own_d_prog_54_method_2_code_79 : decode prog_54_method_2_code 79 = .ok (.iconst 1, 1) := by decide +kernel
theorem own_d_prog_54_method_2_code_80 : decode prog_54_method_2_code 80 = .ok (.aload_n 1, 1) := by decide +kernel
theorem own_d_prog_54_method_2_code_81 : decode prog_54_method_2_code 81 = .ok (.getfield 13, 3) := by decide +kernel
theorem own_d_prog_54_method_2_code_84 : decode prog_54_method_2_code 84 = .ok (.dload 5, 2) := by decide +kernel
theorem own_d_prog_54_method_2_code_86 : decode prog_54_method_2_code 86 = .ok (.aload_n 0, 1) := by decide +kernel
theorem own_d_prog_54_method_2_code_87 : decode prog_54_method_2_code 87 = .ok (.getfield 13, 3) := by decide +kernel
theorem own_d_prog_54_method_2_code_90 : decode prog_54_method_2_code 90 = .ok (.aload_n 1, 1) := by decide +kernel
theorem own_d_prog_54_method_2_code_91 : decode prog_54_method_2_code 91 = .ok (.getfield 13, 3) := by decide +kernel
theorem own_d_prog_54_method_2_code_94 : decode prog_54_method_2_code 94 = .ok (.dsub, 1) := by decide +kernel
theorem own_d_prog_54_method_2_code_95 : decode prog_54_method_2_code 95 = .ok (.dmul, 1) := by decide +kernel
theorem own_d_prog_54_method_2_code_96 : decode prog_54_method_2_code 96 = .ok (.dadd, 1) := by decide +kernel
theorem own_d_prog_54_method_2_code_97 : decode prog_54_method_2_code 97 = .ok (.dastore, 1) := by decide +kernel
theorem own_d_prog_54_method_2_code_98 : decode prog_54_method_2_code 98 = .ok (.return_, 1) := by decide +kernel
theorem own_d_prog_54_method_2_code_8 : decode prog_54_method_2_code 8 = .ok (.aload 4, 2) := by decide +kernel
theorem own_d_prog_54_method_2_code_10 : decode prog_54_method_2_code 10 = .ok (.iconst 0, 1) := by decide +kernel
theorem own_d_prog_54_method_2_code_11 : decode prog_54_method_2_code 11 = .ok (.aload_n 0, 1) := by decide +kernel
theorem own_d_prog_54_method_2_code_12 : decode prog_54_method_2_code 12 = .ok (.getfield 7, 3) := by decide +kernel
theorem own_d_prog_54_method_2_code_15 : decode prog_54_method_2_code 15 = .ok (.dload_n 2, 1) := by decide +kernel
theorem own_d_prog_54_method_2_code_16 : decode prog_54_method_2_code 16 = .ok (.aload_n 1, 1) := by decide +kernel
theorem own_d_prog_54_method_2_code_17 : decode prog_54_method_2_code 17 = .ok (.getfield 7, 3) := by decide +kernel
theorem own_d_prog_54_method_2_code_20 : decode prog_54_method_2_code 20 = .ok (.aload_n 0, 1) := by decide +kernel
theorem own_d_prog_54_method_2_code_21 : decode prog_54_method_2_code 21 = .ok (.getfield 7, 3) := by decide +kernel
theorem own_d_prog_54_method_2_code_24 : decode prog_54_method_2_code 24 = .ok (.dsub, 1) := by decide +kernel
theorem own_d_prog_54_method_2_code_25 : decode prog_54_method_2_code 25 = .ok (.dmul, 1) := by decide +kernel
theorem own_d_prog_54_method_2_code_26 : decode prog_54_method_2_code 26 = .ok (.dadd, 1) := by decide +kernel
theorem own_d_prog_54_method_2_code_27 : decode prog_54_method_2_code 27 = .ok (.dastore, 1) := by decide +kernel
theorem own_d_prog_54_method_2_code_28 : decode prog_54_method_2_code 28 = .ok (.aload 4, 2) := by decide +kernel
theorem own_d_prog_54_method_2_code_30 : decode prog_54_method_2_code 30 = .ok (.iconst 1, 1) := by decide +kernel
theorem own_d_prog_54_method_2_code_31 : decode prog_54_method_2_code 31 = .ok (.aload_n 0, 1) := by decide +kernel
theorem own_d_prog_54_method_2_code_32 : decode prog_54_method_2_code 32 = .ok (.getfield 13, 3) := by decide +kernel
theorem own_d_prog_54_method_2_code_35 : decode prog_54_method_2_code 35 = .ok (.dload_n 2, 1) := by decide +kernel
theorem own_d_prog_54_method_2_code_36 : decode prog_54_method_2_code 36 = .ok (.aload_n 1, 1) := by decide +kernel
theorem own_d_prog_54_method_2_code_37 : decode prog_54_method_2_code 37 = .ok (.getfield 13, 3) := by decide +kernel
theorem own_d_prog_54_method_2_code_40 : decode prog_54_method_2_code 40 = .ok (.aload_n 0, 1) := by decide +kernel
theorem own_d_prog_54_method_2_code_41 : decode prog_54_method_2_code 41 = .ok (.getfield 13, 3) := by decide +kernel
theorem own_d_prog_54_method_2_code_44 : decode prog_54_method_2_code 44 = .ok (.dsub, 1) := by decide +kernel
theorem own_d_prog_54_method_2_code_45 : decode prog_54_method_2_code 45 = .ok (.dmul, 1) := by decide +kernel
theorem own_d_prog_54_method_2_code_46 : decode prog_54_method_2_code 46 = .ok (.dadd, 1) := by decide +kernel
theorem own_d_prog_54_method_2_code_47 : decode prog_54_method_2_code 47 = .ok (.dastore, 1) := by decide +kernel
theorem own_d_prog_54_method_2_code_48 : decode prog_54_method_2_code 48 = .ok (.goto 50, 3) := by decide +kernel

section OwnD
open Jvm.FP.Core
def own_sh (k : Nat) : Datum → Datum
  | .fin s c q => .fin s c (q + k)
  | d => d
/-- the datum's value is i / 2^k -/
def own_D (k : Nat) (i : Int) (d : Datum) : Prop := Whole i (own_sh k d)
theorem own_D_fin {k : Nat} {i : Int} {d : Datum} (h : own_D k i d) : ∃ s c q, d = .fin s c q ∧ Whole i (.fin s c (q + k)) := by
  cases d with
  | nan => exact h.elim
  | inf => exact h.elim
  | fin s c q => exact ⟨s, c, q, rfl, h⟩
theorem own_D_sum {k : Nat} {i j : Int} {x y : Datum} (hx : own_D k i x) (hy : own_D k j y) : own_D k (i + j) (exactSum x y) := by
  obtain ⟨s, c, q, rfl, h1⟩ := own_D_fin hx
  obtain ⟨t, d, r, rfl, h2⟩ := own_D_fin hy
  have h := whole_sum h1 h2
  have e : exactSum (.fin s c (q + k)) (.fin t d (r + k)) = own_sh k (exactSum (.fin s c q) (.fin t d r)) := by
    have hm : min (q + (k : Int)) (r + k) = min q r + k := by omega
    have hu : sumUnits s c (q + k) t d (r + k) (min (q + (k : Int)) (r + k)) = sumUnits s c q t d r (min q r) := by
      unfold sumUnits inUnits
      rw [hm, show q + (k : Int) - (min q r + k) = q - min q r by omega, show r + (k : Int) - (min q r + k) = r - min q r by omega]
    show Datum.fin (sumSign s t _) _ _ = Datum.fin (sumSign s t _) _ _
    rw [hu, hm]
  rw [e] at h
  exact h
theorem own_D_neg {k : Nat} {i : Int} {x : Datum} (hx : own_D k i x) : own_D k (-i) (negate x) := by
  obtain ⟨s, c, q, rfl, h1⟩ := own_D_fin hx
  exact whole_negate h1
theorem own_D_mul {k l : Nat} {i j : Int} {x y : Datum} (hx : own_D k i x) (hy : own_D l j y) : own_D (k + l) (i * j) (exactProduct x y) := by
  obtain ⟨s, c, q, rfl, h1⟩ := own_D_fin hx
  obtain ⟨t, d, r, rfl, h2⟩ := own_D_fin hy
  have h := whole_product h1 h2
  have e : exactProduct (.fin s c (q + k)) (.fin t d (r + l)) = own_sh (k + l) (exactProduct (.fin s c q) (.fin t d r)) := by
    show Datum.fin _ _ _ = Datum.fin _ _ _
    congr 1
    push_cast
    omega
  rw [e] at h
  exact h
theorem own_fitK (s : Bool) {n k : Nat} (hn : n ≤ 2 ^ 53) (hk : k ≤ 900) : ∃ c q, Jvm.FP.Core.fits b64 (.fin s c q) ∧ n * 2 ^ (-(k : Int) - q).toNat = c * 1 * 2 ^ (q - -(k : Int)).toNat := by
  have e1 : b64.p = 53 := by decide +kernel
  have e2 : b64.qmin = -1074 := by decide +kernel
  have e3 : b64.qmax = 971 := by decide +kernel
  have e4 : b64.tails = 2 ^ 52 := by decide +kernel
  by_cases h0 : n = 0
  · subst h0
    exact ⟨0, b64.qmin, zero_fits good_b64 s, by simp⟩
  by_cases hp : n = 2 ^ 53
  · refine ⟨2 ^ 52, 1 - (k : Int), ⟨by rw [e1]; decide, by omega, by omega, .inr (by rw [e4]; exact Nat.le_refl _)⟩, ?_⟩
    rw [hp, show (-(k : Int) - (1 - (k : Int))).toNat = 0 by omega, show (1 - (k : Int) - -(k : Int)).toNat = 1 by omega]
  · have l1 : 2 ^ n.log2 ≤ n := Nat.log2_self_le h0
    have l2 : n < 2 ^ (n.log2 + 1) := Nat.lt_log2_self
    have l3 : n.log2 < 53 := (Nat.pow_lt_pow_iff_right (by decide : 1 < 2)).mp (Nat.lt_of_le_of_lt l1 (by omega))
    generalize n.log2 = L at l1 l2 l3
    refine ⟨n * 2 ^ (52 - L), (L : Int) - 52 - k, ⟨?_, by omega, by omega, .inr ?_⟩, ?_⟩
    · rw [e1]
      calc n * 2 ^ (52 - L) < 2 ^ (L + 1) * 2 ^ (52 - L) := Nat.mul_lt_mul_of_pos_right l2 (Nat.two_pow_pos _)
        _ = 2 ^ 53 := by rw [← Nat.pow_add]; congr 1; omega
    · rw [e4]
      calc 2 ^ 52 = 2 ^ L * 2 ^ (52 - L) := by rw [← Nat.pow_add]; congr 1; omega
        _ ≤ n * 2 ^ (52 - L) := Nat.mul_le_mul_right _ l1
    · rw [show (-(k : Int) - ((L : Int) - 52 - k)).toNat = 52 - L by omega, show ((L : Int) - 52 - k - -(k : Int)).toNat = 0 by omega]
      simp
theorem own_D_ratio {s : Bool} {A B k : Nat} {e i : Int} (hB : 0 < B) (hi : i.natAbs ≤ 2 ^ 53) (hk : k ≤ 900) (hs : i ≠ 0 → s = decide (i < 0)) (h : A * 1 * 2 ^ (e - -(k : Int)).toNat = i.natAbs * B * 2 ^ (-(k : Int) - e).toNat) : own_D k i (roundRatio b64 s A B e) := by
  obtain ⟨c', q', hfit, hv⟩ := own_fitK s hi hk
  rw [roundRatio_congr (e' := -(k : Int)) hB (by decide) h, roundRatio_exact good_b64 (by decide) hfit hv]
  show signed s (c' * 2 ^ (q' + (k : Int)).toNat) = i * ((2 ^ (-(q' + (k : Int))).toNat : Nat) : Int)
  rw [show (-(k : Int) - q').toNat = (-(q' + (k : Int))).toNat by omega, show (q' - -(k : Int)).toNat = (q' + (k : Int)).toNat by omega, Nat.mul_one] at hv
  rw [← hv, signed_mul]
  congr 1
  by_cases hi0 : i = 0
  · rw [hi0]; exact signed_zero s
  · rw [hs hi0]
    unfold signed
    by_cases h : i < 0 <;> simp [h] <;> omega
theorem own_D_round {k : Nat} {i : Int} {x : Datum} (hx : own_D k i x) (hi : i.natAbs ≤ 2 ^ 53) (hk : k ≤ 900) : own_D k i (round b64 x) := by
  obtain ⟨s, c, q, rfl, h⟩ := own_D_fin hx
  refine own_D_ratio (A := c) (B := 1) (e := q) (by decide) hi hk (fun z => whole_sign h z) ?_
  have := whole_natAbs h
  rw [show (q - -(k : Int)).toNat = (q + (k : Int)).toNat by omega, show (-(k : Int) - q).toNat = (-(q + (k : Int))).toNat by omega]
  simpa using this
/-- a double whose value is i / 2^k -/
def own_V (k : Nat) (i : Int) (a : UInt64) : Prop := own_D k i (val64 a)
theorem own_V_add {k : Nat} {i j : Int} {a b : UInt64} (ha : own_V k i a) (hb : own_V k j b) (hi : (i + j).natAbs ≤ 2 ^ 53) (hk : k ≤ 900) : own_V k (i + j) (FP.dadd a b) := by
  show own_D k _ (val64 (dadd a b)); rw [val64_dadd]; exact own_D_round (own_D_sum ha hb) hi hk
theorem own_V_sub {k : Nat} {i j : Int} {a b : UInt64} (ha : own_V k i a) (hb : own_V k j b) (hi : (i - j).natAbs ≤ 2 ^ 53) (hk : k ≤ 900) : own_V k (i - j) (FP.dsub a b) := by
  show own_D k _ (val64 (dsub a b)); rw [val64_dsub, Int.sub_eq_add_neg]; exact own_D_round (own_D_sum ha (own_D_neg hb)) (by rw [← Int.sub_eq_add_neg]; exact hi) hk
theorem own_V_mul {k l : Nat} {i j : Int} {a b : UInt64} (ha : own_V k i a) (hb : own_V l j b) (hi : (i * j).natAbs ≤ 2 ^ 53) (hk : k + l ≤ 900) : own_V (k + l) (i * j) (FP.dmul a b) := by
  show own_D _ _ (val64 (dmul a b)); rw [val64_dmul]; exact own_D_round (own_D_mul ha hb) hi hk
theorem own_V_lift {k l : Nat} {i : Int} {a : UInt64} (ha : own_V k i a) : own_V (k + l) (i * (2 ^ l : Nat)) a := by
  unfold own_V at ha ⊢
  obtain ⟨s, c, q, e, h⟩ := own_D_fin ha
  rw [e]
  show signed s (c * 2 ^ (q + ((k + l : Nat) : Int)).toNat) = i * ((2 ^ l : Nat) : Int) * ((2 ^ (-(q + ((k + l : Nat) : Int))).toNat : Nat) : Int)
  have h' : signed s (c * 2 ^ (q + (k : Int)).toNat) = i * ((2 ^ (-(q + (k : Int))).toNat : Nat) : Int) := h
  rcases Int.le_total 0 (q + k) with z | z
  · rw [show (-(q + (k : Int))).toNat = 0 by omega] at h'
    rw [show (q + ((k + l : Nat) : Int)).toNat = (q + (k : Int)).toNat + l by omega, show (-(q + ((k + l : Nat) : Int))).toNat = 0 by omega, Nat.pow_add, ← Nat.mul_assoc, signed_mul, h']
    simp
  · rw [show (q + (k : Int)).toNat = 0 by omega] at h'
    rcases Int.le_total 0 (q + ((k + l : Nat) : Int)) with y | y
    · rw [show (-(q + ((k + l : Nat) : Int))).toNat = 0 by omega, signed_mul]
      rw [Nat.pow_zero, Nat.mul_one] at h'
      rw [h', Int.mul_assoc, Int.mul_assoc, ← Int.natCast_mul, ← Int.natCast_mul, ← Nat.pow_add, Nat.pow_zero, Nat.mul_one]
      congr 3; omega
    · rw [show (q + ((k + l : Nat) : Int)).toNat = 0 by omega, h', Int.mul_assoc, ← Int.natCast_mul, ← Nat.pow_add]
      congr 3; omega
theorem own_V_nn {k : Nat} {i : Int} {a : UInt64} (h : own_V k i a) : val64 a ≠ .nan := by
  obtain ⟨s, c, q, e, -⟩ := own_D_fin h
  rw [e]; exact Datum.noConfusion
theorem own_V_zval {k : Nat} {i : Int} {a : UInt64} (h : own_V k i a) (hk : k ≤ 900) : zval b64 (val64 a) = i * ((2 ^ (1074 - k) : Nat) : Int) := by
  have e2 : b64.qmin = -1074 := by decide +kernel
  have hf := val64_fits a
  obtain ⟨s, c, q, e, h'⟩ := own_D_fin h
  rw [e] at hf ⊢
  obtain ⟨-, hq, -, -⟩ := hf
  rw [e2] at hq
  have h1 : signed s (c * 2 ^ (q + (k : Int)).toNat) = i * ((2 ^ (-(q + (k : Int))).toNat : Nat) : Int) := h'
  show signed s (c * 2 ^ (q - b64.qmin).toNat) = _
  rw [e2]
  rcases Int.le_total 0 (q + k) with z | z
  · rw [show (-(q + (k : Int))).toNat = 0 by omega] at h1
    rw [show (q - -1074).toNat = (q + (k : Int)).toNat + (1074 - k) by omega, Nat.pow_add, ← Nat.mul_assoc, signed_mul, h1]
    simp
  · rw [show (q + (k : Int)).toNat = 0 by omega, Nat.pow_zero, Nat.mul_one] at h1
    rw [signed_mul, h1, Int.mul_assoc, ← Int.natCast_mul, ← Nat.pow_add]
    congr 3; omega
theorem own_V_cmp {k : Nat} {i : Int} {a b : UInt64} (ha : own_V k i a) (hb : own_V k i b) (hk : k ≤ 900) : FP.dcmp a b = some .eq := by
  show dcmp a b = _
  rw [dcmp_zval (own_V_nn ha) (own_V_nn hb), own_V_zval ha hk, own_V_zval hb hk]
  simp
/-- division by 2^k -/
theorem own_V_div {k : Nat} {i : Int} {a b : UInt64} (ha : own_V 0 i a) (hb : val64 b = .fin false (2 ^ 52) ((k : Int) - 52)) (hi : i.natAbs ≤ 2 ^ 53) (hk : k ≤ 900) : own_V k i (FP.ddiv a b) := by
  show own_D k _ (val64 (ddiv a b))
  rw [val64_ddiv, hb]
  obtain ⟨s, c, q, e, h⟩ := own_D_fin ha
  rw [e]
  have h1 := whole_natAbs h
  have hz : quotient b64 (.fin s c q) (.fin false (2 ^ 52) ((k : Int) - 52)) = roundRatio b64 (s != false) c (2 ^ 52) (q - ((k : Int) - 52)) := by
    show (if (2 : Nat) ^ 52 = 0 then (if c = 0 then Datum.nan else Datum.inf (s != false)) else roundRatio b64 (s != false) c (2 ^ 52) (q - ((k : Int) - 52))) = _
    rw [if_neg (by decide)]
  rw [hz]
  refine own_D_ratio (Nat.two_pow_pos _) hi hk (fun z => by rw [Bool.bne_false]; exact whole_sign h z) ?_
  rw [show (q - ((k : Int) - 52) - -(k : Int)).toNat = (q + 52).toNat by omega, show (-(k : Int) - (q - ((k : Int) - 52))).toNat = (-(q + 52)).toNat by omega, Nat.mul_one]
  have h2 : c * 2 ^ q.toNat = i.natAbs * 2 ^ (-q).toNat := by simpa using h1
  rcases Int.le_total 0 q with z | z
  · rw [show (-q).toNat = 0 by omega, Nat.pow_zero, Nat.mul_one] at h2
    rw [show (q + 52).toNat = q.toNat + 52 by omega, show (-(q + 52)).toNat = 0 by omega, Nat.pow_add, ← Nat.mul_assoc, h2]
    simp
  · rw [show q.toNat = 0 by omega, Nat.pow_zero, Nat.mul_one] at h2
    rw [h2, Nat.mul_assoc, Nat.mul_assoc, ← Nat.pow_add, ← Nat.pow_add]
    congr 2; omega
theorem own_V_i2d (x : Int32) : own_V 0 x.toInt (FP.i2d x) := by
  have h : Whole x.toInt (val64 (i2d x)) := i2d_int x
  show Whole _ (own_sh 0 (val64 (i2d x)))
  cases hd : val64 (i2d x) with
  | nan => rw [hd] at h; exact h
  | inf s => rw [hd] at h; exact h
  | fin s c q => rw [hd] at h; show Whole _ (.fin s c (q + ((0 : Nat) : Int))); rw [show q + ((0 : Nat) : Int) = q by omega]; exact h
theorem own_V_not {k : Nat} {i : Int} {a : UInt64} (h : own_V k i a) : Jvm.Free.Fl.NoNaN64 a := Jvm.Free.Fl.noNaN64_no.mpr ((notNaN_iff a).mpr (own_V_nn h))

theorem own_256 : val64 4643211215818981376 = .fin false (2 ^ 52) (((8 : Nat) : Int) - 52) := by decide +kernel
theorem own_1024 : val64 4652218415073722368 = .fin false (2 ^ 52) (((10 : Nat) : Int) - 52) := by decide +kernel
theorem own_2_18 : val64 4688247212092686336 = .fin false (2 ^ 52) (((18 : Nat) : Int) - 52) := by decide +kernel
theorem own_one : own_V 10 1024 FP.dconst1 := by
  have e : val64 FP.dconst1 = .fin false (2 ^ 52) (-52) := by decide +kernel
  show own_D 10 1024 (val64 FP.dconst1)
  rw [e]
  show signed false (2 ^ 52 * 2 ^ (-52 + ((10 : Nat) : Int)).toNat) = 1024 * ((2 ^ (-(-52 + ((10 : Nat) : Int))).toNat : Nat) : Int)
  decide +kernel
end OwnD
theorem own_lift10 {k : Nat} {i : Int} {a : UInt64} (h : own_V k i a) : own_V (k + 10) (i * 1024) a := by
  have q := own_V_lift (l := 10) h
  rw [show ((2 ^ 10 : Nat) : Int) = 1024 by decide] at q
  exact q
theorem own_bnd {t d : Int} (h0 : 0 ≤ t) (h1 : t ≤ 1024) (h2 : -256 ≤ d) (h3 : d ≤ 256) : -262144 ≤ t * d ∧ t * d ≤ 262144 := by
  have a1 : t * d ≤ t * 256 := Int.mul_le_mul_of_nonneg_left h3 h0
  have a2 : t * (-256) ≤ t * d := Int.mul_le_mul_of_nonneg_left h2 h0
  omega
theorem own_lo {i j t : Int} {x y z : UInt64} (hx : own_V 8 i x) (hy : own_V 8 j y) (hz : own_V 10 t z) (i0 : 0 ≤ i) (i1 : i ≤ 256) (j0 : 0 ≤ j) (j1 : j ≤ 256) (t0 : 0 ≤ t) (t1 : t ≤ 1024) :
    own_V 8 (j - i) (FP.dsub y x) ∧ own_V 18 (t * (j - i)) (FP.dmul z (FP.dsub y x)) ∧ own_V 18 (i * 1024 + t * (j - i)) (FP.dadd x (FP.dmul z (FP.dsub y x))) := by
  have b := own_bnd t0 t1 (show -256 ≤ j - i by omega) (show j - i ≤ 256 by omega)
  have e1 := own_V_sub hy hx (show (j - i).natAbs ≤ 2 ^ 53 by omega) (by decide)
  have e2 : own_V 18 (t * (j - i)) (FP.dmul z (FP.dsub y x)) := own_V_mul hz e1 (show (t * (j - i)).natAbs ≤ 2 ^ 53 by omega) (by decide)
  exact ⟨e1, e2, own_V_add (k := 18) (own_lift10 hx) e2 (show (i * 1024 + t * (j - i)).natAbs ≤ 2 ^ 53 by omega) (by decide)⟩
theorem own_hi {i j t : Int} {x y z : UInt64} (hx : own_V 8 i x) (hy : own_V 8 j y) (hz : own_V 10 t z) (i0 : 0 ≤ i) (i1 : i ≤ 256) (j0 : 0 ≤ j) (j1 : j ≤ 256) (t0 : 0 ≤ t) (t1 : t ≤ 1024) :
    own_V 8 (i - j) (FP.dsub x y) ∧ own_V 18 ((1024 - t) * (i - j)) (FP.dmul (FP.dsub FP.dconst1 z) (FP.dsub x y)) ∧ own_V 18 (i * 1024 + t * (j - i)) (FP.dadd y (FP.dmul (FP.dsub FP.dconst1 z) (FP.dsub x y))) := by
  have hu := own_V_sub own_one hz (show (1024 - t).natAbs ≤ 2 ^ 53 by omega) (by decide)
  have e := own_lo hy hx hu j0 j1 i0 i1 (by omega) (by omega)
  refine ⟨e.1, e.2.1, ?_⟩
  have q := e.2.2
  have r : j * 1024 + (1024 - t) * (i - j) = i * 1024 + t * (j - i) := by rw [Int.sub_mul, Int.mul_sub, Int.mul_sub, Int.mul_sub]; omega
  rw [r] at q
  exact q
theorem own_u {t : Int} {z : UInt64} (hz : own_V 10 t z) (t0 : 0 ≤ t) (t1 : t ≤ 1024) : own_V 10 (1024 - t) (FP.dsub FP.dconst1 z) := own_V_sub own_one hz (by omega) (by decide)
theorem own_nat {n : Nat} (h : n < 2147483648) : (Int32.ofNat n).toInt = n := Int32.toInt_ofNat_of_lt h
theorem own_remN (x : Int32) (n : Nat) (h : 0 < n) (h' : n ≤ 2000) : ∃ i, i < n ∧ (x &&& (2147483647 : Int32)) % Int32.ofNat n = Int32.ofNat i := by
  have e1 : (x &&& (2147483647 : Int32)).toInt = x.toInt % 2 ^ 31 := Jvm.Kit.i32_mask x 2147483647 (k := 31) (by decide) (by decide)
  have e3 : (Int32.ofNat n).toInt = n := own_nat (by omega)
  have e2 : ((x &&& (2147483647 : Int32)) % Int32.ofNat n).toInt = (x &&& (2147483647 : Int32)).toInt % (n : Int) := by
    rw [Int32.toInt_mod, e3]; exact Int.tmod_eq_emod_of_nonneg (by omega)
  have b1 := Int.emod_nonneg (x &&& (2147483647 : Int32)).toInt (show (n : Int) ≠ 0 by omega)
  have b2 := Int.emod_lt_of_pos (x &&& (2147483647 : Int32)).toInt (show (0 : Int) < (n : Int) by omega)
  refine ⟨((x &&& (2147483647 : Int32)).toInt % (n : Int)).toNat, by omega, Int32.toInt_inj.mp ?_⟩
  rw [e2, own_nat (by omega)]; omega
theorem own_q8 {n : Nat} (h : n < 257) : own_V 8 (n : Int) (FP.ddiv (FP.i2d (Int32.ofNat n)) 4643211215818981376) := by
  have q := own_V_i2d (Int32.ofNat n)
  rw [own_nat (by omega)] at q
  exact own_V_div q own_256 (by omega) (by decide)
theorem own_q10 {n : Nat} (h : n < 1025) : own_V 10 (n : Int) (FP.ddiv (FP.i2d (Int32.ofNat n)) 4652218415073722368) := by
  have q := own_V_i2d (Int32.ofNat n)
  rw [own_nat (by omega)] at q
  exact own_V_div q own_1024 (by omega) (by decide)
theorem own_int {a b t : Nat} (ha : a < 257) (hb : b < 257) (ht : t < 1025) : (Int32.ofNat a * (1024 : Int32) + Int32.ofNat t * (Int32.ofNat b - Int32.ofNat a)).toInt = (a : Int) * 1024 + (t : Int) * ((b : Int) - (a : Int)) := by
  have n1 := own_nat (n := a) (by omega)
  have n2 := own_nat (n := b) (by omega)
  have n3 := own_nat (n := t) (by omega)
  have z : (1024 : Int32).toInt = 1024 := rfl
  have bd := own_bnd (t := (t : Int)) (d := (b : Int) - (a : Int)) (by omega) (by omega) (by omega) (by omega)
  have e1 : (Int32.ofNat b - Int32.ofNat a).toInt = (b : Int) - (a : Int) := by rw [Jvm.Kit.i32_sub (by rw [n1, n2]; omega) (by rw [n1, n2]; omega), n1, n2]
  have e2 : (Int32.ofNat t * (Int32.ofNat b - Int32.ofNat a)).toInt = (t : Int) * ((b : Int) - (a : Int)) := by rw [Jvm.Kit.i32_mul (by rw [n3, e1]; omega) (by rw [n3, e1]; omega), n3, e1]
  have e3 : (Int32.ofNat a * (1024 : Int32)).toInt = (a : Int) * 1024 := by rw [Jvm.Kit.i32_mul (by rw [n1, z]; omega) (by rw [n1, z]; omega), n1, z]
  rw [Jvm.Kit.i32_add (by rw [e2, e3]; omega) (by rw [e2, e3]; omega), e2, e3]
theorem own_exp {a b t : Nat} (ha : a < 257) (hb : b < 257) (ht : t < 1025) : own_V 18 ((a : Int) * 1024 + (t : Int) * ((b : Int) - (a : Int))) (FP.ddiv (FP.i2d (Int32.ofNat a * (1024 : Int32) + Int32.ofNat t * (Int32.ofNat b - Int32.ofNat a))) 4688247212092686336) := by
  have q := own_V_i2d (Int32.ofNat a * (1024 : Int32) + Int32.ofNat t * (Int32.ofNat b - Int32.ofNat a))
  have bd := own_bnd (t := (t : Int)) (d := (b : Int) - (a : Int)) (by omega) (by omega) (by omega) (by omega)
  rw [own_int ha hb ht] at q
  exact own_V_div q own_2_18 (by omega) (by decide)
theorem own_eq {k : Nat} {i : Int} {a b : UInt64} (ha : own_V k i a) (hb : own_V k i b) (hk : k ≤ 900) : cmpValue (FP.dcmp a b) .l = 0 := by rw [own_V_cmp ha hb hk]; rfl

set_option maxRecDepth 65536 in
set_option maxHeartbeats 40000000 in
theorem own_rec (l : Launch) (Z : State) (a0 : Array Value) (hw : ∀ d ∈ tables_1, d.before a0 Z = true) (ws : List Jvm.Cond) (a : Addr) (h0 : Heap) (n0 : Nat) (Z0 : n0 ≤ h0.size)  :
    OMet l Z (⟨"java/lang/Record", "<init>", "()V"⟩ : MethodName) jdk_30_method_1_code 1 none ws ({ frames := 1, cells := 0, slots := 0, locals := 12 } : Room) #[(.ref a)] h0 (fun v h L => v = none ∧ Fr n0 L ∧ h = h0) := by
  refine OMet.body (plainFor_of_name own_pn0) ?_
  intro p e s m below meth c s₁ hx hby hml hown hnm hret hlk hZ X0 e0
  refine OGo.step (fun _ kk => castTop (show entryFrame m #[(.ref a)] 1 = (mkF m 0 #[.val (.ref a)] []) from by first | (simp [entryFrame, mkF, argsToLocals, Value.category]; done) | rfl) kk) ?_
  show OGo p e below (s₁.setTop (mkF m 0 #[.val (.ref a)] [])) _
  refine OGo.step (fun _ kk => XS.aloadN X0.here hx rfl (hb hby own_d_jdk_30_method_1_code_0) rfl rfl kk) ?_
  show OGo p e below (s₁.setTop (mkF m 1 #[.val (.ref a)] [(.ref a)])) _
  obtain ⟨T1, X1, e1, st1⟩ := initO X0 hx hZ hown (hw _ (List.mem_of_getElem? (i := 13) rfl)) (hw _ (List.mem_of_getElem? (i := 14) rfl)) (hw _ (List.mem_of_getElem? (i := 15) rfl)) e0 (g := (mkF m 1 #[.val (.ref a)] [(.ref a)])) rfl (by rw [hml]; rfl) rfl (hb hby own_d_jdk_30_method_1_code_1) (by decide) (W := 0) (by show 2 * 0 + _ ≤ _; exact Nat.le_of_eq rfl) (by decide)
  refine OGo.step st1 ?_
  show OGo p e below (T1.setTop (mkF m 4 #[.val (.ref a)] [])) _
  exact own_ret0 X1 hx hlk hret (hb hby own_d_jdk_30_method_1_code_4) ⟨rfl, Fr.nil n0, e1⟩ (by decide) (by decide)

set_option maxRecDepth 65536 in
set_option maxHeartbeats 40000000 in
theorem own_minit (l : Launch) (Z : State) (a0 : Array Value) (hw : ∀ d ∈ tables_1, d.before a0 Z = true) (ws : List Jvm.Cond) (a : Addr) (x y : UInt64) (u1 u2 : Value) (h0 : Heap) (n0 : Nat) (Z0 : n0 ≤ h0.size) (E1 : Exa Z h0 a "com/example/haze_to_match/hazetomatch/Membership") (F1 : Fld Z h0 a "com/example/haze_to_match/hazetomatch/Membership" "value" "D" u1) (F2 : Fld Z h0 a "com/example/haze_to_match/hazetomatch/Membership" "rest" "D" u2) (ga : n0 ≤ a) :
    OMet l Z (⟨"com/example/haze_to_match/hazetomatch/Membership", "<init>", "(DD)V"⟩ : MethodName) prog_54_method_1_code 5 none ws ({ frames := 2, cells := 0, slots := 0, locals := 24 } : Room) #[(.ref a), (.double x), (.double y)] h0 (fun v h L => v = none ∧ Fr n0 L ∧ Keep h0 h [a] ∧ Exa Z h a "com/example/haze_to_match/hazetomatch/Membership" ∧ Fld Z h a "com/example/haze_to_match/hazetomatch/Membership" "value" "D" (.double x) ∧ Fld Z h a "com/example/haze_to_match/hazetomatch/Membership" "rest" "D" (.double y)) := by
  refine OMet.body (plainFor_of_name own_pn1) ?_
  intro p e s m below meth c s₁ hx hby hml hown hnm hret hlk hZ X0 e0
  refine OGo.step (fun _ kk => castTop (show entryFrame m #[(.ref a), (.double x), (.double y)] 5 = (mkF m 0 #[.val (.ref a), .val (.double x), .second, .val (.double y), .second] []) from by first | (simp [entryFrame, mkF, argsToLocals, Value.category]; done) | rfl) kk) ?_
  show OGo p e below (s₁.setTop (mkF m 0 #[.val (.ref a), .val (.double x), .second, .val (.double y), .second] [])) _
  refine OGo.step (fun _ kk => XS.aloadN X0.here hx rfl (hb hby own_d_prog_54_method_1_code_0) rfl rfl kk) ?_
  show OGo p e below (s₁.setTop (mkF m 1 #[.val (.ref a), .val (.double x), .second, .val (.double y), .second] [(.ref a)])) _
  refine own_special X0 hx hZ (y := (⟨"java/lang/Record", "<init>", "()V"⟩ : MethodName)) rfl hown (hw _ (List.mem_of_getElem? (i := 8) rfl)) (hw _ (List.mem_of_getElem? (i := 9) rfl)) (hw _ (List.mem_of_getElem? (i := 12) rfl)) (hw _ (List.mem_of_getElem? (i := 11) rfl)) (by decide) (a := a) (W := 0) (own_rec l Z a0 hw [] a h0 n0 Z0) e0  (pc := 1) (Ls := #[.val (.ref a), .val (.double x), .second, .val (.double y), .second]) (argsL := []) (rest := []) (by rw [hml]; rfl) (lenOf own_pd0 rfl) rfl (hb hby own_d_prog_54_method_1_code_1) (by decide) (by decide) (by decide) (by decide) ?_
  intro v2 T2 L2 X2 hQ2
  obtain ⟨rfl, N2, e2⟩ := hQ2
  show OGo p e below (T2.setTop (mkF m 4 #[.val (.ref a), .val (.double x), .second, .val (.double y), .second] [])) _
  have Nc2 := Fr.app (Fr.nil n0) N2
  refine OGo.step (fun _ kk => XS.aloadN X2.here hx rfl (hb hby own_d_prog_54_method_1_code_4) rfl rfl kk) ?_
  show OGo p e below (T2.setTop (mkF m 5 #[.val (.ref a), .val (.double x), .second, .val (.double y), .second] [(.ref a)])) _
  refine OGo.step (fun _ kk => XS.dloadN X2.here hx rfl (hb hby own_d_prog_54_method_1_code_5) rfl kk) ?_
  show OGo p e below (T2.setTop (mkF m 6 #[.val (.ref a), .val (.double x), .second, .val (.double y), .second] [(.double x), (.ref a)])) _
  obtain ⟨T3, h3, X3, e3, W3, st3⟩ := putF X2 hx hZ hown (host := "") (Or.inl (hw _ (List.mem_of_getElem? (i := 16) rfl))) Via.refl e2 F1 E1 (Or.inr ⟨(hw _ (List.mem_of_getElem? (i := 17) rfl)), rfl, hnm⟩) (hw _ (List.mem_of_getElem? (i := 2) rfl)) (ty := .double) (by decide) rfl rfl (g := (mkF m 6 #[.val (.ref a), .val (.double x), .second, .val (.double y), .second] [(.double x), (.ref a)])) rfl rfl (hb hby own_d_prog_54_method_1_code_6)
  refine OGo.step st3 ?_
  show OGo p e below (T3.setTop (mkF m 9 #[.val (.ref a), .val (.double x), .second, .val (.double y), .second] [])) _
  have Fw3 := F1.same W3
  have Nf3 := Fr.snoc X3 Nc2 ga
  have sz3 : n0 ≤ h3.size := by rw [W3.size]; exact Z0
  refine OGo.step (fun _ kk => XS.aloadN X3.here hx rfl (hb hby own_d_prog_54_method_1_code_9) rfl rfl kk) ?_
  show OGo p e below (T3.setTop (mkF m 10 #[.val (.ref a), .val (.double x), .second, .val (.double y), .second] [(.ref a)])) _
  refine OGo.step (fun _ kk => XS.dloadN X3.here hx rfl (hb hby own_d_prog_54_method_1_code_10) rfl kk) ?_
  show OGo p e below (T3.setTop (mkF m 11 #[.val (.ref a), .val (.double x), .second, .val (.double y), .second] [(.double y), (.ref a)])) _
  have fc4 := (F2.other W3 (Or.inr (slot_ne (Or.inr (hw _ (List.mem_of_getElem? (i := 19) rfl))) (Or.inr (hw _ (List.mem_of_getElem? (i := 17) rfl))) (by decide) (t := .double) (t' := .double) (by decide) (by decide))))
  have fc5 := (E1.wr W3)
  obtain ⟨T6, h6, X6, e6, W6, st6⟩ := putF X3 hx hZ hown (host := "") (Or.inl (hw _ (List.mem_of_getElem? (i := 18) rfl))) Via.refl e3 fc4 fc5 (Or.inr ⟨(hw _ (List.mem_of_getElem? (i := 19) rfl)), rfl, hnm⟩) (hw _ (List.mem_of_getElem? (i := 2) rfl)) (ty := .double) (by decide) rfl rfl (g := (mkF m 11 #[.val (.ref a), .val (.double x), .second, .val (.double y), .second] [(.double y), (.ref a)])) rfl rfl (hb hby own_d_prog_54_method_1_code_11)
  refine OGo.step st6 ?_
  show OGo p e below (T6.setTop (mkF m 14 #[.val (.ref a), .val (.double x), .second, .val (.double y), .second] [])) _
  have Fw6 := fc4.same W6
  have Nf6 := Fr.snoc X6 Nf3 ga
  have sz6 : n0 ≤ h6.size := by rw [W6.size]; exact sz3
  have fc7 := (fc5.wr W6)
  have fc8 := (Fw3.other W6 (Or.inr (slot_ne (Or.inr (hw _ (List.mem_of_getElem? (i := 17) rfl))) (Or.inr (hw _ (List.mem_of_getElem? (i := 19) rfl))) (by decide) (t := .double) (t' := .double) (by decide) (by decide))))
  have HK := (((Keep.refl h0 [a]).wr W3 (Or.inl (List.mem_of_getElem? (i := 0) rfl))).wr W6 (Or.inl (List.mem_of_getElem? (i := 0) rfl)))
  exact own_ret0 X6 hx hlk hret (hb hby own_d_prog_54_method_1_code_14) (by rw [e6]; exact ⟨rfl, Nf6, HK, fc7, fc8, Fw6⟩) (by decide) (by decide)

set_option maxRecDepth 65536 in
set_option maxHeartbeats 40000000 in
theorem own_along (l : Launch) (Z : State) (a0 : Array Value) (hw : ∀ d ∈ tables_1, d.before a0 Z = true) (ws : List Jvm.Cond) (a b r : Addr) (kr : ClassId) (xa ya xb yb t : UInt64) (ia ib ja jb tt : Int) (h0 : Heap) (n0 : Nat) (Z0 : n0 ≤ h0.size) (Va : Fld Z h0 a "com/example/haze_to_match/hazetomatch/Membership" "value" "D" (.double xa)) (Ra : Fld Z h0 a "com/example/haze_to_match/hazetomatch/Membership" "rest" "D" (.double ya)) (Vb : Fld Z h0 b "com/example/haze_to_match/hazetomatch/Membership" "value" "D" (.double xb)) (Rb : Fld Z h0 b "com/example/haze_to_match/hazetomatch/Membership" "rest" "D" (.double yb)) (Vr : Arv Z h0 r kr .double (2 : Int32) [(.double (FP.l2d 0)), (.double (FP.l2d 0))] (.double (FP.l2d 0))) (gr : n0 ≤ r) (na : a ≠ r) (nb : b ≠ r) (hxa : own_V 8 ia xa) (hxb : own_V 8 ib xb) (hya : own_V 8 ja ya) (hyb : own_V 8 jb yb) (ht : own_V 10 tt t) (a0_ : 0 ≤ ia) (a1_ : ia ≤ 256) (b0_ : 0 ≤ ib) (b1_ : ib ≤ 256) (c0_ : 0 ≤ ja) (c1_ : ja ≤ 256) (d0_ : 0 ≤ jb) (d1_ : jb ≤ 256) (t0 : 0 ≤ tt) (t1 : tt ≤ 1024) :
    OMet l Z (⟨"com/example/haze_to_match/hazetomatch/Membership", "along", "(Lcom/example/haze_to_match/hazetomatch/Membership;D[D)V"⟩ : MethodName) prog_54_method_2_code 7 none ws ({ frames := 0, cells := 0, slots := 0, locals := 0 } : Room) #[(.ref a), (.ref b), (.double t), (.ref r)] h0 (fun v h L => ∃ w0 w1 : UInt64, v = none ∧ Fr n0 L ∧ Keep h0 h [r] ∧ Arv Z h r kr .double (2 : Int32) [(.double w0), (.double w1)] (.double (FP.l2d 0)) ∧ own_V 18 (ia * 1024 + tt * (ib - ia)) w0 ∧ own_V 18 (ja * 1024 + tt * (jb - ja)) w1) := by
  refine OMet.body (plainFor_of_name own_pn1) ?_
  intro p e s m below meth c s₁ hx hby hml hown hnm hret hlk hZ X0 e0
  refine OGo.step (fun _ kk => castTop (show entryFrame m #[(.ref a), (.ref b), (.double t), (.ref r)] 7 = (mkF m 0 #[.val (.ref a), .val (.ref b), .val (.double t), .second, .val (.ref r), .unset, .unset] []) from by first | (simp [entryFrame, mkF, argsToLocals, Value.category]; done) | rfl) kk) ?_
  show OGo p e below (s₁.setTop (mkF m 0 #[.val (.ref a), .val (.ref b), .val (.double t), .second, .val (.ref r), .unset, .unset] [])) _
  refine OGo.step (fun _ kk => XS.dloadN X0.here hx rfl (hb hby own_d_prog_54_method_2_code_0) rfl kk) ?_
  show OGo p e below (s₁.setTop (mkF m 1 #[.val (.ref a), .val (.ref b), .val (.double t), .second, .val (.ref r), .unset, .unset] [(.double t)])) _
  refine OGo.step (fun _ kk => X0.ldc2DoubleC hx hown (mvT hZ (hw _ (List.mem_of_getElem? (i := 27) rfl))) (g := (mkF m 1 #[.val (.ref a), .val (.ref b), .val (.double t), .second, .val (.ref r), .unset, .unset] [(.double t)])) rfl (hb hby own_d_prog_54_method_2_code_1) _ kk) ?_
  show OGo p e below (s₁.setTop (mkF m 4 #[.val (.ref a), .val (.ref b), .val (.double t), .second, .val (.ref r), .unset, .unset] [(.double (4602678819172646912 : UInt64)), (.double t)])) _
  refine OGo.step (fun _ kk => XS.dcmpS X0.here hx rfl (hb hby own_d_prog_54_method_2_code_4) rfl rfl kk) ?_
  show OGo p e below (s₁.setTop (mkF m 5 #[.val (.ref a), .val (.ref b), .val (.double t), .second, .val (.ref r), .unset, .unset] [(.int (cmpValue (FP.dcmp t (4602678819172646912 : UInt64)) .g))])) _
  by_cases hh : (0 : Int32) < (cmpValue (FP.dcmp t (4602678819172646912 : UInt64)) .g)
  · refine OGo.step (fun _ kk => XS.ifYes X0.here hx rfl (pc0 := 5) (pc' := 51) rfl (hb hby own_d_prog_54_method_2_code_5) rfl ((if0 _ _).trans (tlt hh).2.2.1) (by decide) (by decide) kk) ?_
    show OGo p e below (s₁.setTop (mkF m 51 #[.val (.ref a), .val (.ref b), .val (.double t), .second, .val (.ref r), .unset, .unset] [])) _
    refine OGo.step (fun _ kk => XS.dconst1 X0.here hx rfl (hb hby own_d_prog_54_method_2_code_51) rfl kk) ?_
    show OGo p e below (s₁.setTop (mkF m 52 #[.val (.ref a), .val (.ref b), .val (.double t), .second, .val (.ref r), .unset, .unset] [(.double FP.dconst1)])) _
    refine OGo.step (fun _ kk => XS.dloadN X0.here hx rfl (hb hby own_d_prog_54_method_2_code_52) rfl kk) ?_
    show OGo p e below (s₁.setTop (mkF m 53 #[.val (.ref a), .val (.ref b), .val (.double t), .second, .val (.ref r), .unset, .unset] [(.double t), (.double FP.dconst1)])) _
    refine OGo.step (fun _ kk => XS.dsubS X0.here hx rfl (hb hby own_d_prog_54_method_2_code_53) rfl (own_V_not (own_u ht t0 t1)) rfl kk) ?_
    show OGo p e below (s₁.setTop (mkF m 54 #[.val (.ref a), .val (.ref b), .val (.double t), .second, .val (.ref r), .unset, .unset] [(.double (FP.dsub FP.dconst1 t))])) _
    refine OGo.step (fun _ kk => XS.dstore X0.here hx rfl (hb hby own_d_prog_54_method_2_code_54) rfl (l' := #[.val (.ref a), .val (.ref b), .val (.double t), .second, .val (.ref r), .val (.double (FP.dsub FP.dconst1 t)), .second]) rfl kk) ?_
    show OGo p e below (s₁.setTop (mkF m 56 #[.val (.ref a), .val (.ref b), .val (.double t), .second, .val (.ref r), .val (.double (FP.dsub FP.dconst1 t)), .second] [])) _
    refine OGo.step (fun _ kk => XS.aload X0.here hx rfl (hb hby own_d_prog_54_method_2_code_56) rfl rfl kk) ?_
    show OGo p e below (s₁.setTop (mkF m 58 #[.val (.ref a), .val (.ref b), .val (.double t), .second, .val (.ref r), .val (.double (FP.dsub FP.dconst1 t)), .second] [(.ref r)])) _
    refine OGo.step (fun _ kk => XS.iconst X0.here hx rfl (hb hby own_d_prog_54_method_2_code_58) kk) ?_
    show OGo p e below (s₁.setTop (mkF m 59 #[.val (.ref a), .val (.ref b), .val (.double t), .second, .val (.ref r), .val (.double (FP.dsub FP.dconst1 t)), .second] [(.int (0 : Int32)), (.ref r)])) _
    refine OGo.step (fun _ kk => XS.aloadN X0.here hx rfl (hb hby own_d_prog_54_method_2_code_59) rfl rfl kk) ?_
    show OGo p e below (s₁.setTop (mkF m 60 #[.val (.ref a), .val (.ref b), .val (.double t), .second, .val (.ref r), .val (.double (FP.dsub FP.dconst1 t)), .second] [(.ref b), (.int (0 : Int32)), (.ref r)])) _
    obtain ⟨T9, X9, e9, st9⟩ := getF X0 hx hZ hown (host := "") (Or.inl (hw _ (List.mem_of_getElem? (i := 16) rfl))) Via.refl e0 Vb (g := (mkF m 60 #[.val (.ref a), .val (.ref b), .val (.double t), .second, .val (.ref r), .val (.double (FP.dsub FP.dconst1 t)), .second] [(.ref b), (.int (0 : Int32)), (.ref r)])) rfl rfl (hb hby own_d_prog_54_method_2_code_60)
    refine OGo.step st9 ?_
    show OGo p e below (T9.setTop (mkF m 63 #[.val (.ref a), .val (.ref b), .val (.double t), .second, .val (.ref r), .val (.double (FP.dsub FP.dconst1 t)), .second] [(.double xb), (.int (0 : Int32)), (.ref r)])) _
    refine OGo.step (fun _ kk => XS.dload X9.here hx rfl (hb hby own_d_prog_54_method_2_code_63) rfl kk) ?_
    show OGo p e below (T9.setTop (mkF m 65 #[.val (.ref a), .val (.ref b), .val (.double t), .second, .val (.ref r), .val (.double (FP.dsub FP.dconst1 t)), .second] [(.double (FP.dsub FP.dconst1 t)), (.double xb), (.int (0 : Int32)), (.ref r)])) _
    refine OGo.step (fun _ kk => XS.aloadN X9.here hx rfl (hb hby own_d_prog_54_method_2_code_65) rfl rfl kk) ?_
    show OGo p e below (T9.setTop (mkF m 66 #[.val (.ref a), .val (.ref b), .val (.double t), .second, .val (.ref r), .val (.double (FP.dsub FP.dconst1 t)), .second] [(.ref a), (.double (FP.dsub FP.dconst1 t)), (.double xb), (.int (0 : Int32)), (.ref r)])) _
    obtain ⟨T10, X10, e10, st10⟩ := getF X9 hx hZ hown (host := "") (Or.inl (hw _ (List.mem_of_getElem? (i := 16) rfl))) Via.refl e9 Va (g := (mkF m 66 #[.val (.ref a), .val (.ref b), .val (.double t), .second, .val (.ref r), .val (.double (FP.dsub FP.dconst1 t)), .second] [(.ref a), (.double (FP.dsub FP.dconst1 t)), (.double xb), (.int (0 : Int32)), (.ref r)])) rfl rfl (hb hby own_d_prog_54_method_2_code_66)
    refine OGo.step st10 ?_
    show OGo p e below (T10.setTop (mkF m 69 #[.val (.ref a), .val (.ref b), .val (.double t), .second, .val (.ref r), .val (.double (FP.dsub FP.dconst1 t)), .second] [(.double xa), (.double (FP.dsub FP.dconst1 t)), (.double xb), (.int (0 : Int32)), (.ref r)])) _
    refine OGo.step (fun _ kk => XS.aloadN X10.here hx rfl (hb hby own_d_prog_54_method_2_code_69) rfl rfl kk) ?_
    show OGo p e below (T10.setTop (mkF m 70 #[.val (.ref a), .val (.ref b), .val (.double t), .second, .val (.ref r), .val (.double (FP.dsub FP.dconst1 t)), .second] [(.ref b), (.double xa), (.double (FP.dsub FP.dconst1 t)), (.double xb), (.int (0 : Int32)), (.ref r)])) _
    obtain ⟨T11, X11, e11, st11⟩ := getF X10 hx hZ hown (host := "") (Or.inl (hw _ (List.mem_of_getElem? (i := 16) rfl))) Via.refl e10 Vb (g := (mkF m 70 #[.val (.ref a), .val (.ref b), .val (.double t), .second, .val (.ref r), .val (.double (FP.dsub FP.dconst1 t)), .second] [(.ref b), (.double xa), (.double (FP.dsub FP.dconst1 t)), (.double xb), (.int (0 : Int32)), (.ref r)])) rfl rfl (hb hby own_d_prog_54_method_2_code_70)
    refine OGo.step st11 ?_
    show OGo p e below (T11.setTop (mkF m 73 #[.val (.ref a), .val (.ref b), .val (.double t), .second, .val (.ref r), .val (.double (FP.dsub FP.dconst1 t)), .second] [(.double xb), (.double xa), (.double (FP.dsub FP.dconst1 t)), (.double xb), (.int (0 : Int32)), (.ref r)])) _
    have hv_ := own_hi hxa hxb ht a0_ a1_ b0_ b1_ t0 t1
    refine OGo.step (fun _ kk => XS.dsubS X11.here hx rfl (hb hby own_d_prog_54_method_2_code_73) rfl (own_V_not hv_.1) rfl kk) ?_
    show OGo p e below (T11.setTop (mkF m 74 #[.val (.ref a), .val (.ref b), .val (.double t), .second, .val (.ref r), .val (.double (FP.dsub FP.dconst1 t)), .second] [(.double (FP.dsub xa xb)), (.double (FP.dsub FP.dconst1 t)), (.double xb), (.int (0 : Int32)), (.ref r)])) _
    refine OGo.step (fun _ kk => XS.dmulS X11.here hx rfl (hb hby own_d_prog_54_method_2_code_74) rfl (own_V_not hv_.2.1) rfl kk) ?_
    show OGo p e below (T11.setTop (mkF m 75 #[.val (.ref a), .val (.ref b), .val (.double t), .second, .val (.ref r), .val (.double (FP.dsub FP.dconst1 t)), .second] [(.double (FP.dmul (FP.dsub FP.dconst1 t) (FP.dsub xa xb))), (.double xb), (.int (0 : Int32)), (.ref r)])) _
    refine OGo.step (fun _ kk => XS.daddS X11.here hx rfl (hb hby own_d_prog_54_method_2_code_75) rfl (own_V_not hv_.2.2) rfl kk) ?_
    show OGo p e below (T11.setTop (mkF m 76 #[.val (.ref a), .val (.ref b), .val (.double t), .second, .val (.ref r), .val (.double (FP.dsub FP.dconst1 t)), .second] [(.double (FP.dadd xb (FP.dmul (FP.dsub FP.dconst1 t) (FP.dsub xa xb)))), (.int (0 : Int32)), (.ref r)])) _
    obtain ⟨cA12, A12, q12, S12, M12, H12, G12⟩ := id Vr
    obtain ⟨T13, h13, X13, e13, W13, st13⟩ := stD X11 hx hZ e11 A12 (j := (0 : Int32)) (inb_of S12 ⟨by decide, by decide⟩) (g := (mkF m 76 #[.val (.ref a), .val (.ref b), .val (.double t), .second, .val (.ref r), .val (.double (FP.dsub FP.dconst1 t)), .second] [(.double (FP.dadd xb (FP.dmul (FP.dsub FP.dconst1 t) (FP.dsub xa xb)))), (.int (0 : Int32)), (.ref r)])) rfl rfl (hb hby own_d_prog_54_method_2_code_76)
    refine OGo.step st13 ?_
    show OGo p e below (T13.setTop (mkF m 77 #[.val (.ref a), .val (.ref b), .val (.double t), .second, .val (.ref r), .val (.double (FP.dsub FP.dconst1 t)), .second] [])) _
    have Va12 : Arv Z h13 r kr .double (2 : Int32) [(.double (FP.dadd xb (FP.dmul (FP.dsub FP.dconst1 t) (FP.dsub xa xb)))), (.double (FP.l2d 0))] (.double (FP.l2d 0)) := Arv.set A12 q12 S12 M12 H12 G12 rfl W13 0 rfl (Nat.le_of_ble_eq_true rfl)
    have Nf13 := Fr.snoc X13 (Fr.nil n0) gr
    have sz13 : n0 ≤ h13.size := by rw [W13.size]; exact Z0
    refine OGo.step (fun _ kk => XS.aload X13.here hx rfl (hb hby own_d_prog_54_method_2_code_77) rfl rfl kk) ?_
    show OGo p e below (T13.setTop (mkF m 79 #[.val (.ref a), .val (.ref b), .val (.double t), .second, .val (.ref r), .val (.double (FP.dsub FP.dconst1 t)), .second] [(.ref r)])) _
    refine OGo.step (fun _ kk => XS.iconst X13.here hx rfl (hb hby own_d_prog_54_method_2_code_79) kk) ?_
    show OGo p e below (T13.setTop (mkF m 80 #[.val (.ref a), .val (.ref b), .val (.double t), .second, .val (.ref r), .val (.double (FP.dsub FP.dconst1 t)), .second] [(.int (1 : Int32)), (.ref r)])) _
    refine OGo.step (fun _ kk => XS.aloadN X13.here hx rfl (hb hby own_d_prog_54_method_2_code_80) rfl rfl kk) ?_
    show OGo p e below (T13.setTop (mkF m 81 #[.val (.ref a), .val (.ref b), .val (.double t), .second, .val (.ref r), .val (.double (FP.dsub FP.dconst1 t)), .second] [(.ref b), (.int (1 : Int32)), (.ref r)])) _
    have fc14 := (Rb.other W13 (Or.inl nb))
    obtain ⟨T15, X15, e15, st15⟩ := getF X13 hx hZ hown (host := "") (Or.inl (hw _ (List.mem_of_getElem? (i := 18) rfl))) Via.refl e13 fc14 (g := (mkF m 81 #[.val (.ref a), .val (.ref b), .val (.double t), .second, .val (.ref r), .val (.double (FP.dsub FP.dconst1 t)), .second] [(.ref b), (.int (1 : Int32)), (.ref r)])) rfl rfl (hb hby own_d_prog_54_method_2_code_81)
    refine OGo.step st15 ?_
    show OGo p e below (T15.setTop (mkF m 84 #[.val (.ref a), .val (.ref b), .val (.double t), .second, .val (.ref r), .val (.double (FP.dsub FP.dconst1 t)), .second] [(.double yb), (.int (1 : Int32)), (.ref r)])) _
    refine OGo.step (fun _ kk => XS.dload X15.here hx rfl (hb hby own_d_prog_54_method_2_code_84) rfl kk) ?_
    show OGo p e below (T15.setTop (mkF m 86 #[.val (.ref a), .val (.ref b), .val (.double t), .second, .val (.ref r), .val (.double (FP.dsub FP.dconst1 t)), .second] [(.double (FP.dsub FP.dconst1 t)), (.double yb), (.int (1 : Int32)), (.ref r)])) _
    refine OGo.step (fun _ kk => XS.aloadN X15.here hx rfl (hb hby own_d_prog_54_method_2_code_86) rfl rfl kk) ?_
    show OGo p e below (T15.setTop (mkF m 87 #[.val (.ref a), .val (.ref b), .val (.double t), .second, .val (.ref r), .val (.double (FP.dsub FP.dconst1 t)), .second] [(.ref a), (.double (FP.dsub FP.dconst1 t)), (.double yb), (.int (1 : Int32)), (.ref r)])) _
    have fc16 := (Ra.other W13 (Or.inl na))
    obtain ⟨T17, X17, e17, st17⟩ := getF X15 hx hZ hown (host := "") (Or.inl (hw _ (List.mem_of_getElem? (i := 18) rfl))) Via.refl e15 fc16 (g := (mkF m 87 #[.val (.ref a), .val (.ref b), .val (.double t), .second, .val (.ref r), .val (.double (FP.dsub FP.dconst1 t)), .second] [(.ref a), (.double (FP.dsub FP.dconst1 t)), (.double yb), (.int (1 : Int32)), (.ref r)])) rfl rfl (hb hby own_d_prog_54_method_2_code_87)
    refine OGo.step st17 ?_
    show OGo p e below (T17.setTop (mkF m 90 #[.val (.ref a), .val (.ref b), .val (.double t), .second, .val (.ref r), .val (.double (FP.dsub FP.dconst1 t)), .second] [(.double ya), (.double (FP.dsub FP.dconst1 t)), (.double yb), (.int (1 : Int32)), (.ref r)])) _
    refine OGo.step (fun _ kk => XS.aloadN X17.here hx rfl (hb hby own_d_prog_54_method_2_code_90) rfl rfl kk) ?_
    show OGo p e below (T17.setTop (mkF m 91 #[.val (.ref a), .val (.ref b), .val (.double t), .second, .val (.ref r), .val (.double (FP.dsub FP.dconst1 t)), .second] [(.ref b), (.double ya), (.double (FP.dsub FP.dconst1 t)), (.double yb), (.int (1 : Int32)), (.ref r)])) _
    obtain ⟨T18, X18, e18, st18⟩ := getF X17 hx hZ hown (host := "") (Or.inl (hw _ (List.mem_of_getElem? (i := 18) rfl))) Via.refl e17 fc14 (g := (mkF m 91 #[.val (.ref a), .val (.ref b), .val (.double t), .second, .val (.ref r), .val (.double (FP.dsub FP.dconst1 t)), .second] [(.ref b), (.double ya), (.double (FP.dsub FP.dconst1 t)), (.double yb), (.int (1 : Int32)), (.ref r)])) rfl rfl (hb hby own_d_prog_54_method_2_code_91)
    refine OGo.step st18 ?_
    show OGo p e below (T18.setTop (mkF m 94 #[.val (.ref a), .val (.ref b), .val (.double t), .second, .val (.ref r), .val (.double (FP.dsub FP.dconst1 t)), .second] [(.double yb), (.double ya), (.double (FP.dsub FP.dconst1 t)), (.double yb), (.int (1 : Int32)), (.ref r)])) _
    have hr_ := own_hi hya hyb ht c0_ c1_ d0_ d1_ t0 t1
    refine OGo.step (fun _ kk => XS.dsubS X18.here hx rfl (hb hby own_d_prog_54_method_2_code_94) rfl (own_V_not hr_.1) rfl kk) ?_
    show OGo p e below (T18.setTop (mkF m 95 #[.val (.ref a), .val (.ref b), .val (.double t), .second, .val (.ref r), .val (.double (FP.dsub FP.dconst1 t)), .second] [(.double (FP.dsub ya yb)), (.double (FP.dsub FP.dconst1 t)), (.double yb), (.int (1 : Int32)), (.ref r)])) _
    refine OGo.step (fun _ kk => XS.dmulS X18.here hx rfl (hb hby own_d_prog_54_method_2_code_95) rfl (own_V_not hr_.2.1) rfl kk) ?_
    show OGo p e below (T18.setTop (mkF m 96 #[.val (.ref a), .val (.ref b), .val (.double t), .second, .val (.ref r), .val (.double (FP.dsub FP.dconst1 t)), .second] [(.double (FP.dmul (FP.dsub FP.dconst1 t) (FP.dsub ya yb))), (.double yb), (.int (1 : Int32)), (.ref r)])) _
    refine OGo.step (fun _ kk => XS.daddS X18.here hx rfl (hb hby own_d_prog_54_method_2_code_96) rfl (own_V_not hr_.2.2) rfl kk) ?_
    show OGo p e below (T18.setTop (mkF m 97 #[.val (.ref a), .val (.ref b), .val (.double t), .second, .val (.ref r), .val (.double (FP.dsub FP.dconst1 t)), .second] [(.double (FP.dadd yb (FP.dmul (FP.dsub FP.dconst1 t) (FP.dsub ya yb)))), (.int (1 : Int32)), (.ref r)])) _
    obtain ⟨cA19, A19, q19, S19, M19, H19, G19⟩ := id Va12
    obtain ⟨T20, h20, X20, e20, W20, st20⟩ := stD X18 hx hZ e18 A19 (j := (1 : Int32)) (inb_of S19 ⟨by decide, by decide⟩) (g := (mkF m 97 #[.val (.ref a), .val (.ref b), .val (.double t), .second, .val (.ref r), .val (.double (FP.dsub FP.dconst1 t)), .second] [(.double (FP.dadd yb (FP.dmul (FP.dsub FP.dconst1 t) (FP.dsub ya yb)))), (.int (1 : Int32)), (.ref r)])) rfl rfl (hb hby own_d_prog_54_method_2_code_97)
    refine OGo.step st20 ?_
    show OGo p e below (T20.setTop (mkF m 98 #[.val (.ref a), .val (.ref b), .val (.double t), .second, .val (.ref r), .val (.double (FP.dsub FP.dconst1 t)), .second] [])) _
    have Va19 : Arv Z h20 r kr .double (2 : Int32) [(.double (FP.dadd xb (FP.dmul (FP.dsub FP.dconst1 t) (FP.dsub xa xb)))), (.double (FP.dadd yb (FP.dmul (FP.dsub FP.dconst1 t) (FP.dsub ya yb))))] (.double (FP.l2d 0)) := Arv.set A19 q19 S19 M19 H19 G19 rfl W20 1 rfl (Nat.le_of_ble_eq_true rfl)
    have Nf20 := Fr.snoc X20 Nf13 gr
    have sz20 : n0 ≤ h20.size := by rw [W20.size]; exact sz13
    have HK := (((Keep.refl h0 [r]).wr W13 (Or.inl (List.mem_of_getElem? (i := 0) rfl))).wr W20 (Or.inl (List.mem_of_getElem? (i := 0) rfl)))
    exact own_ret0 X20 hx hlk hret (hb hby own_d_prog_54_method_2_code_98) (by rw [e20]; exact ⟨_, _, rfl, Nf20, HK, Va19, hv_.2.2, hr_.2.2⟩) (by decide) (by decide)
  · refine OGo.step (fun _ kk => XS.ifNo X0.here hx rfl (hb hby own_d_prog_54_method_2_code_5) rfl ((if0 _ _).trans (flt hh).2.2.1) kk) ?_
    show OGo p e below (s₁.setTop (mkF m 8 #[.val (.ref a), .val (.ref b), .val (.double t), .second, .val (.ref r), .unset, .unset] [])) _
    refine OGo.step (fun _ kk => XS.aload X0.here hx rfl (hb hby own_d_prog_54_method_2_code_8) rfl rfl kk) ?_
    show OGo p e below (s₁.setTop (mkF m 10 #[.val (.ref a), .val (.ref b), .val (.double t), .second, .val (.ref r), .unset, .unset] [(.ref r)])) _
    refine OGo.step (fun _ kk => XS.iconst X0.here hx rfl (hb hby own_d_prog_54_method_2_code_10) kk) ?_
    show OGo p e below (s₁.setTop (mkF m 11 #[.val (.ref a), .val (.ref b), .val (.double t), .second, .val (.ref r), .unset, .unset] [(.int (0 : Int32)), (.ref r)])) _
    refine OGo.step (fun _ kk => XS.aloadN X0.here hx rfl (hb hby own_d_prog_54_method_2_code_11) rfl rfl kk) ?_
    show OGo p e below (s₁.setTop (mkF m 12 #[.val (.ref a), .val (.ref b), .val (.double t), .second, .val (.ref r), .unset, .unset] [(.ref a), (.int (0 : Int32)), (.ref r)])) _
    obtain ⟨T21, X21, e21, st21⟩ := getF X0 hx hZ hown (host := "") (Or.inl (hw _ (List.mem_of_getElem? (i := 16) rfl))) Via.refl e0 Va (g := (mkF m 12 #[.val (.ref a), .val (.ref b), .val (.double t), .second, .val (.ref r), .unset, .unset] [(.ref a), (.int (0 : Int32)), (.ref r)])) rfl rfl (hb hby own_d_prog_54_method_2_code_12)
    refine OGo.step st21 ?_
    show OGo p e below (T21.setTop (mkF m 15 #[.val (.ref a), .val (.ref b), .val (.double t), .second, .val (.ref r), .unset, .unset] [(.double xa), (.int (0 : Int32)), (.ref r)])) _
    refine OGo.step (fun _ kk => XS.dloadN X21.here hx rfl (hb hby own_d_prog_54_method_2_code_15) rfl kk) ?_
    show OGo p e below (T21.setTop (mkF m 16 #[.val (.ref a), .val (.ref b), .val (.double t), .second, .val (.ref r), .unset, .unset] [(.double t), (.double xa), (.int (0 : Int32)), (.ref r)])) _
    refine OGo.step (fun _ kk => XS.aloadN X21.here hx rfl (hb hby own_d_prog_54_method_2_code_16) rfl rfl kk) ?_
    show OGo p e below (T21.setTop (mkF m 17 #[.val (.ref a), .val (.ref b), .val (.double t), .second, .val (.ref r), .unset, .unset] [(.ref b), (.double t), (.double xa), (.int (0 : Int32)), (.ref r)])) _
    obtain ⟨T22, X22, e22, st22⟩ := getF X21 hx hZ hown (host := "") (Or.inl (hw _ (List.mem_of_getElem? (i := 16) rfl))) Via.refl e21 Vb (g := (mkF m 17 #[.val (.ref a), .val (.ref b), .val (.double t), .second, .val (.ref r), .unset, .unset] [(.ref b), (.double t), (.double xa), (.int (0 : Int32)), (.ref r)])) rfl rfl (hb hby own_d_prog_54_method_2_code_17)
    refine OGo.step st22 ?_
    show OGo p e below (T22.setTop (mkF m 20 #[.val (.ref a), .val (.ref b), .val (.double t), .second, .val (.ref r), .unset, .unset] [(.double xb), (.double t), (.double xa), (.int (0 : Int32)), (.ref r)])) _
    refine OGo.step (fun _ kk => XS.aloadN X22.here hx rfl (hb hby own_d_prog_54_method_2_code_20) rfl rfl kk) ?_
    show OGo p e below (T22.setTop (mkF m 21 #[.val (.ref a), .val (.ref b), .val (.double t), .second, .val (.ref r), .unset, .unset] [(.ref a), (.double xb), (.double t), (.double xa), (.int (0 : Int32)), (.ref r)])) _
    obtain ⟨T23, X23, e23, st23⟩ := getF X22 hx hZ hown (host := "") (Or.inl (hw _ (List.mem_of_getElem? (i := 16) rfl))) Via.refl e22 Va (g := (mkF m 21 #[.val (.ref a), .val (.ref b), .val (.double t), .second, .val (.ref r), .unset, .unset] [(.ref a), (.double xb), (.double t), (.double xa), (.int (0 : Int32)), (.ref r)])) rfl rfl (hb hby own_d_prog_54_method_2_code_21)
    refine OGo.step st23 ?_
    show OGo p e below (T23.setTop (mkF m 24 #[.val (.ref a), .val (.ref b), .val (.double t), .second, .val (.ref r), .unset, .unset] [(.double xa), (.double xb), (.double t), (.double xa), (.int (0 : Int32)), (.ref r)])) _
    have hv_ := own_lo hxa hxb ht a0_ a1_ b0_ b1_ t0 t1
    refine OGo.step (fun _ kk => XS.dsubS X23.here hx rfl (hb hby own_d_prog_54_method_2_code_24) rfl (own_V_not hv_.1) rfl kk) ?_
    show OGo p e below (T23.setTop (mkF m 25 #[.val (.ref a), .val (.ref b), .val (.double t), .second, .val (.ref r), .unset, .unset] [(.double (FP.dsub xb xa)), (.double t), (.double xa), (.int (0 : Int32)), (.ref r)])) _
    refine OGo.step (fun _ kk => XS.dmulS X23.here hx rfl (hb hby own_d_prog_54_method_2_code_25) rfl (own_V_not hv_.2.1) rfl kk) ?_
    show OGo p e below (T23.setTop (mkF m 26 #[.val (.ref a), .val (.ref b), .val (.double t), .second, .val (.ref r), .unset, .unset] [(.double (FP.dmul t (FP.dsub xb xa))), (.double xa), (.int (0 : Int32)), (.ref r)])) _
    refine OGo.step (fun _ kk => XS.daddS X23.here hx rfl (hb hby own_d_prog_54_method_2_code_26) rfl (own_V_not hv_.2.2) rfl kk) ?_
    show OGo p e below (T23.setTop (mkF m 27 #[.val (.ref a), .val (.ref b), .val (.double t), .second, .val (.ref r), .unset, .unset] [(.double (FP.dadd xa (FP.dmul t (FP.dsub xb xa)))), (.int (0 : Int32)), (.ref r)])) _
    obtain ⟨cA24, A24, q24, S24, M24, H24, G24⟩ := id Vr
    obtain ⟨T25, h25, X25, e25, W25, st25⟩ := stD X23 hx hZ e23 A24 (j := (0 : Int32)) (inb_of S24 ⟨by decide, by decide⟩) (g := (mkF m 27 #[.val (.ref a), .val (.ref b), .val (.double t), .second, .val (.ref r), .unset, .unset] [(.double (FP.dadd xa (FP.dmul t (FP.dsub xb xa)))), (.int (0 : Int32)), (.ref r)])) rfl rfl (hb hby own_d_prog_54_method_2_code_27)
    refine OGo.step st25 ?_
    show OGo p e below (T25.setTop (mkF m 28 #[.val (.ref a), .val (.ref b), .val (.double t), .second, .val (.ref r), .unset, .unset] [])) _
    have Va24 : Arv Z h25 r kr .double (2 : Int32) [(.double (FP.dadd xa (FP.dmul t (FP.dsub xb xa)))), (.double (FP.l2d 0))] (.double (FP.l2d 0)) := Arv.set A24 q24 S24 M24 H24 G24 rfl W25 0 rfl (Nat.le_of_ble_eq_true rfl)
    have Nf25 := Fr.snoc X25 (Fr.nil n0) gr
    have sz25 : n0 ≤ h25.size := by rw [W25.size]; exact Z0
    refine OGo.step (fun _ kk => XS.aload X25.here hx rfl (hb hby own_d_prog_54_method_2_code_28) rfl rfl kk) ?_
    show OGo p e below (T25.setTop (mkF m 30 #[.val (.ref a), .val (.ref b), .val (.double t), .second, .val (.ref r), .unset, .unset] [(.ref r)])) _
    refine OGo.step (fun _ kk => XS.iconst X25.here hx rfl (hb hby own_d_prog_54_method_2_code_30) kk) ?_
    show OGo p e below (T25.setTop (mkF m 31 #[.val (.ref a), .val (.ref b), .val (.double t), .second, .val (.ref r), .unset, .unset] [(.int (1 : Int32)), (.ref r)])) _
    refine OGo.step (fun _ kk => XS.aloadN X25.here hx rfl (hb hby own_d_prog_54_method_2_code_31) rfl rfl kk) ?_
    show OGo p e below (T25.setTop (mkF m 32 #[.val (.ref a), .val (.ref b), .val (.double t), .second, .val (.ref r), .unset, .unset] [(.ref a), (.int (1 : Int32)), (.ref r)])) _
    have fc26 := (Ra.other W25 (Or.inl na))
    obtain ⟨T27, X27, e27, st27⟩ := getF X25 hx hZ hown (host := "") (Or.inl (hw _ (List.mem_of_getElem? (i := 18) rfl))) Via.refl e25 fc26 (g := (mkF m 32 #[.val (.ref a), .val (.ref b), .val (.double t), .second, .val (.ref r), .unset, .unset] [(.ref a), (.int (1 : Int32)), (.ref r)])) rfl rfl (hb hby own_d_prog_54_method_2_code_32)
    refine OGo.step st27 ?_
    show OGo p e below (T27.setTop (mkF m 35 #[.val (.ref a), .val (.ref b), .val (.double t), .second, .val (.ref r), .unset, .unset] [(.double ya), (.int (1 : Int32)), (.ref r)])) _
    refine OGo.step (fun _ kk => XS.dloadN X27.here hx rfl (hb hby own_d_prog_54_method_2_code_35) rfl kk) ?_
    show OGo p e below (T27.setTop (mkF m 36 #[.val (.ref a), .val (.ref b), .val (.double t), .second, .val (.ref r), .unset, .unset] [(.double t), (.double ya), (.int (1 : Int32)), (.ref r)])) _
    refine OGo.step (fun _ kk => XS.aloadN X27.here hx rfl (hb hby own_d_prog_54_method_2_code_36) rfl rfl kk) ?_
    show OGo p e below (T27.setTop (mkF m 37 #[.val (.ref a), .val (.ref b), .val (.double t), .second, .val (.ref r), .unset, .unset] [(.ref b), (.double t), (.double ya), (.int (1 : Int32)), (.ref r)])) _
    have fc28 := (Rb.other W25 (Or.inl nb))
    obtain ⟨T29, X29, e29, st29⟩ := getF X27 hx hZ hown (host := "") (Or.inl (hw _ (List.mem_of_getElem? (i := 18) rfl))) Via.refl e27 fc28 (g := (mkF m 37 #[.val (.ref a), .val (.ref b), .val (.double t), .second, .val (.ref r), .unset, .unset] [(.ref b), (.double t), (.double ya), (.int (1 : Int32)), (.ref r)])) rfl rfl (hb hby own_d_prog_54_method_2_code_37)
    refine OGo.step st29 ?_
    show OGo p e below (T29.setTop (mkF m 40 #[.val (.ref a), .val (.ref b), .val (.double t), .second, .val (.ref r), .unset, .unset] [(.double yb), (.double t), (.double ya), (.int (1 : Int32)), (.ref r)])) _
    refine OGo.step (fun _ kk => XS.aloadN X29.here hx rfl (hb hby own_d_prog_54_method_2_code_40) rfl rfl kk) ?_
    show OGo p e below (T29.setTop (mkF m 41 #[.val (.ref a), .val (.ref b), .val (.double t), .second, .val (.ref r), .unset, .unset] [(.ref a), (.double yb), (.double t), (.double ya), (.int (1 : Int32)), (.ref r)])) _
    obtain ⟨T30, X30, e30, st30⟩ := getF X29 hx hZ hown (host := "") (Or.inl (hw _ (List.mem_of_getElem? (i := 18) rfl))) Via.refl e29 fc26 (g := (mkF m 41 #[.val (.ref a), .val (.ref b), .val (.double t), .second, .val (.ref r), .unset, .unset] [(.ref a), (.double yb), (.double t), (.double ya), (.int (1 : Int32)), (.ref r)])) rfl rfl (hb hby own_d_prog_54_method_2_code_41)
    refine OGo.step st30 ?_
    show OGo p e below (T30.setTop (mkF m 44 #[.val (.ref a), .val (.ref b), .val (.double t), .second, .val (.ref r), .unset, .unset] [(.double ya), (.double yb), (.double t), (.double ya), (.int (1 : Int32)), (.ref r)])) _
    have hr_ := own_lo hya hyb ht c0_ c1_ d0_ d1_ t0 t1
    refine OGo.step (fun _ kk => XS.dsubS X30.here hx rfl (hb hby own_d_prog_54_method_2_code_44) rfl (own_V_not hr_.1) rfl kk) ?_
    show OGo p e below (T30.setTop (mkF m 45 #[.val (.ref a), .val (.ref b), .val (.double t), .second, .val (.ref r), .unset, .unset] [(.double (FP.dsub yb ya)), (.double t), (.double ya), (.int (1 : Int32)), (.ref r)])) _
    refine OGo.step (fun _ kk => XS.dmulS X30.here hx rfl (hb hby own_d_prog_54_method_2_code_45) rfl (own_V_not hr_.2.1) rfl kk) ?_
    show OGo p e below (T30.setTop (mkF m 46 #[.val (.ref a), .val (.ref b), .val (.double t), .second, .val (.ref r), .unset, .unset] [(.double (FP.dmul t (FP.dsub yb ya))), (.double ya), (.int (1 : Int32)), (.ref r)])) _
    refine OGo.step (fun _ kk => XS.daddS X30.here hx rfl (hb hby own_d_prog_54_method_2_code_46) rfl (own_V_not hr_.2.2) rfl kk) ?_
    show OGo p e below (T30.setTop (mkF m 47 #[.val (.ref a), .val (.ref b), .val (.double t), .second, .val (.ref r), .unset, .unset] [(.double (FP.dadd ya (FP.dmul t (FP.dsub yb ya)))), (.int (1 : Int32)), (.ref r)])) _
    obtain ⟨cA31, A31, q31, S31, M31, H31, G31⟩ := id Va24
    obtain ⟨T32, h32, X32, e32, W32, st32⟩ := stD X30 hx hZ e30 A31 (j := (1 : Int32)) (inb_of S31 ⟨by decide, by decide⟩) (g := (mkF m 47 #[.val (.ref a), .val (.ref b), .val (.double t), .second, .val (.ref r), .unset, .unset] [(.double (FP.dadd ya (FP.dmul t (FP.dsub yb ya)))), (.int (1 : Int32)), (.ref r)])) rfl rfl (hb hby own_d_prog_54_method_2_code_47)
    refine OGo.step st32 ?_
    show OGo p e below (T32.setTop (mkF m 48 #[.val (.ref a), .val (.ref b), .val (.double t), .second, .val (.ref r), .unset, .unset] [])) _
    have Va31 : Arv Z h32 r kr .double (2 : Int32) [(.double (FP.dadd xa (FP.dmul t (FP.dsub xb xa)))), (.double (FP.dadd ya (FP.dmul t (FP.dsub yb ya))))] (.double (FP.l2d 0)) := Arv.set A31 q31 S31 M31 H31 G31 rfl W32 1 rfl (Nat.le_of_ble_eq_true rfl)
    have Nf32 := Fr.snoc X32 Nf25 gr
    have sz32 : n0 ≤ h32.size := by rw [W32.size]; exact sz25
    refine OGo.step (fun _ kk => XS.goto X32.here hx rfl (pc0 := 48) (pc' := 98) rfl (hb hby own_d_prog_54_method_2_code_48) (by decide) (by decide) kk) ?_
    show OGo p e below (T32.setTop (mkF m 98 #[.val (.ref a), .val (.ref b), .val (.double t), .second, .val (.ref r), .unset, .unset] [])) _
    have HK := (((Keep.refl h0 [r]).wr W25 (Or.inl (List.mem_of_getElem? (i := 0) rfl))).wr W32 (Or.inl (List.mem_of_getElem? (i := 0) rfl)))
    exact own_ret0 X32 hx hlk hret (hb hby own_d_prog_54_method_2_code_98) (by rw [e32]; exact ⟨_, _, rfl, Nf32, HK, Va31, hv_.2.2, hr_.2.2⟩) (by decide) (by decide)

set_option maxRecDepth 65536 in
set_option maxHeartbeats 40000000 in
theorem own_rm0 (l : Launch) (Z : State) (a0 : Array Value) (hw : ∀ d ∈ tables_1, d.before a0 Z = true) (ws : List Jvm.Cond) (p1 p2 p3 p4 p5 : Int32) (h0 : Heap) (n0 : Nat) (Z0 : n0 ≤ h0.size)  :
    OMet l Z x code maxLocals ret ws room_1 #[(.int p1), (.int p2), (.int p3), (.int p4), (.int p5)] h0 (fun v h L => v = some (.int (1 : Int32)) ∧ Fr n0 L) := by
  refine OMet.body (plainFor_of_name own_pn2) ?_
  intro p e s m below meth c s₁ hx hby hml hown hnm hret hlk hZ X0 e0
  have hml : c.maxLocals = 19 := hml
  refine OGo.step (fun _ kk => castTop (show entryFrame m #[(.int p1), (.int p2), (.int p3), (.int p4), (.int p5)] maxLocals = (mkF m 0 #[.val (.int p1), .val (.int p2), .val (.int p3), .val (.int p4), .val (.int p5), .unset, .unset, .unset, .unset, .unset, .unset, .unset, .unset, .unset, .unset, .unset, .unset, .unset, .unset] []) from by first | (simp [entryFrame, mkF, argsToLocals, Value.category, maxLocals]; done) | rfl) kk) ?_
  show OGo p e below (s₁.setTop (mkF m 0 #[.val (.int p1), .val (.int p2), .val (.int p3), .val (.int p4), .val (.int p5), .unset, .unset, .unset, .unset, .unset, .unset, .unset, .unset, .unset, .unset, .unset, .unset, .unset, .unset] [])) _
  refine OGo.step (fun _ kk => XS.iloadN X0.here hx rfl (hb hby at_0) rfl kk) ?_
  show OGo p e below (s₁.setTop (mkF m 1 #[.val (.int p1), .val (.int p2), .val (.int p3), .val (.int p4), .val (.int p5), .unset, .unset, .unset, .unset, .unset, .unset, .unset, .unset, .unset, .unset, .unset, .unset, .unset, .unset] [(.int p1)])) _
  refine OGo.step (fun _ kk => X0.ldcInt hx hown (mvT hZ (hw _ (List.mem_of_getElem? (i := 0) rfl))) (g := (mkF m 1 #[.val (.int p1), .val (.int p2), .val (.int p3), .val (.int p4), .val (.int p5), .unset, .unset, .unset, .unset, .unset, .unset, .unset, .unset, .unset, .unset, .unset, .unset, .unset, .unset] [(.int p1)])) rfl (hb hby at_1) _ kk) ?_
  show OGo p e below (s₁.setTop (mkF m 3 #[.val (.int p1), .val (.int p2), .val (.int p3), .val (.int p4), .val (.int p5), .unset, .unset, .unset, .unset, .unset, .unset, .unset, .unset, .unset, .unset, .unset, .unset, .unset, .unset] [(.int (2147483647 : Int32)), (.int p1)])) _
  refine OGo.step (fun _ kk => XS.iand X0.here hx rfl (hb hby at_3) rfl kk) ?_
  show OGo p e below (s₁.setTop (mkF m 4 #[.val (.int p1), .val (.int p2), .val (.int p3), .val (.int p4), .val (.int p5), .unset, .unset, .unset, .unset, .unset, .unset, .unset, .unset, .unset, .unset, .unset, .unset, .unset, .unset] [(.int (p1 &&& (2147483647 : Int32)))])) _
  refine OGo.step (fun _ kk => XS.sipush X0.here hx rfl (hb hby at_4) kk) ?_
  show OGo p e below (s₁.setTop (mkF m 7 #[.val (.int p1), .val (.int p2), .val (.int p3), .val (.int p4), .val (.int p5), .unset, .unset, .unset, .unset, .unset, .unset, .unset, .unset, .unset, .unset, .unset, .unset, .unset, .unset] [(.int (257 : Int32)), (.int (p1 &&& (2147483647 : Int32)))])) _
  refine OGo.step (fun _ kk => Jvm.RoadKit.iremM X0 hx rfl (hb hby at_7) rfl (by decide) kk) ?_
  show OGo p e below (s₁.setTop (mkF m 8 #[.val (.int p1), .val (.int p2), .val (.int p3), .val (.int p4), .val (.int p5), .unset, .unset, .unset, .unset, .unset, .unset, .unset, .unset, .unset, .unset, .unset, .unset, .unset, .unset] [(.int ((p1 &&& (2147483647 : Int32)) % (257 : Int32)))])) _
  obtain ⟨k0_, hn0, en0⟩ := own_remN p1 257 (by decide) (by decide)
  rw [show Int32.ofNat 257 = (257 : Int32) from rfl] at en0
  rw [en0]
  show OGo p e below (s₁.setTop (mkF m 8 #[.val (.int p1), .val (.int p2), .val (.int p3), .val (.int p4), .val (.int p5), .unset, .unset, .unset, .unset, .unset, .unset, .unset, .unset, .unset, .unset, .unset, .unset, .unset, .unset] [(.int (Int32.ofNat k0_))])) _
  refine OGo.step (fun _ kk => XS.istore X0.here hx rfl (hb hby at_8) rfl (l' := #[.val (.int p1), .val (.int p2), .val (.int p3), .val (.int p4), .val (.int p5), .val (.int (Int32.ofNat k0_)), .unset, .unset, .unset, .unset, .unset, .unset, .unset, .unset, .unset, .unset, .unset, .unset, .unset]) rfl kk) ?_
  show OGo p e below (s₁.setTop (mkF m 10 #[.val (.int p1), .val (.int p2), .val (.int p3), .val (.int p4), .val (.int p5), .val (.int (Int32.ofNat k0_)), .unset, .unset, .unset, .unset, .unset, .unset, .unset, .unset, .unset, .unset, .unset, .unset, .unset] [])) _
  refine OGo.step (fun _ kk => XS.iloadN X0.here hx rfl (hb hby at_10) rfl kk) ?_
  show OGo p e below (s₁.setTop (mkF m 11 #[.val (.int p1), .val (.int p2), .val (.int p3), .val (.int p4), .val (.int p5), .val (.int (Int32.ofNat k0_)), .unset, .unset, .unset, .unset, .unset, .unset, .unset, .unset, .unset, .unset, .unset, .unset, .unset] [(.int p2)])) _
  refine OGo.step (fun _ kk => X0.ldcInt hx hown (mvT hZ (hw _ (List.mem_of_getElem? (i := 0) rfl))) (g := (mkF m 11 #[.val (.int p1), .val (.int p2), .val (.int p3), .val (.int p4), .val (.int p5), .val (.int (Int32.ofNat k0_)), .unset, .unset, .unset, .unset, .unset, .unset, .unset, .unset, .unset, .unset, .unset, .unset, .unset] [(.int p2)])) rfl (hb hby at_11) _ kk) ?_
  show OGo p e below (s₁.setTop (mkF m 13 #[.val (.int p1), .val (.int p2), .val (.int p3), .val (.int p4), .val (.int p5), .val (.int (Int32.ofNat k0_)), .unset, .unset, .unset, .unset, .unset, .unset, .unset, .unset, .unset, .unset, .unset, .unset, .unset] [(.int (2147483647 : Int32)), (.int p2)])) _
  refine OGo.step (fun _ kk => XS.iand X0.here hx rfl (hb hby at_13) rfl kk) ?_
  show OGo p e below (s₁.setTop (mkF m 14 #[.val (.int p1), .val (.int p2), .val (.int p3), .val (.int p4), .val (.int p5), .val (.int (Int32.ofNat k0_)), .unset, .unset, .unset, .unset, .unset, .unset, .unset, .unset, .unset, .unset, .unset, .unset, .unset] [(.int (p2 &&& (2147483647 : Int32)))])) _
  refine OGo.step (fun _ kk => XS.sipush X0.here hx rfl (hb hby at_14) kk) ?_
  show OGo p e below (s₁.setTop (mkF m 17 #[.val (.int p1), .val (.int p2), .val (.int p3), .val (.int p4), .val (.int p5), .val (.int (Int32.ofNat k0_)), .unset, .unset, .unset, .unset, .unset, .unset, .unset, .unset, .unset, .unset, .unset, .unset, .unset] [(.int (257 : Int32)), (.int (p2 &&& (2147483647 : Int32)))])) _
  refine OGo.step (fun _ kk => Jvm.RoadKit.iremM X0 hx rfl (hb hby at_17) rfl (by decide) kk) ?_
  show OGo p e below (s₁.setTop (mkF m 18 #[.val (.int p1), .val (.int p2), .val (.int p3), .val (.int p4), .val (.int p5), .val (.int (Int32.ofNat k0_)), .unset, .unset, .unset, .unset, .unset, .unset, .unset, .unset, .unset, .unset, .unset, .unset, .unset] [(.int ((p2 &&& (2147483647 : Int32)) % (257 : Int32)))])) _
  obtain ⟨k1_, hn1, en1⟩ := own_remN p2 257 (by decide) (by decide)
  rw [show Int32.ofNat 257 = (257 : Int32) from rfl] at en1
  rw [en1]
  show OGo p e below (s₁.setTop (mkF m 18 #[.val (.int p1), .val (.int p2), .val (.int p3), .val (.int p4), .val (.int p5), .val (.int (Int32.ofNat k0_)), .unset, .unset, .unset, .unset, .unset, .unset, .unset, .unset, .unset, .unset, .unset, .unset, .unset] [(.int (Int32.ofNat k1_))])) _
  refine OGo.step (fun _ kk => XS.istore X0.here hx rfl (hb hby at_18) rfl (l' := #[.val (.int p1), .val (.int p2), .val (.int p3), .val (.int p4), .val (.int p5), .val (.int (Int32.ofNat k0_)), .val (.int (Int32.ofNat k1_)), .unset, .unset, .unset, .unset, .unset, .unset, .unset, .unset, .unset, .unset, .unset, .unset]) rfl kk) ?_
  show OGo p e below (s₁.setTop (mkF m 20 #[.val (.int p1), .val (.int p2), .val (.int p3), .val (.int p4), .val (.int p5), .val (.int (Int32.ofNat k0_)), .val (.int (Int32.ofNat k1_)), .unset, .unset, .unset, .unset, .unset, .unset, .unset, .unset, .unset, .unset, .unset, .unset] [])) _
  refine OGo.step (fun _ kk => XS.iloadN X0.here hx rfl (hb hby at_20) rfl kk) ?_
  show OGo p e below (s₁.setTop (mkF m 21 #[.val (.int p1), .val (.int p2), .val (.int p3), .val (.int p4), .val (.int p5), .val (.int (Int32.ofNat k0_)), .val (.int (Int32.ofNat k1_)), .unset, .unset, .unset, .unset, .unset, .unset, .unset, .unset, .unset, .unset, .unset, .unset] [(.int p3)])) _
  refine OGo.step (fun _ kk => X0.ldcInt hx hown (mvT hZ (hw _ (List.mem_of_getElem? (i := 0) rfl))) (g := (mkF m 21 #[.val (.int p1), .val (.int p2), .val (.int p3), .val (.int p4), .val (.int p5), .val (.int (Int32.ofNat k0_)), .val (.int (Int32.ofNat k1_)), .unset, .unset, .unset, .unset, .unset, .unset, .unset, .unset, .unset, .unset, .unset, .unset] [(.int p3)])) rfl (hb hby at_21) _ kk) ?_
  show OGo p e below (s₁.setTop (mkF m 23 #[.val (.int p1), .val (.int p2), .val (.int p3), .val (.int p4), .val (.int p5), .val (.int (Int32.ofNat k0_)), .val (.int (Int32.ofNat k1_)), .unset, .unset, .unset, .unset, .unset, .unset, .unset, .unset, .unset, .unset, .unset, .unset] [(.int (2147483647 : Int32)), (.int p3)])) _
  refine OGo.step (fun _ kk => XS.iand X0.here hx rfl (hb hby at_23) rfl kk) ?_
  show OGo p e below (s₁.setTop (mkF m 24 #[.val (.int p1), .val (.int p2), .val (.int p3), .val (.int p4), .val (.int p5), .val (.int (Int32.ofNat k0_)), .val (.int (Int32.ofNat k1_)), .unset, .unset, .unset, .unset, .unset, .unset, .unset, .unset, .unset, .unset, .unset, .unset] [(.int (p3 &&& (2147483647 : Int32)))])) _
  refine OGo.step (fun _ kk => XS.sipush X0.here hx rfl (hb hby at_24) kk) ?_
  show OGo p e below (s₁.setTop (mkF m 27 #[.val (.int p1), .val (.int p2), .val (.int p3), .val (.int p4), .val (.int p5), .val (.int (Int32.ofNat k0_)), .val (.int (Int32.ofNat k1_)), .unset, .unset, .unset, .unset, .unset, .unset, .unset, .unset, .unset, .unset, .unset, .unset] [(.int (257 : Int32)), (.int (p3 &&& (2147483647 : Int32)))])) _
  refine OGo.step (fun _ kk => Jvm.RoadKit.iremM X0 hx rfl (hb hby at_27) rfl (by decide) kk) ?_
  show OGo p e below (s₁.setTop (mkF m 28 #[.val (.int p1), .val (.int p2), .val (.int p3), .val (.int p4), .val (.int p5), .val (.int (Int32.ofNat k0_)), .val (.int (Int32.ofNat k1_)), .unset, .unset, .unset, .unset, .unset, .unset, .unset, .unset, .unset, .unset, .unset, .unset] [(.int ((p3 &&& (2147483647 : Int32)) % (257 : Int32)))])) _
  obtain ⟨k2_, hn2, en2⟩ := own_remN p3 257 (by decide) (by decide)
  rw [show Int32.ofNat 257 = (257 : Int32) from rfl] at en2
  rw [en2]
  show OGo p e below (s₁.setTop (mkF m 28 #[.val (.int p1), .val (.int p2), .val (.int p3), .val (.int p4), .val (.int p5), .val (.int (Int32.ofNat k0_)), .val (.int (Int32.ofNat k1_)), .unset, .unset, .unset, .unset, .unset, .unset, .unset, .unset, .unset, .unset, .unset, .unset] [(.int (Int32.ofNat k2_))])) _
  refine OGo.step (fun _ kk => XS.istore X0.here hx rfl (hb hby at_28) rfl (l' := #[.val (.int p1), .val (.int p2), .val (.int p3), .val (.int p4), .val (.int p5), .val (.int (Int32.ofNat k0_)), .val (.int (Int32.ofNat k1_)), .val (.int (Int32.ofNat k2_)), .unset, .unset, .unset, .unset, .unset, .unset, .unset, .unset, .unset, .unset, .unset]) rfl kk) ?_
  show OGo p e below (s₁.setTop (mkF m 30 #[.val (.int p1), .val (.int p2), .val (.int p3), .val (.int p4), .val (.int p5), .val (.int (Int32.ofNat k0_)), .val (.int (Int32.ofNat k1_)), .val (.int (Int32.ofNat k2_)), .unset, .unset, .unset, .unset, .unset, .unset, .unset, .unset, .unset, .unset, .unset] [])) _
  refine OGo.step (fun _ kk => XS.iloadN X0.here hx rfl (hb hby at_30) rfl kk) ?_
  show OGo p e below (s₁.setTop (mkF m 31 #[.val (.int p1), .val (.int p2), .val (.int p3), .val (.int p4), .val (.int p5), .val (.int (Int32.ofNat k0_)), .val (.int (Int32.ofNat k1_)), .val (.int (Int32.ofNat k2_)), .unset, .unset, .unset, .unset, .unset, .unset, .unset, .unset, .unset, .unset, .unset] [(.int p4)])) _
  refine OGo.step (fun _ kk => X0.ldcInt hx hown (mvT hZ (hw _ (List.mem_of_getElem? (i := 0) rfl))) (g := (mkF m 31 #[.val (.int p1), .val (.int p2), .val (.int p3), .val (.int p4), .val (.int p5), .val (.int (Int32.ofNat k0_)), .val (.int (Int32.ofNat k1_)), .val (.int (Int32.ofNat k2_)), .unset, .unset, .unset, .unset, .unset, .unset, .unset, .unset, .unset, .unset, .unset] [(.int p4)])) rfl (hb hby at_31) _ kk) ?_
  show OGo p e below (s₁.setTop (mkF m 33 #[.val (.int p1), .val (.int p2), .val (.int p3), .val (.int p4), .val (.int p5), .val (.int (Int32.ofNat k0_)), .val (.int (Int32.ofNat k1_)), .val (.int (Int32.ofNat k2_)), .unset, .unset, .unset, .unset, .unset, .unset, .unset, .unset, .unset, .unset, .unset] [(.int (2147483647 : Int32)), (.int p4)])) _
  refine OGo.step (fun _ kk => XS.iand X0.here hx rfl (hb hby at_33) rfl kk) ?_
  show OGo p e below (s₁.setTop (mkF m 34 #[.val (.int p1), .val (.int p2), .val (.int p3), .val (.int p4), .val (.int p5), .val (.int (Int32.ofNat k0_)), .val (.int (Int32.ofNat k1_)), .val (.int (Int32.ofNat k2_)), .unset, .unset, .unset, .unset, .unset, .unset, .unset, .unset, .unset, .unset, .unset] [(.int (p4 &&& (2147483647 : Int32)))])) _
  refine OGo.step (fun _ kk => XS.sipush X0.here hx rfl (hb hby at_34) kk) ?_
  show OGo p e below (s₁.setTop (mkF m 37 #[.val (.int p1), .val (.int p2), .val (.int p3), .val (.int p4), .val (.int p5), .val (.int (Int32.ofNat k0_)), .val (.int (Int32.ofNat k1_)), .val (.int (Int32.ofNat k2_)), .unset, .unset, .unset, .unset, .unset, .unset, .unset, .unset, .unset, .unset, .unset] [(.int (257 : Int32)), (.int (p4 &&& (2147483647 : Int32)))])) _
  refine OGo.step (fun _ kk => Jvm.RoadKit.iremM X0 hx rfl (hb hby at_37) rfl (by decide) kk) ?_
  show OGo p e below (s₁.setTop (mkF m 38 #[.val (.int p1), .val (.int p2), .val (.int p3), .val (.int p4), .val (.int p5), .val (.int (Int32.ofNat k0_)), .val (.int (Int32.ofNat k1_)), .val (.int (Int32.ofNat k2_)), .unset, .unset, .unset, .unset, .unset, .unset, .unset, .unset, .unset, .unset, .unset] [(.int ((p4 &&& (2147483647 : Int32)) % (257 : Int32)))])) _
  obtain ⟨k3_, hn3, en3⟩ := own_remN p4 257 (by decide) (by decide)
  rw [show Int32.ofNat 257 = (257 : Int32) from rfl] at en3
  rw [en3]
  show OGo p e below (s₁.setTop (mkF m 38 #[.val (.int p1), .val (.int p2), .val (.int p3), .val (.int p4), .val (.int p5), .val (.int (Int32.ofNat k0_)), .val (.int (Int32.ofNat k1_)), .val (.int (Int32.ofNat k2_)), .unset, .unset, .unset, .unset, .unset, .unset, .unset, .unset, .unset, .unset, .unset] [(.int (Int32.ofNat k3_))])) _
  refine OGo.step (fun _ kk => XS.istore X0.here hx rfl (hb hby at_38) rfl (l' := #[.val (.int p1), .val (.int p2), .val (.int p3), .val (.int p4), .val (.int p5), .val (.int (Int32.ofNat k0_)), .val (.int (Int32.ofNat k1_)), .val (.int (Int32.ofNat k2_)), .val (.int (Int32.ofNat k3_)), .unset, .unset, .unset, .unset, .unset, .unset, .unset, .unset, .unset, .unset]) rfl kk) ?_
  show OGo p e below (s₁.setTop (mkF m 40 #[.val (.int p1), .val (.int p2), .val (.int p3), .val (.int p4), .val (.int p5), .val (.int (Int32.ofNat k0_)), .val (.int (Int32.ofNat k1_)), .val (.int (Int32.ofNat k2_)), .val (.int (Int32.ofNat k3_)), .unset, .unset, .unset, .unset, .unset, .unset, .unset, .unset, .unset, .unset] [])) _
  refine OGo.step (fun _ kk => XS.iload X0.here hx rfl (hb hby at_40) rfl kk) ?_
  show OGo p e below (s₁.setTop (mkF m 42 #[.val (.int p1), .val (.int p2), .val (.int p3), .val (.int p4), .val (.int p5), .val (.int (Int32.ofNat k0_)), .val (.int (Int32.ofNat k1_)), .val (.int (Int32.ofNat k2_)), .val (.int (Int32.ofNat k3_)), .unset, .unset, .unset, .unset, .unset, .unset, .unset, .unset, .unset, .unset] [(.int p5)])) _
  refine OGo.step (fun _ kk => X0.ldcInt hx hown (mvT hZ (hw _ (List.mem_of_getElem? (i := 0) rfl))) (g := (mkF m 42 #[.val (.int p1), .val (.int p2), .val (.int p3), .val (.int p4), .val (.int p5), .val (.int (Int32.ofNat k0_)), .val (.int (Int32.ofNat k1_)), .val (.int (Int32.ofNat k2_)), .val (.int (Int32.ofNat k3_)), .unset, .unset, .unset, .unset, .unset, .unset, .unset, .unset, .unset, .unset] [(.int p5)])) rfl (hb hby at_42) _ kk) ?_
  show OGo p e below (s₁.setTop (mkF m 44 #[.val (.int p1), .val (.int p2), .val (.int p3), .val (.int p4), .val (.int p5), .val (.int (Int32.ofNat k0_)), .val (.int (Int32.ofNat k1_)), .val (.int (Int32.ofNat k2_)), .val (.int (Int32.ofNat k3_)), .unset, .unset, .unset, .unset, .unset, .unset, .unset, .unset, .unset, .unset] [(.int (2147483647 : Int32)), (.int p5)])) _
  refine OGo.step (fun _ kk => XS.iand X0.here hx rfl (hb hby at_44) rfl kk) ?_
  show OGo p e below (s₁.setTop (mkF m 45 #[.val (.int p1), .val (.int p2), .val (.int p3), .val (.int p4), .val (.int p5), .val (.int (Int32.ofNat k0_)), .val (.int (Int32.ofNat k1_)), .val (.int (Int32.ofNat k2_)), .val (.int (Int32.ofNat k3_)), .unset, .unset, .unset, .unset, .unset, .unset, .unset, .unset, .unset, .unset] [(.int (p5 &&& (2147483647 : Int32)))])) _
  refine OGo.step (fun _ kk => XS.sipush X0.here hx rfl (hb hby at_45) kk) ?_
  show OGo p e below (s₁.setTop (mkF m 48 #[.val (.int p1), .val (.int p2), .val (.int p3), .val (.int p4), .val (.int p5), .val (.int (Int32.ofNat k0_)), .val (.int (Int32.ofNat k1_)), .val (.int (Int32.ofNat k2_)), .val (.int (Int32.ofNat k3_)), .unset, .unset, .unset, .unset, .unset, .unset, .unset, .unset, .unset, .unset] [(.int (1025 : Int32)), (.int (p5 &&& (2147483647 : Int32)))])) _
  refine OGo.step (fun _ kk => Jvm.RoadKit.iremM X0 hx rfl (hb hby at_48) rfl (by decide) kk) ?_
  show OGo p e below (s₁.setTop (mkF m 49 #[.val (.int p1), .val (.int p2), .val (.int p3), .val (.int p4), .val (.int p5), .val (.int (Int32.ofNat k0_)), .val (.int (Int32.ofNat k1_)), .val (.int (Int32.ofNat k2_)), .val (.int (Int32.ofNat k3_)), .unset, .unset, .unset, .unset, .unset, .unset, .unset, .unset, .unset, .unset] [(.int ((p5 &&& (2147483647 : Int32)) % (1025 : Int32)))])) _
  obtain ⟨k4_, hn4, en4⟩ := own_remN p5 1025 (by decide) (by decide)
  rw [show Int32.ofNat 1025 = (1025 : Int32) from rfl] at en4
  rw [en4]
  show OGo p e below (s₁.setTop (mkF m 49 #[.val (.int p1), .val (.int p2), .val (.int p3), .val (.int p4), .val (.int p5), .val (.int (Int32.ofNat k0_)), .val (.int (Int32.ofNat k1_)), .val (.int (Int32.ofNat k2_)), .val (.int (Int32.ofNat k3_)), .unset, .unset, .unset, .unset, .unset, .unset, .unset, .unset, .unset, .unset] [(.int (Int32.ofNat k4_))])) _
  refine OGo.step (fun _ kk => XS.istore X0.here hx rfl (hb hby at_49) rfl (l' := #[.val (.int p1), .val (.int p2), .val (.int p3), .val (.int p4), .val (.int p5), .val (.int (Int32.ofNat k0_)), .val (.int (Int32.ofNat k1_)), .val (.int (Int32.ofNat k2_)), .val (.int (Int32.ofNat k3_)), .val (.int (Int32.ofNat k4_)), .unset, .unset, .unset, .unset, .unset, .unset, .unset, .unset, .unset]) rfl kk) ?_
  show OGo p e below (s₁.setTop (mkF m 51 #[.val (.int p1), .val (.int p2), .val (.int p3), .val (.int p4), .val (.int p5), .val (.int (Int32.ofNat k0_)), .val (.int (Int32.ofNat k1_)), .val (.int (Int32.ofNat k2_)), .val (.int (Int32.ofNat k3_)), .val (.int (Int32.ofNat k4_)), .unset, .unset, .unset, .unset, .unset, .unset, .unset, .unset, .unset] [])) _
  obtain ⟨T33, h33, X33, e33, E33, A33, D33, U33, st33⟩ := newO X0 hx hZ hown (hw _ (List.mem_of_getElem? (i := 1) rfl)) (hw _ (List.mem_of_getElem? (i := 2) rfl)) (hw _ (List.mem_of_getElem? (i := 3) rfl)) e0 (g := (mkF m 51 #[.val (.int p1), .val (.int p2), .val (.int p3), .val (.int p4), .val (.int p5), .val (.int (Int32.ofNat k0_)), .val (.int (Int32.ofNat k1_)), .val (.int (Int32.ofNat k2_)), .val (.int (Int32.ofNat k3_)), .val (.int (Int32.ofNat k4_)), .unset, .unset, .unset, .unset, .unset, .unset, .unset, .unset, .unset] [])) rfl (hb hby at_51) (by decide) (by decide)
  obtain ⟨m1, g33⟩ : ∃ z, z = h0.size := ⟨_, rfl⟩
  rw [← g33] at A33 D33 U33 st33
  refine OGo.step st33 ?_
  show OGo p e below (T33.setTop (mkF m 54 #[.val (.int p1), .val (.int p2), .val (.int p3), .val (.int p4), .val (.int p5), .val (.int (Int32.ofNat k0_)), .val (.int (Int32.ofNat k1_)), .val (.int (Int32.ofNat k2_)), .val (.int (Int32.ofNat k3_)), .val (.int (Int32.ofNat k4_)), .unset, .unset, .unset, .unset, .unset, .unset, .unset, .unset, .unset] [(.ref m1)])) _
  have gf_m1 : n0 ≤ m1 := Nat.le_trans Z0 (Nat.le_of_eq g33.symm)
  have sz33 : n0 ≤ h33.size := Nat.le_trans Z0 E33.1
  have F33_value : Fld Z h33 m1 "com/example/haze_to_match/hazetomatch/Membership" "value" "D" (.double (0 : UInt64)) := D33 (Or.inr (hw _ (List.mem_of_getElem? (i := 17) rfl))) (ty := .double) (by decide)
  have F33_rest : Fld Z h33 m1 "com/example/haze_to_match/hazetomatch/Membership" "rest" "D" (.double (0 : UInt64)) := D33 (Or.inr (hw _ (List.mem_of_getElem? (i := 19) rfl))) (ty := .double) (by decide)
  refine OGo.step (fun _ kk => XS.dup X33.here hx rfl (hb hby at_54) rfl rfl kk) ?_
  show OGo p e below (T33.setTop (mkF m 55 #[.val (.int p1), .val (.int p2), .val (.int p3), .val (.int p4), .val (.int p5), .val (.int (Int32.ofNat k0_)), .val (.int (Int32.ofNat k1_)), .val (.int (Int32.ofNat k2_)), .val (.int (Int32.ofNat k3_)), .val (.int (Int32.ofNat k4_)), .unset, .unset, .unset, .unset, .unset, .unset, .unset, .unset, .unset] [(.ref m1), (.ref m1)])) _
  refine OGo.step (fun _ kk => XS.iload X33.here hx rfl (hb hby at_55) rfl kk) ?_
  show OGo p e below (T33.setTop (mkF m 57 #[.val (.int p1), .val (.int p2), .val (.int p3), .val (.int p4), .val (.int p5), .val (.int (Int32.ofNat k0_)), .val (.int (Int32.ofNat k1_)), .val (.int (Int32.ofNat k2_)), .val (.int (Int32.ofNat k3_)), .val (.int (Int32.ofNat k4_)), .unset, .unset, .unset, .unset, .unset, .unset, .unset, .unset, .unset] [(.int (Int32.ofNat k0_)), (.ref m1), (.ref m1)])) _
  refine OGo.step (fun _ kk => XS.i2dS X33.here hx rfl (hb hby at_57) rfl rfl kk) ?_
  show OGo p e below (T33.setTop (mkF m 58 #[.val (.int p1), .val (.int p2), .val (.int p3), .val (.int p4), .val (.int p5), .val (.int (Int32.ofNat k0_)), .val (.int (Int32.ofNat k1_)), .val (.int (Int32.ofNat k2_)), .val (.int (Int32.ofNat k3_)), .val (.int (Int32.ofNat k4_)), .unset, .unset, .unset, .unset, .unset, .unset, .unset, .unset, .unset] [(.double (FP.i2d (Int32.ofNat k0_))), (.ref m1), (.ref m1)])) _
  refine OGo.step (fun _ kk => X33.ldc2DoubleC hx hown (mvT hZ (hw _ (List.mem_of_getElem? (i := 4) rfl))) (g := (mkF m 58 #[.val (.int p1), .val (.int p2), .val (.int p3), .val (.int p4), .val (.int p5), .val (.int (Int32.ofNat k0_)), .val (.int (Int32.ofNat k1_)), .val (.int (Int32.ofNat k2_)), .val (.int (Int32.ofNat k3_)), .val (.int (Int32.ofNat k4_)), .unset, .unset, .unset, .unset, .unset, .unset, .unset, .unset, .unset] [(.double (FP.i2d (Int32.ofNat k0_))), (.ref m1), (.ref m1)])) rfl (hb hby at_58) _ kk) ?_
  show OGo p e below (T33.setTop (mkF m 61 #[.val (.int p1), .val (.int p2), .val (.int p3), .val (.int p4), .val (.int p5), .val (.int (Int32.ofNat k0_)), .val (.int (Int32.ofNat k1_)), .val (.int (Int32.ofNat k2_)), .val (.int (Int32.ofNat k3_)), .val (.int (Int32.ofNat k4_)), .unset, .unset, .unset, .unset, .unset, .unset, .unset, .unset, .unset] [(.double (4643211215818981376 : UInt64)), (.double (FP.i2d (Int32.ofNat k0_))), (.ref m1), (.ref m1)])) _
  refine OGo.step (fun _ kk => XS.ddivS X33.here hx rfl (hb hby at_61) rfl (own_V_not (own_q8 hn0)) rfl kk) ?_
  show OGo p e below (T33.setTop (mkF m 62 #[.val (.int p1), .val (.int p2), .val (.int p3), .val (.int p4), .val (.int p5), .val (.int (Int32.ofNat k0_)), .val (.int (Int32.ofNat k1_)), .val (.int (Int32.ofNat k2_)), .val (.int (Int32.ofNat k3_)), .val (.int (Int32.ofNat k4_)), .unset, .unset, .unset, .unset, .unset, .unset, .unset, .unset, .unset] [(.double (FP.ddiv (FP.i2d (Int32.ofNat k0_)) (4643211215818981376 : UInt64))), (.ref m1), (.ref m1)])) _
  refine OGo.step (fun _ kk => XS.iload X33.here hx rfl (hb hby at_62) rfl kk) ?_
  show OGo p e below (T33.setTop (mkF m 64 #[.val (.int p1), .val (.int p2), .val (.int p3), .val (.int p4), .val (.int p5), .val (.int (Int32.ofNat k0_)), .val (.int (Int32.ofNat k1_)), .val (.int (Int32.ofNat k2_)), .val (.int (Int32.ofNat k3_)), .val (.int (Int32.ofNat k4_)), .unset, .unset, .unset, .unset, .unset, .unset, .unset, .unset, .unset] [(.int (Int32.ofNat k1_)), (.double (FP.ddiv (FP.i2d (Int32.ofNat k0_)) (4643211215818981376 : UInt64))), (.ref m1), (.ref m1)])) _
  refine OGo.step (fun _ kk => XS.i2dS X33.here hx rfl (hb hby at_64) rfl rfl kk) ?_
  show OGo p e below (T33.setTop (mkF m 65 #[.val (.int p1), .val (.int p2), .val (.int p3), .val (.int p4), .val (.int p5), .val (.int (Int32.ofNat k0_)), .val (.int (Int32.ofNat k1_)), .val (.int (Int32.ofNat k2_)), .val (.int (Int32.ofNat k3_)), .val (.int (Int32.ofNat k4_)), .unset, .unset, .unset, .unset, .unset, .unset, .unset, .unset, .unset] [(.double (FP.i2d (Int32.ofNat k1_))), (.double (FP.ddiv (FP.i2d (Int32.ofNat k0_)) (4643211215818981376 : UInt64))), (.ref m1), (.ref m1)])) _
  refine OGo.step (fun _ kk => X33.ldc2DoubleC hx hown (mvT hZ (hw _ (List.mem_of_getElem? (i := 4) rfl))) (g := (mkF m 65 #[.val (.int p1), .val (.int p2), .val (.int p3), .val (.int p4), .val (.int p5), .val (.int (Int32.ofNat k0_)), .val (.int (Int32.ofNat k1_)), .val (.int (Int32.ofNat k2_)), .val (.int (Int32.ofNat k3_)), .val (.int (Int32.ofNat k4_)), .unset, .unset, .unset, .unset, .unset, .unset, .unset, .unset, .unset] [(.double (FP.i2d (Int32.ofNat k1_))), (.double (FP.ddiv (FP.i2d (Int32.ofNat k0_)) (4643211215818981376 : UInt64))), (.ref m1), (.ref m1)])) rfl (hb hby at_65) _ kk) ?_
  show OGo p e below (T33.setTop (mkF m 68 #[.val (.int p1), .val (.int p2), .val (.int p3), .val (.int p4), .val (.int p5), .val (.int (Int32.ofNat k0_)), .val (.int (Int32.ofNat k1_)), .val (.int (Int32.ofNat k2_)), .val (.int (Int32.ofNat k3_)), .val (.int (Int32.ofNat k4_)), .unset, .unset, .unset, .unset, .unset, .unset, .unset, .unset, .unset] [(.double (4643211215818981376 : UInt64)), (.double (FP.i2d (Int32.ofNat k1_))), (.double (FP.ddiv (FP.i2d (Int32.ofNat k0_)) (4643211215818981376 : UInt64))), (.ref m1), (.ref m1)])) _
  refine OGo.step (fun _ kk => XS.ddivS X33.here hx rfl (hb hby at_68) rfl (own_V_not (own_q8 hn1)) rfl kk) ?_
  show OGo p e below (T33.setTop (mkF m 69 #[.val (.int p1), .val (.int p2), .val (.int p3), .val (.int p4), .val (.int p5), .val (.int (Int32.ofNat k0_)), .val (.int (Int32.ofNat k1_)), .val (.int (Int32.ofNat k2_)), .val (.int (Int32.ofNat k3_)), .val (.int (Int32.ofNat k4_)), .unset, .unset, .unset, .unset, .unset, .unset, .unset, .unset, .unset] [(.double (FP.ddiv (FP.i2d (Int32.ofNat k1_)) (4643211215818981376 : UInt64))), (.double (FP.ddiv (FP.i2d (Int32.ofNat k0_)) (4643211215818981376 : UInt64))), (.ref m1), (.ref m1)])) _
  refine own_special X33 hx hZ (y := (⟨"com/example/haze_to_match/hazetomatch/Membership", "<init>", "(DD)V"⟩ : MethodName)) rfl hown (hw _ (List.mem_of_getElem? (i := 5) rfl)) (hw _ (List.mem_of_getElem? (i := 6) rfl)) (hw _ (List.mem_of_getElem? (i := 7) rfl)) (hw _ (List.mem_of_getElem? (i := 3) rfl)) (by decide) (a := m1) (W := 1) (own_minit l Z a0 hw [] m1 (FP.ddiv (FP.i2d (Int32.ofNat k0_)) (4643211215818981376 : UInt64)) (FP.ddiv (FP.i2d (Int32.ofNat k1_)) (4643211215818981376 : UInt64)) _ _ h33 n0 sz33 A33 F33_value F33_rest gf_m1) e33  (pc := 69) (Ls := #[.val (.int p1), .val (.int p2), .val (.int p3), .val (.int p4), .val (.int p5), .val (.int (Int32.ofNat k0_)), .val (.int (Int32.ofNat k1_)), .val (.int (Int32.ofNat k2_)), .val (.int (Int32.ofNat k3_)), .val (.int (Int32.ofNat k4_)), .unset, .unset, .unset, .unset, .unset, .unset, .unset, .unset, .unset]) (argsL := [(.double (FP.ddiv (FP.i2d (Int32.ofNat k0_)) (4643211215818981376 : UInt64))), (.double (FP.ddiv (FP.i2d (Int32.ofNat k1_)) (4643211215818981376 : UInt64)))]) (rest := [(.ref m1)]) (by rw [hml]; rfl) (lenOf own_pd1 rfl) rfl (hb hby at_69) (by decide) (by decide) (by decide) (by decide) ?_
  intro v34 T34 L34 X34 hQ34
  obtain ⟨rfl, N34, K34, E34, Fa34, Fb34⟩ := hQ34
  show OGo p e below (T34.setTop (mkF m 72 #[.val (.int p1), .val (.int p2), .val (.int p3), .val (.int p4), .val (.int p5), .val (.int (Int32.ofNat k0_)), .val (.int (Int32.ofNat k1_)), .val (.int (Int32.ofNat k2_)), .val (.int (Int32.ofNat k3_)), .val (.int (Int32.ofNat k4_)), .unset, .unset, .unset, .unset, .unset, .unset, .unset, .unset, .unset] [(.ref m1)])) _
  have Nc34 := Fr.app (Fr.nil n0) N34
  have sz34 : n0 ≤ T34.heap.size := Nat.le_trans sz33 K34.1
  refine OGo.step (fun _ kk => XS.astore X34.here hx rfl (hb hby at_72) rfl rfl (l' := #[.val (.int p1), .val (.int p2), .val (.int p3), .val (.int p4), .val (.int p5), .val (.int (Int32.ofNat k0_)), .val (.int (Int32.ofNat k1_)), .val (.int (Int32.ofNat k2_)), .val (.int (Int32.ofNat k3_)), .val (.int (Int32.ofNat k4_)), .val (.ref m1), .unset, .unset, .unset, .unset, .unset, .unset, .unset, .unset]) rfl kk) ?_
  show OGo p e below (T34.setTop (mkF m 74 #[.val (.int p1), .val (.int p2), .val (.int p3), .val (.int p4), .val (.int p5), .val (.int (Int32.ofNat k0_)), .val (.int (Int32.ofNat k1_)), .val (.int (Int32.ofNat k2_)), .val (.int (Int32.ofNat k3_)), .val (.int (Int32.ofNat k4_)), .val (.ref m1), .unset, .unset, .unset, .unset, .unset, .unset, .unset, .unset] [])) _
  obtain ⟨T35, h35, X35, e35, E35, A35, D35, U35, st35⟩ := newO X34 hx hZ hown (hw _ (List.mem_of_getElem? (i := 1) rfl)) (hw _ (List.mem_of_getElem? (i := 2) rfl)) (hw _ (List.mem_of_getElem? (i := 3) rfl)) rfl (g := (mkF m 74 #[.val (.int p1), .val (.int p2), .val (.int p3), .val (.int p4), .val (.int p5), .val (.int (Int32.ofNat k0_)), .val (.int (Int32.ofNat k1_)), .val (.int (Int32.ofNat k2_)), .val (.int (Int32.ofNat k3_)), .val (.int (Int32.ofNat k4_)), .val (.ref m1), .unset, .unset, .unset, .unset, .unset, .unset, .unset, .unset] [])) rfl (hb hby at_74) (by decide) (by decide)
  obtain ⟨m2, g35⟩ : ∃ z, z = T34.heap.size := ⟨_, rfl⟩
  rw [← g35] at A35 D35 U35 st35
  refine OGo.step st35 ?_
  show OGo p e below (T35.setTop (mkF m 77 #[.val (.int p1), .val (.int p2), .val (.int p3), .val (.int p4), .val (.int p5), .val (.int (Int32.ofNat k0_)), .val (.int (Int32.ofNat k1_)), .val (.int (Int32.ofNat k2_)), .val (.int (Int32.ofNat k3_)), .val (.int (Int32.ofNat k4_)), .val (.ref m1), .unset, .unset, .unset, .unset, .unset, .unset, .unset, .unset] [(.ref m2)])) _
  have ne_m1_m2 : m1 ≠ m2 := Nat.ne_of_lt (Nat.lt_of_lt_of_le E34.lt (Nat.le_of_eq g35.symm))
  have gf_m2 : n0 ≤ m2 := Nat.le_trans sz34 (Nat.le_of_eq g35.symm)
  have sz35 : n0 ≤ h35.size := Nat.le_trans sz34 E35.1
  have F35_value : Fld Z h35 m2 "com/example/haze_to_match/hazetomatch/Membership" "value" "D" (.double (0 : UInt64)) := D35 (Or.inr (hw _ (List.mem_of_getElem? (i := 17) rfl))) (ty := .double) (by decide)
  have F35_rest : Fld Z h35 m2 "com/example/haze_to_match/hazetomatch/Membership" "rest" "D" (.double (0 : UInt64)) := D35 (Or.inr (hw _ (List.mem_of_getElem? (i := 19) rfl))) (ty := .double) (by decide)
  refine OGo.step (fun _ kk => XS.dup X35.here hx rfl (hb hby at_77) rfl rfl kk) ?_
  show OGo p e below (T35.setTop (mkF m 78 #[.val (.int p1), .val (.int p2), .val (.int p3), .val (.int p4), .val (.int p5), .val (.int (Int32.ofNat k0_)), .val (.int (Int32.ofNat k1_)), .val (.int (Int32.ofNat k2_)), .val (.int (Int32.ofNat k3_)), .val (.int (Int32.ofNat k4_)), .val (.ref m1), .unset, .unset, .unset, .unset, .unset, .unset, .unset, .unset] [(.ref m2), (.ref m2)])) _
  refine OGo.step (fun _ kk => XS.iload X35.here hx rfl (hb hby at_78) rfl kk) ?_
  show OGo p e below (T35.setTop (mkF m 80 #[.val (.int p1), .val (.int p2), .val (.int p3), .val (.int p4), .val (.int p5), .val (.int (Int32.ofNat k0_)), .val (.int (Int32.ofNat k1_)), .val (.int (Int32.ofNat k2_)), .val (.int (Int32.ofNat k3_)), .val (.int (Int32.ofNat k4_)), .val (.ref m1), .unset, .unset, .unset, .unset, .unset, .unset, .unset, .unset] [(.int (Int32.ofNat k2_)), (.ref m2), (.ref m2)])) _
  refine OGo.step (fun _ kk => XS.i2dS X35.here hx rfl (hb hby at_80) rfl rfl kk) ?_
  show OGo p e below (T35.setTop (mkF m 81 #[.val (.int p1), .val (.int p2), .val (.int p3), .val (.int p4), .val (.int p5), .val (.int (Int32.ofNat k0_)), .val (.int (Int32.ofNat k1_)), .val (.int (Int32.ofNat k2_)), .val (.int (Int32.ofNat k3_)), .val (.int (Int32.ofNat k4_)), .val (.ref m1), .unset, .unset, .unset, .unset, .unset, .unset, .unset, .unset] [(.double (FP.i2d (Int32.ofNat k2_))), (.ref m2), (.ref m2)])) _
  refine OGo.step (fun _ kk => X35.ldc2DoubleC hx hown (mvT hZ (hw _ (List.mem_of_getElem? (i := 4) rfl))) (g := (mkF m 81 #[.val (.int p1), .val (.int p2), .val (.int p3), .val (.int p4), .val (.int p5), .val (.int (Int32.ofNat k0_)), .val (.int (Int32.ofNat k1_)), .val (.int (Int32.ofNat k2_)), .val (.int (Int32.ofNat k3_)), .val (.int (Int32.ofNat k4_)), .val (.ref m1), .unset, .unset, .unset, .unset, .unset, .unset, .unset, .unset] [(.double (FP.i2d (Int32.ofNat k2_))), (.ref m2), (.ref m2)])) rfl (hb hby at_81) _ kk) ?_
  show OGo p e below (T35.setTop (mkF m 84 #[.val (.int p1), .val (.int p2), .val (.int p3), .val (.int p4), .val (.int p5), .val (.int (Int32.ofNat k0_)), .val (.int (Int32.ofNat k1_)), .val (.int (Int32.ofNat k2_)), .val (.int (Int32.ofNat k3_)), .val (.int (Int32.ofNat k4_)), .val (.ref m1), .unset, .unset, .unset, .unset, .unset, .unset, .unset, .unset] [(.double (4643211215818981376 : UInt64)), (.double (FP.i2d (Int32.ofNat k2_))), (.ref m2), (.ref m2)])) _
  refine OGo.step (fun _ kk => XS.ddivS X35.here hx rfl (hb hby at_84) rfl (own_V_not (own_q8 hn2)) rfl kk) ?_
  show OGo p e below (T35.setTop (mkF m 85 #[.val (.int p1), .val (.int p2), .val (.int p3), .val (.int p4), .val (.int p5), .val (.int (Int32.ofNat k0_)), .val (.int (Int32.ofNat k1_)), .val (.int (Int32.ofNat k2_)), .val (.int (Int32.ofNat k3_)), .val (.int (Int32.ofNat k4_)), .val (.ref m1), .unset, .unset, .unset, .unset, .unset, .unset, .unset, .unset] [(.double (FP.ddiv (FP.i2d (Int32.ofNat k2_)) (4643211215818981376 : UInt64))), (.ref m2), (.ref m2)])) _
  refine OGo.step (fun _ kk => XS.iload X35.here hx rfl (hb hby at_85) rfl kk) ?_
  show OGo p e below (T35.setTop (mkF m 87 #[.val (.int p1), .val (.int p2), .val (.int p3), .val (.int p4), .val (.int p5), .val (.int (Int32.ofNat k0_)), .val (.int (Int32.ofNat k1_)), .val (.int (Int32.ofNat k2_)), .val (.int (Int32.ofNat k3_)), .val (.int (Int32.ofNat k4_)), .val (.ref m1), .unset, .unset, .unset, .unset, .unset, .unset, .unset, .unset] [(.int (Int32.ofNat k3_)), (.double (FP.ddiv (FP.i2d (Int32.ofNat k2_)) (4643211215818981376 : UInt64))), (.ref m2), (.ref m2)])) _
  refine OGo.step (fun _ kk => XS.i2dS X35.here hx rfl (hb hby at_87) rfl rfl kk) ?_
  show OGo p e below (T35.setTop (mkF m 88 #[.val (.int p1), .val (.int p2), .val (.int p3), .val (.int p4), .val (.int p5), .val (.int (Int32.ofNat k0_)), .val (.int (Int32.ofNat k1_)), .val (.int (Int32.ofNat k2_)), .val (.int (Int32.ofNat k3_)), .val (.int (Int32.ofNat k4_)), .val (.ref m1), .unset, .unset, .unset, .unset, .unset, .unset, .unset, .unset] [(.double (FP.i2d (Int32.ofNat k3_))), (.double (FP.ddiv (FP.i2d (Int32.ofNat k2_)) (4643211215818981376 : UInt64))), (.ref m2), (.ref m2)])) _
  refine OGo.step (fun _ kk => X35.ldc2DoubleC hx hown (mvT hZ (hw _ (List.mem_of_getElem? (i := 4) rfl))) (g := (mkF m 88 #[.val (.int p1), .val (.int p2), .val (.int p3), .val (.int p4), .val (.int p5), .val (.int (Int32.ofNat k0_)), .val (.int (Int32.ofNat k1_)), .val (.int (Int32.ofNat k2_)), .val (.int (Int32.ofNat k3_)), .val (.int (Int32.ofNat k4_)), .val (.ref m1), .unset, .unset, .unset, .unset, .unset, .unset, .unset, .unset] [(.double (FP.i2d (Int32.ofNat k3_))), (.double (FP.ddiv (FP.i2d (Int32.ofNat k2_)) (4643211215818981376 : UInt64))), (.ref m2), (.ref m2)])) rfl (hb hby at_88) _ kk) ?_
  show OGo p e below (T35.setTop (mkF m 91 #[.val (.int p1), .val (.int p2), .val (.int p3), .val (.int p4), .val (.int p5), .val (.int (Int32.ofNat k0_)), .val (.int (Int32.ofNat k1_)), .val (.int (Int32.ofNat k2_)), .val (.int (Int32.ofNat k3_)), .val (.int (Int32.ofNat k4_)), .val (.ref m1), .unset, .unset, .unset, .unset, .unset, .unset, .unset, .unset] [(.double (4643211215818981376 : UInt64)), (.double (FP.i2d (Int32.ofNat k3_))), (.double (FP.ddiv (FP.i2d (Int32.ofNat k2_)) (4643211215818981376 : UInt64))), (.ref m2), (.ref m2)])) _
  refine OGo.step (fun _ kk => XS.ddivS X35.here hx rfl (hb hby at_91) rfl (own_V_not (own_q8 hn3)) rfl kk) ?_
  show OGo p e below (T35.setTop (mkF m 92 #[.val (.int p1), .val (.int p2), .val (.int p3), .val (.int p4), .val (.int p5), .val (.int (Int32.ofNat k0_)), .val (.int (Int32.ofNat k1_)), .val (.int (Int32.ofNat k2_)), .val (.int (Int32.ofNat k3_)), .val (.int (Int32.ofNat k4_)), .val (.ref m1), .unset, .unset, .unset, .unset, .unset, .unset, .unset, .unset] [(.double (FP.ddiv (FP.i2d (Int32.ofNat k3_)) (4643211215818981376 : UInt64))), (.double (FP.ddiv (FP.i2d (Int32.ofNat k2_)) (4643211215818981376 : UInt64))), (.ref m2), (.ref m2)])) _
  refine own_special X35 hx hZ (y := (⟨"com/example/haze_to_match/hazetomatch/Membership", "<init>", "(DD)V"⟩ : MethodName)) rfl hown (hw _ (List.mem_of_getElem? (i := 5) rfl)) (hw _ (List.mem_of_getElem? (i := 6) rfl)) (hw _ (List.mem_of_getElem? (i := 7) rfl)) (hw _ (List.mem_of_getElem? (i := 3) rfl)) (by decide) (a := m2) (W := 1) (own_minit l Z a0 hw [] m2 (FP.ddiv (FP.i2d (Int32.ofNat k2_)) (4643211215818981376 : UInt64)) (FP.ddiv (FP.i2d (Int32.ofNat k3_)) (4643211215818981376 : UInt64)) _ _ h35 n0 sz35 A35 F35_value F35_rest gf_m2) e35  (pc := 92) (Ls := #[.val (.int p1), .val (.int p2), .val (.int p3), .val (.int p4), .val (.int p5), .val (.int (Int32.ofNat k0_)), .val (.int (Int32.ofNat k1_)), .val (.int (Int32.ofNat k2_)), .val (.int (Int32.ofNat k3_)), .val (.int (Int32.ofNat k4_)), .val (.ref m1), .unset, .unset, .unset, .unset, .unset, .unset, .unset, .unset]) (argsL := [(.double (FP.ddiv (FP.i2d (Int32.ofNat k2_)) (4643211215818981376 : UInt64))), (.double (FP.ddiv (FP.i2d (Int32.ofNat k3_)) (4643211215818981376 : UInt64)))]) (rest := [(.ref m2)]) (by rw [hml]; rfl) (lenOf own_pd1 rfl) rfl (hb hby at_92) (by decide) (by decide) (by decide) (by decide) ?_
  intro v36 T36 L36 X36 hQ36
  obtain ⟨rfl, N36, K36, E36, Fa36, Fb36⟩ := hQ36
  show OGo p e below (T36.setTop (mkF m 95 #[.val (.int p1), .val (.int p2), .val (.int p3), .val (.int p4), .val (.int p5), .val (.int (Int32.ofNat k0_)), .val (.int (Int32.ofNat k1_)), .val (.int (Int32.ofNat k2_)), .val (.int (Int32.ofNat k3_)), .val (.int (Int32.ofNat k4_)), .val (.ref m1), .unset, .unset, .unset, .unset, .unset, .unset, .unset, .unset] [(.ref m2)])) _
  have Nc36 := Fr.app Nc34 N36
  have sz36 : n0 ≤ T36.heap.size := Nat.le_trans sz35 K36.1
  refine OGo.step (fun _ kk => XS.astore X36.here hx rfl (hb hby at_95) rfl rfl (l' := #[.val (.int p1), .val (.int p2), .val (.int p3), .val (.int p4), .val (.int p5), .val (.int (Int32.ofNat k0_)), .val (.int (Int32.ofNat k1_)), .val (.int (Int32.ofNat k2_)), .val (.int (Int32.ofNat k3_)), .val (.int (Int32.ofNat k4_)), .val (.ref m1), .val (.ref m2), .unset, .unset, .unset, .unset, .unset, .unset, .unset]) rfl kk) ?_
  show OGo p e below (T36.setTop (mkF m 97 #[.val (.int p1), .val (.int p2), .val (.int p3), .val (.int p4), .val (.int p5), .val (.int (Int32.ofNat k0_)), .val (.int (Int32.ofNat k1_)), .val (.int (Int32.ofNat k2_)), .val (.int (Int32.ofNat k3_)), .val (.int (Int32.ofNat k4_)), .val (.ref m1), .val (.ref m2), .unset, .unset, .unset, .unset, .unset, .unset, .unset] [])) _
  refine OGo.step (fun _ kk => XS.iconst X36.here hx rfl (hb hby at_97) kk) ?_
  show OGo p e below (T36.setTop (mkF m 98 #[.val (.int p1), .val (.int p2), .val (.int p3), .val (.int p4), .val (.int p5), .val (.int (Int32.ofNat k0_)), .val (.int (Int32.ofNat k1_)), .val (.int (Int32.ofNat k2_)), .val (.int (Int32.ofNat k3_)), .val (.int (Int32.ofNat k4_)), .val (.ref m1), .val (.ref m2), .unset, .unset, .unset, .unset, .unset, .unset, .unset] [(.int (2 : Int32))])) _
  obtain ⟨T37, h37, k37, X37, e37, E37, A37, st37⟩ := newP X36 hx hZ (hw _ (List.mem_of_getElem? (i := 20) rfl)) rfl (g := (mkF m 98 #[.val (.int p1), .val (.int p2), .val (.int p3), .val (.int p4), .val (.int p5), .val (.int (Int32.ofNat k0_)), .val (.int (Int32.ofNat k1_)), .val (.int (Int32.ofNat k2_)), .val (.int (Int32.ofNat k3_)), .val (.int (Int32.ofNat k4_)), .val (.ref m1), .val (.ref m2), .unset, .unset, .unset, .unset, .unset, .unset, .unset] [(.int (2 : Int32))])) rfl (hb hby at_98) rfl (by decide) (cap := 2) (by decide) (by decide) (by decide) (by decide)
  obtain ⟨r, g37⟩ : ∃ z, z = T36.heap.size := ⟨_, rfl⟩
  rw [← g37] at A37 st37
  refine OGo.step st37 ?_
  show OGo p e below (T37.setTop (mkF m 100 #[.val (.int p1), .val (.int p2), .val (.int p3), .val (.int p4), .val (.int p5), .val (.int (Int32.ofNat k0_)), .val (.int (Int32.ofNat k1_)), .val (.int (Int32.ofNat k2_)), .val (.int (Int32.ofNat k3_)), .val (.int (Int32.ofNat k4_)), .val (.ref m1), .val (.ref m2), .unset, .unset, .unset, .unset, .unset, .unset, .unset] [(.ref r)])) _
  have fc38 := ((E34.ext E35).keep K36)
  have ne_m1_r : m1 ≠ r := Nat.ne_of_lt (Nat.lt_of_lt_of_le fc38.lt (Nat.le_of_eq g37.symm))
  have ne_m2_r : m2 ≠ r := Nat.ne_of_lt (Nat.lt_of_lt_of_le E36.lt (Nat.le_of_eq g37.symm))
  have gf_r : n0 ≤ r := Nat.le_trans sz36 (Nat.le_of_eq g37.symm)
  have sz37 : n0 ≤ h37.size := Nat.le_trans sz36 E37.1
  have Vr : Arv Z h37 r k37 .double (2 : Int32) [(.double (FP.l2d 0)), (.double (FP.l2d 0))] (.double (FP.l2d 0)) := (Arv.newD A37 (by decide)).pad (pad_rep [] (.double (FP.l2d 0)) 2)
  refine OGo.step (fun _ kk => XS.astore X37.here hx rfl (hb hby at_100) rfl rfl (l' := #[.val (.int p1), .val (.int p2), .val (.int p3), .val (.int p4), .val (.int p5), .val (.int (Int32.ofNat k0_)), .val (.int (Int32.ofNat k1_)), .val (.int (Int32.ofNat k2_)), .val (.int (Int32.ofNat k3_)), .val (.int (Int32.ofNat k4_)), .val (.ref m1), .val (.ref m2), .val (.ref r), .unset, .unset, .unset, .unset, .unset, .unset]) rfl kk) ?_
  show OGo p e below (T37.setTop (mkF m 102 #[.val (.int p1), .val (.int p2), .val (.int p3), .val (.int p4), .val (.int p5), .val (.int (Int32.ofNat k0_)), .val (.int (Int32.ofNat k1_)), .val (.int (Int32.ofNat k2_)), .val (.int (Int32.ofNat k3_)), .val (.int (Int32.ofNat k4_)), .val (.ref m1), .val (.ref m2), .val (.ref r), .unset, .unset, .unset, .unset, .unset, .unset] [])) _
  refine OGo.step (fun _ kk => XS.aload X37.here hx rfl (hb hby at_102) rfl rfl kk) ?_
  show OGo p e below (T37.setTop (mkF m 104 #[.val (.int p1), .val (.int p2), .val (.int p3), .val (.int p4), .val (.int p5), .val (.int (Int32.ofNat k0_)), .val (.int (Int32.ofNat k1_)), .val (.int (Int32.ofNat k2_)), .val (.int (Int32.ofNat k3_)), .val (.int (Int32.ofNat k4_)), .val (.ref m1), .val (.ref m2), .val (.ref r), .unset, .unset, .unset, .unset, .unset, .unset] [(.ref m1)])) _
  refine OGo.step (fun _ kk => XS.aload X37.here hx rfl (hb hby at_104) rfl rfl kk) ?_
  show OGo p e below (T37.setTop (mkF m 106 #[.val (.int p1), .val (.int p2), .val (.int p3), .val (.int p4), .val (.int p5), .val (.int (Int32.ofNat k0_)), .val (.int (Int32.ofNat k1_)), .val (.int (Int32.ofNat k2_)), .val (.int (Int32.ofNat k3_)), .val (.int (Int32.ofNat k4_)), .val (.ref m1), .val (.ref m2), .val (.ref r), .unset, .unset, .unset, .unset, .unset, .unset] [(.ref m2), (.ref m1)])) _
  refine OGo.step (fun _ kk => XS.iload X37.here hx rfl (hb hby at_106) rfl kk) ?_
  show OGo p e below (T37.setTop (mkF m 108 #[.val (.int p1), .val (.int p2), .val (.int p3), .val (.int p4), .val (.int p5), .val (.int (Int32.ofNat k0_)), .val (.int (Int32.ofNat k1_)), .val (.int (Int32.ofNat k2_)), .val (.int (Int32.ofNat k3_)), .val (.int (Int32.ofNat k4_)), .val (.ref m1), .val (.ref m2), .val (.ref r), .unset, .unset, .unset, .unset, .unset, .unset] [(.int (Int32.ofNat k4_)), (.ref m2), (.ref m1)])) _
  refine OGo.step (fun _ kk => XS.i2dS X37.here hx rfl (hb hby at_108) rfl rfl kk) ?_
  show OGo p e below (T37.setTop (mkF m 109 #[.val (.int p1), .val (.int p2), .val (.int p3), .val (.int p4), .val (.int p5), .val (.int (Int32.ofNat k0_)), .val (.int (Int32.ofNat k1_)), .val (.int (Int32.ofNat k2_)), .val (.int (Int32.ofNat k3_)), .val (.int (Int32.ofNat k4_)), .val (.ref m1), .val (.ref m2), .val (.ref r), .unset, .unset, .unset, .unset, .unset, .unset] [(.double (FP.i2d (Int32.ofNat k4_))), (.ref m2), (.ref m1)])) _
  refine OGo.step (fun _ kk => X37.ldc2DoubleC hx hown (mvT hZ (hw _ (List.mem_of_getElem? (i := 21) rfl))) (g := (mkF m 109 #[.val (.int p1), .val (.int p2), .val (.int p3), .val (.int p4), .val (.int p5), .val (.int (Int32.ofNat k0_)), .val (.int (Int32.ofNat k1_)), .val (.int (Int32.ofNat k2_)), .val (.int (Int32.ofNat k3_)), .val (.int (Int32.ofNat k4_)), .val (.ref m1), .val (.ref m2), .val (.ref r), .unset, .unset, .unset, .unset, .unset, .unset] [(.double (FP.i2d (Int32.ofNat k4_))), (.ref m2), (.ref m1)])) rfl (hb hby at_109) _ kk) ?_
  show OGo p e below (T37.setTop (mkF m 112 #[.val (.int p1), .val (.int p2), .val (.int p3), .val (.int p4), .val (.int p5), .val (.int (Int32.ofNat k0_)), .val (.int (Int32.ofNat k1_)), .val (.int (Int32.ofNat k2_)), .val (.int (Int32.ofNat k3_)), .val (.int (Int32.ofNat k4_)), .val (.ref m1), .val (.ref m2), .val (.ref r), .unset, .unset, .unset, .unset, .unset, .unset] [(.double (4652218415073722368 : UInt64)), (.double (FP.i2d (Int32.ofNat k4_))), (.ref m2), (.ref m1)])) _
  refine OGo.step (fun _ kk => XS.ddivS X37.here hx rfl (hb hby at_112) rfl (own_V_not (own_q10 hn4)) rfl kk) ?_
  show OGo p e below (T37.setTop (mkF m 113 #[.val (.int p1), .val (.int p2), .val (.int p3), .val (.int p4), .val (.int p5), .val (.int (Int32.ofNat k0_)), .val (.int (Int32.ofNat k1_)), .val (.int (Int32.ofNat k2_)), .val (.int (Int32.ofNat k3_)), .val (.int (Int32.ofNat k4_)), .val (.ref m1), .val (.ref m2), .val (.ref r), .unset, .unset, .unset, .unset, .unset, .unset] [(.double (FP.ddiv (FP.i2d (Int32.ofNat k4_)) (4652218415073722368 : UInt64))), (.ref m2), (.ref m1)])) _
  refine OGo.step (fun _ kk => XS.aload X37.here hx rfl (hb hby at_113) rfl rfl kk) ?_
  show OGo p e below (T37.setTop (mkF m 115 #[.val (.int p1), .val (.int p2), .val (.int p3), .val (.int p4), .val (.int p5), .val (.int (Int32.ofNat k0_)), .val (.int (Int32.ofNat k1_)), .val (.int (Int32.ofNat k2_)), .val (.int (Int32.ofNat k3_)), .val (.int (Int32.ofNat k4_)), .val (.ref m1), .val (.ref m2), .val (.ref r), .unset, .unset, .unset, .unset, .unset, .unset] [(.ref r), (.double (FP.ddiv (FP.i2d (Int32.ofNat k4_)) (4652218415073722368 : UInt64))), (.ref m2), (.ref m1)])) _
  have fc39 := (((Fa34.ext E35).keep K36 (ninS ne_m1_m2 nin0)).ext E37)
  have fc40 := (((Fb34.ext E35).keep K36 (ninS ne_m1_m2 nin0)).ext E37)
  have fc41 := (Fa36.ext E37)
  have fc42 := (Fb36.ext E37)
  have fc43 := (fc38.ext E37)
  refine own_virtual X37 hx hZ (y := (⟨"com/example/haze_to_match/hazetomatch/Membership", "along", "(Lcom/example/haze_to_match/hazetomatch/Membership;D[D)V"⟩ : MethodName)) (z := (⟨"com/example/haze_to_match/hazetomatch/Membership", "along", "(Lcom/example/haze_to_match/hazetomatch/Membership;D[D)V"⟩ : MethodName)) hown (hw _ (List.mem_of_getElem? (i := 22) rfl)) (hw _ (List.mem_of_getElem? (i := 23) rfl)) (notFace_of_selects (args := #[]) (mvT hZ (hw _ (List.mem_of_getElem? (i := 25) rfl)))) (hw _ (List.mem_of_getElem? (i := 25) rfl)) (hw _ (List.mem_of_getElem? (i := 24) rfl)) (by decide) (hw _ (List.mem_of_getElem? (i := 26) rfl)) (hw _ (List.mem_of_getElem? (i := 3) rfl)) (b := m1) fc43 (W := 0) (own_along l Z a0 hw [] m1 m2 r k37 (FP.ddiv (FP.i2d (Int32.ofNat k0_)) (4643211215818981376 : UInt64)) (FP.ddiv (FP.i2d (Int32.ofNat k1_)) (4643211215818981376 : UInt64)) (FP.ddiv (FP.i2d (Int32.ofNat k2_)) (4643211215818981376 : UInt64)) (FP.ddiv (FP.i2d (Int32.ofNat k3_)) (4643211215818981376 : UInt64)) (FP.ddiv (FP.i2d (Int32.ofNat k4_)) (4652218415073722368 : UInt64)) k0_ k2_ k1_ k3_ k4_ h37 n0 sz37 fc39 fc40 fc41 fc42 Vr gf_r ne_m1_r ne_m2_r (own_q8 hn0) (own_q8 hn2) (own_q8 hn1) (own_q8 hn3) (own_q10 hn4) (by omega) (by omega) (by omega) (by omega) (by omega) (by omega) (by omega) (by omega) (by omega) (by omega)) e37  (pc := 115) (Ls := #[.val (.int p1), .val (.int p2), .val (.int p3), .val (.int p4), .val (.int p5), .val (.int (Int32.ofNat k0_)), .val (.int (Int32.ofNat k1_)), .val (.int (Int32.ofNat k2_)), .val (.int (Int32.ofNat k3_)), .val (.int (Int32.ofNat k4_)), .val (.ref m1), .val (.ref m2), .val (.ref r), .unset, .unset, .unset, .unset, .unset, .unset]) (argsL := [(.ref m2), (.double (FP.ddiv (FP.i2d (Int32.ofNat k4_)) (4652218415073722368 : UInt64))), (.ref r)]) (rest := []) (by rw [hml]; rfl) (lenOf own_pd2 rfl) rfl (hb hby at_115) (by decide) (by decide) (by decide) (by decide) ?_
  intro v44 T44 L44 X44 hQ44
  obtain ⟨w0, w1, rfl, N44, K44, Vw, hw0, hw1⟩ := hQ44
  show OGo p e below (T44.setTop (mkF m 118 #[.val (.int p1), .val (.int p2), .val (.int p3), .val (.int p4), .val (.int p5), .val (.int (Int32.ofNat k0_)), .val (.int (Int32.ofNat k1_)), .val (.int (Int32.ofNat k2_)), .val (.int (Int32.ofNat k3_)), .val (.int (Int32.ofNat k4_)), .val (.ref m1), .val (.ref m2), .val (.ref r), .unset, .unset, .unset, .unset, .unset, .unset] [])) _
  have Nc44 := Fr.app Nc36 N44
  have sz44 : n0 ≤ T44.heap.size := Nat.le_trans sz37 K44.1
  refine OGo.step (fun _ kk => XS.iload X44.here hx rfl (hb hby at_118) rfl kk) ?_
  show OGo p e below (T44.setTop (mkF m 120 #[.val (.int p1), .val (.int p2), .val (.int p3), .val (.int p4), .val (.int p5), .val (.int (Int32.ofNat k0_)), .val (.int (Int32.ofNat k1_)), .val (.int (Int32.ofNat k2_)), .val (.int (Int32.ofNat k3_)), .val (.int (Int32.ofNat k4_)), .val (.ref m1), .val (.ref m2), .val (.ref r), .unset, .unset, .unset, .unset, .unset, .unset] [(.int (Int32.ofNat k0_))])) _
  refine OGo.step (fun _ kk => XS.sipush X44.here hx rfl (hb hby at_120) kk) ?_
  show OGo p e below (T44.setTop (mkF m 123 #[.val (.int p1), .val (.int p2), .val (.int p3), .val (.int p4), .val (.int p5), .val (.int (Int32.ofNat k0_)), .val (.int (Int32.ofNat k1_)), .val (.int (Int32.ofNat k2_)), .val (.int (Int32.ofNat k3_)), .val (.int (Int32.ofNat k4_)), .val (.ref m1), .val (.ref m2), .val (.ref r), .unset, .unset, .unset, .unset, .unset, .unset] [(.int (1024 : Int32)), (.int (Int32.ofNat k0_))])) _
  refine OGo.step (fun _ kk => XS.imul X44.here hx rfl (hb hby at_123) rfl kk) ?_
  show OGo p e below (T44.setTop (mkF m 124 #[.val (.int p1), .val (.int p2), .val (.int p3), .val (.int p4), .val (.int p5), .val (.int (Int32.ofNat k0_)), .val (.int (Int32.ofNat k1_)), .val (.int (Int32.ofNat k2_)), .val (.int (Int32.ofNat k3_)), .val (.int (Int32.ofNat k4_)), .val (.ref m1), .val (.ref m2), .val (.ref r), .unset, .unset, .unset, .unset, .unset, .unset] [(.int ((Int32.ofNat k0_) * (1024 : Int32)))])) _
  refine OGo.step (fun _ kk => XS.iload X44.here hx rfl (hb hby at_124) rfl kk) ?_
  show OGo p e below (T44.setTop (mkF m 126 #[.val (.int p1), .val (.int p2), .val (.int p3), .val (.int p4), .val (.int p5), .val (.int (Int32.ofNat k0_)), .val (.int (Int32.ofNat k1_)), .val (.int (Int32.ofNat k2_)), .val (.int (Int32.ofNat k3_)), .val (.int (Int32.ofNat k4_)), .val (.ref m1), .val (.ref m2), .val (.ref r), .unset, .unset, .unset, .unset, .unset, .unset] [(.int (Int32.ofNat k4_)), (.int ((Int32.ofNat k0_) * (1024 : Int32)))])) _
  refine OGo.step (fun _ kk => XS.iload X44.here hx rfl (hb hby at_126) rfl kk) ?_
  show OGo p e below (T44.setTop (mkF m 128 #[.val (.int p1), .val (.int p2), .val (.int p3), .val (.int p4), .val (.int p5), .val (.int (Int32.ofNat k0_)), .val (.int (Int32.ofNat k1_)), .val (.int (Int32.ofNat k2_)), .val (.int (Int32.ofNat k3_)), .val (.int (Int32.ofNat k4_)), .val (.ref m1), .val (.ref m2), .val (.ref r), .unset, .unset, .unset, .unset, .unset, .unset] [(.int (Int32.ofNat k2_)), (.int (Int32.ofNat k4_)), (.int ((Int32.ofNat k0_) * (1024 : Int32)))])) _
  refine OGo.step (fun _ kk => XS.iload X44.here hx rfl (hb hby at_128) rfl kk) ?_
  show OGo p e below (T44.setTop (mkF m 130 #[.val (.int p1), .val (.int p2), .val (.int p3), .val (.int p4), .val (.int p5), .val (.int (Int32.ofNat k0_)), .val (.int (Int32.ofNat k1_)), .val (.int (Int32.ofNat k2_)), .val (.int (Int32.ofNat k3_)), .val (.int (Int32.ofNat k4_)), .val (.ref m1), .val (.ref m2), .val (.ref r), .unset, .unset, .unset, .unset, .unset, .unset] [(.int (Int32.ofNat k0_)), (.int (Int32.ofNat k2_)), (.int (Int32.ofNat k4_)), (.int ((Int32.ofNat k0_) * (1024 : Int32)))])) _
  refine OGo.step (fun _ kk => XS.isub X44.here hx rfl (hb hby at_130) rfl kk) ?_
  show OGo p e below (T44.setTop (mkF m 131 #[.val (.int p1), .val (.int p2), .val (.int p3), .val (.int p4), .val (.int p5), .val (.int (Int32.ofNat k0_)), .val (.int (Int32.ofNat k1_)), .val (.int (Int32.ofNat k2_)), .val (.int (Int32.ofNat k3_)), .val (.int (Int32.ofNat k4_)), .val (.ref m1), .val (.ref m2), .val (.ref r), .unset, .unset, .unset, .unset, .unset, .unset] [(.int ((Int32.ofNat k2_) - (Int32.ofNat k0_))), (.int (Int32.ofNat k4_)), (.int ((Int32.ofNat k0_) * (1024 : Int32)))])) _
  refine OGo.step (fun _ kk => XS.imul X44.here hx rfl (hb hby at_131) rfl kk) ?_
  show OGo p e below (T44.setTop (mkF m 132 #[.val (.int p1), .val (.int p2), .val (.int p3), .val (.int p4), .val (.int p5), .val (.int (Int32.ofNat k0_)), .val (.int (Int32.ofNat k1_)), .val (.int (Int32.ofNat k2_)), .val (.int (Int32.ofNat k3_)), .val (.int (Int32.ofNat k4_)), .val (.ref m1), .val (.ref m2), .val (.ref r), .unset, .unset, .unset, .unset, .unset, .unset] [(.int ((Int32.ofNat k4_) * ((Int32.ofNat k2_) - (Int32.ofNat k0_)))), (.int ((Int32.ofNat k0_) * (1024 : Int32)))])) _
  refine OGo.step (fun _ kk => XS.iadd X44.here hx rfl (hb hby at_132) rfl kk) ?_
  show OGo p e below (T44.setTop (mkF m 133 #[.val (.int p1), .val (.int p2), .val (.int p3), .val (.int p4), .val (.int p5), .val (.int (Int32.ofNat k0_)), .val (.int (Int32.ofNat k1_)), .val (.int (Int32.ofNat k2_)), .val (.int (Int32.ofNat k3_)), .val (.int (Int32.ofNat k4_)), .val (.ref m1), .val (.ref m2), .val (.ref r), .unset, .unset, .unset, .unset, .unset, .unset] [(.int (((Int32.ofNat k0_) * (1024 : Int32)) + ((Int32.ofNat k4_) * ((Int32.ofNat k2_) - (Int32.ofNat k0_)))))])) _
  refine OGo.step (fun _ kk => XS.istore X44.here hx rfl (hb hby at_133) rfl (l' := #[.val (.int p1), .val (.int p2), .val (.int p3), .val (.int p4), .val (.int p5), .val (.int (Int32.ofNat k0_)), .val (.int (Int32.ofNat k1_)), .val (.int (Int32.ofNat k2_)), .val (.int (Int32.ofNat k3_)), .val (.int (Int32.ofNat k4_)), .val (.ref m1), .val (.ref m2), .val (.ref r), .val (.int (((Int32.ofNat k0_) * (1024 : Int32)) + ((Int32.ofNat k4_) * ((Int32.ofNat k2_) - (Int32.ofNat k0_))))), .unset, .unset, .unset, .unset, .unset]) rfl kk) ?_
  show OGo p e below (T44.setTop (mkF m 135 #[.val (.int p1), .val (.int p2), .val (.int p3), .val (.int p4), .val (.int p5), .val (.int (Int32.ofNat k0_)), .val (.int (Int32.ofNat k1_)), .val (.int (Int32.ofNat k2_)), .val (.int (Int32.ofNat k3_)), .val (.int (Int32.ofNat k4_)), .val (.ref m1), .val (.ref m2), .val (.ref r), .val (.int (((Int32.ofNat k0_) * (1024 : Int32)) + ((Int32.ofNat k4_) * ((Int32.ofNat k2_) - (Int32.ofNat k0_))))), .unset, .unset, .unset, .unset, .unset] [])) _
  refine OGo.step (fun _ kk => XS.iload X44.here hx rfl (hb hby at_135) rfl kk) ?_
  show OGo p e below (T44.setTop (mkF m 137 #[.val (.int p1), .val (.int p2), .val (.int p3), .val (.int p4), .val (.int p5), .val (.int (Int32.ofNat k0_)), .val (.int (Int32.ofNat k1_)), .val (.int (Int32.ofNat k2_)), .val (.int (Int32.ofNat k3_)), .val (.int (Int32.ofNat k4_)), .val (.ref m1), .val (.ref m2), .val (.ref r), .val (.int (((Int32.ofNat k0_) * (1024 : Int32)) + ((Int32.ofNat k4_) * ((Int32.ofNat k2_) - (Int32.ofNat k0_))))), .unset, .unset, .unset, .unset, .unset] [(.int (Int32.ofNat k1_))])) _
  refine OGo.step (fun _ kk => XS.sipush X44.here hx rfl (hb hby at_137) kk) ?_
  show OGo p e below (T44.setTop (mkF m 140 #[.val (.int p1), .val (.int p2), .val (.int p3), .val (.int p4), .val (.int p5), .val (.int (Int32.ofNat k0_)), .val (.int (Int32.ofNat k1_)), .val (.int (Int32.ofNat k2_)), .val (.int (Int32.ofNat k3_)), .val (.int (Int32.ofNat k4_)), .val (.ref m1), .val (.ref m2), .val (.ref r), .val (.int (((Int32.ofNat k0_) * (1024 : Int32)) + ((Int32.ofNat k4_) * ((Int32.ofNat k2_) - (Int32.ofNat k0_))))), .unset, .unset, .unset, .unset, .unset] [(.int (1024 : Int32)), (.int (Int32.ofNat k1_))])) _
  refine OGo.step (fun _ kk => XS.imul X44.here hx rfl (hb hby at_140) rfl kk) ?_
  show OGo p e below (T44.setTop (mkF m 141 #[.val (.int p1), .val (.int p2), .val (.int p3), .val (.int p4), .val (.int p5), .val (.int (Int32.ofNat k0_)), .val (.int (Int32.ofNat k1_)), .val (.int (Int32.ofNat k2_)), .val (.int (Int32.ofNat k3_)), .val (.int (Int32.ofNat k4_)), .val (.ref m1), .val (.ref m2), .val (.ref r), .val (.int (((Int32.ofNat k0_) * (1024 : Int32)) + ((Int32.ofNat k4_) * ((Int32.ofNat k2_) - (Int32.ofNat k0_))))), .unset, .unset, .unset, .unset, .unset] [(.int ((Int32.ofNat k1_) * (1024 : Int32)))])) _
  refine OGo.step (fun _ kk => XS.iload X44.here hx rfl (hb hby at_141) rfl kk) ?_
  show OGo p e below (T44.setTop (mkF m 143 #[.val (.int p1), .val (.int p2), .val (.int p3), .val (.int p4), .val (.int p5), .val (.int (Int32.ofNat k0_)), .val (.int (Int32.ofNat k1_)), .val (.int (Int32.ofNat k2_)), .val (.int (Int32.ofNat k3_)), .val (.int (Int32.ofNat k4_)), .val (.ref m1), .val (.ref m2), .val (.ref r), .val (.int (((Int32.ofNat k0_) * (1024 : Int32)) + ((Int32.ofNat k4_) * ((Int32.ofNat k2_) - (Int32.ofNat k0_))))), .unset, .unset, .unset, .unset, .unset] [(.int (Int32.ofNat k4_)), (.int ((Int32.ofNat k1_) * (1024 : Int32)))])) _
  refine OGo.step (fun _ kk => XS.iload X44.here hx rfl (hb hby at_143) rfl kk) ?_
  show OGo p e below (T44.setTop (mkF m 145 #[.val (.int p1), .val (.int p2), .val (.int p3), .val (.int p4), .val (.int p5), .val (.int (Int32.ofNat k0_)), .val (.int (Int32.ofNat k1_)), .val (.int (Int32.ofNat k2_)), .val (.int (Int32.ofNat k3_)), .val (.int (Int32.ofNat k4_)), .val (.ref m1), .val (.ref m2), .val (.ref r), .val (.int (((Int32.ofNat k0_) * (1024 : Int32)) + ((Int32.ofNat k4_) * ((Int32.ofNat k2_) - (Int32.ofNat k0_))))), .unset, .unset, .unset, .unset, .unset] [(.int (Int32.ofNat k3_)), (.int (Int32.ofNat k4_)), (.int ((Int32.ofNat k1_) * (1024 : Int32)))])) _
  refine OGo.step (fun _ kk => XS.iload X44.here hx rfl (hb hby at_145) rfl kk) ?_
  show OGo p e below (T44.setTop (mkF m 147 #[.val (.int p1), .val (.int p2), .val (.int p3), .val (.int p4), .val (.int p5), .val (.int (Int32.ofNat k0_)), .val (.int (Int32.ofNat k1_)), .val (.int (Int32.ofNat k2_)), .val (.int (Int32.ofNat k3_)), .val (.int (Int32.ofNat k4_)), .val (.ref m1), .val (.ref m2), .val (.ref r), .val (.int (((Int32.ofNat k0_) * (1024 : Int32)) + ((Int32.ofNat k4_) * ((Int32.ofNat k2_) - (Int32.ofNat k0_))))), .unset, .unset, .unset, .unset, .unset] [(.int (Int32.ofNat k1_)), (.int (Int32.ofNat k3_)), (.int (Int32.ofNat k4_)), (.int ((Int32.ofNat k1_) * (1024 : Int32)))])) _
  refine OGo.step (fun _ kk => XS.isub X44.here hx rfl (hb hby at_147) rfl kk) ?_
  show OGo p e below (T44.setTop (mkF m 148 #[.val (.int p1), .val (.int p2), .val (.int p3), .val (.int p4), .val (.int p5), .val (.int (Int32.ofNat k0_)), .val (.int (Int32.ofNat k1_)), .val (.int (Int32.ofNat k2_)), .val (.int (Int32.ofNat k3_)), .val (.int (Int32.ofNat k4_)), .val (.ref m1), .val (.ref m2), .val (.ref r), .val (.int (((Int32.ofNat k0_) * (1024 : Int32)) + ((Int32.ofNat k4_) * ((Int32.ofNat k2_) - (Int32.ofNat k0_))))), .unset, .unset, .unset, .unset, .unset] [(.int ((Int32.ofNat k3_) - (Int32.ofNat k1_))), (.int (Int32.ofNat k4_)), (.int ((Int32.ofNat k1_) * (1024 : Int32)))])) _
  refine OGo.step (fun _ kk => XS.imul X44.here hx rfl (hb hby at_148) rfl kk) ?_
  show OGo p e below (T44.setTop (mkF m 149 #[.val (.int p1), .val (.int p2), .val (.int p3), .val (.int p4), .val (.int p5), .val (.int (Int32.ofNat k0_)), .val (.int (Int32.ofNat k1_)), .val (.int (Int32.ofNat k2_)), .val (.int (Int32.ofNat k3_)), .val (.int (Int32.ofNat k4_)), .val (.ref m1), .val (.ref m2), .val (.ref r), .val (.int (((Int32.ofNat k0_) * (1024 : Int32)) + ((Int32.ofNat k4_) * ((Int32.ofNat k2_) - (Int32.ofNat k0_))))), .unset, .unset, .unset, .unset, .unset] [(.int ((Int32.ofNat k4_) * ((Int32.ofNat k3_) - (Int32.ofNat k1_)))), (.int ((Int32.ofNat k1_) * (1024 : Int32)))])) _
  refine OGo.step (fun _ kk => XS.iadd X44.here hx rfl (hb hby at_149) rfl kk) ?_
  show OGo p e below (T44.setTop (mkF m 150 #[.val (.int p1), .val (.int p2), .val (.int p3), .val (.int p4), .val (.int p5), .val (.int (Int32.ofNat k0_)), .val (.int (Int32.ofNat k1_)), .val (.int (Int32.ofNat k2_)), .val (.int (Int32.ofNat k3_)), .val (.int (Int32.ofNat k4_)), .val (.ref m1), .val (.ref m2), .val (.ref r), .val (.int (((Int32.ofNat k0_) * (1024 : Int32)) + ((Int32.ofNat k4_) * ((Int32.ofNat k2_) - (Int32.ofNat k0_))))), .unset, .unset, .unset, .unset, .unset] [(.int (((Int32.ofNat k1_) * (1024 : Int32)) + ((Int32.ofNat k4_) * ((Int32.ofNat k3_) - (Int32.ofNat k1_)))))])) _
  refine OGo.step (fun _ kk => XS.istore X44.here hx rfl (hb hby at_150) rfl (l' := #[.val (.int p1), .val (.int p2), .val (.int p3), .val (.int p4), .val (.int p5), .val (.int (Int32.ofNat k0_)), .val (.int (Int32.ofNat k1_)), .val (.int (Int32.ofNat k2_)), .val (.int (Int32.ofNat k3_)), .val (.int (Int32.ofNat k4_)), .val (.ref m1), .val (.ref m2), .val (.ref r), .val (.int (((Int32.ofNat k0_) * (1024 : Int32)) + ((Int32.ofNat k4_) * ((Int32.ofNat k2_) - (Int32.ofNat k0_))))), .val (.int (((Int32.ofNat k1_) * (1024 : Int32)) + ((Int32.ofNat k4_) * ((Int32.ofNat k3_) - (Int32.ofNat k1_))))), .unset, .unset, .unset, .unset]) rfl kk) ?_
  show OGo p e below (T44.setTop (mkF m 152 #[.val (.int p1), .val (.int p2), .val (.int p3), .val (.int p4), .val (.int p5), .val (.int (Int32.ofNat k0_)), .val (.int (Int32.ofNat k1_)), .val (.int (Int32.ofNat k2_)), .val (.int (Int32.ofNat k3_)), .val (.int (Int32.ofNat k4_)), .val (.ref m1), .val (.ref m2), .val (.ref r), .val (.int (((Int32.ofNat k0_) * (1024 : Int32)) + ((Int32.ofNat k4_) * ((Int32.ofNat k2_) - (Int32.ofNat k0_))))), .val (.int (((Int32.ofNat k1_) * (1024 : Int32)) + ((Int32.ofNat k4_) * ((Int32.ofNat k3_) - (Int32.ofNat k1_))))), .unset, .unset, .unset, .unset] [])) _
  refine OGo.step (fun _ kk => XS.iload X44.here hx rfl (hb hby at_152) rfl kk) ?_
  show OGo p e below (T44.setTop (mkF m 154 #[.val (.int p1), .val (.int p2), .val (.int p3), .val (.int p4), .val (.int p5), .val (.int (Int32.ofNat k0_)), .val (.int (Int32.ofNat k1_)), .val (.int (Int32.ofNat k2_)), .val (.int (Int32.ofNat k3_)), .val (.int (Int32.ofNat k4_)), .val (.ref m1), .val (.ref m2), .val (.ref r), .val (.int (((Int32.ofNat k0_) * (1024 : Int32)) + ((Int32.ofNat k4_) * ((Int32.ofNat k2_) - (Int32.ofNat k0_))))), .val (.int (((Int32.ofNat k1_) * (1024 : Int32)) + ((Int32.ofNat k4_) * ((Int32.ofNat k3_) - (Int32.ofNat k1_))))), .unset, .unset, .unset, .unset] [(.int (((Int32.ofNat k0_) * (1024 : Int32)) + ((Int32.ofNat k4_) * ((Int32.ofNat k2_) - (Int32.ofNat k0_)))))])) _
  refine OGo.step (fun _ kk => XS.i2dS X44.here hx rfl (hb hby at_154) rfl rfl kk) ?_
  show OGo p e below (T44.setTop (mkF m 155 #[.val (.int p1), .val (.int p2), .val (.int p3), .val (.int p4), .val (.int p5), .val (.int (Int32.ofNat k0_)), .val (.int (Int32.ofNat k1_)), .val (.int (Int32.ofNat k2_)), .val (.int (Int32.ofNat k3_)), .val (.int (Int32.ofNat k4_)), .val (.ref m1), .val (.ref m2), .val (.ref r), .val (.int (((Int32.ofNat k0_) * (1024 : Int32)) + ((Int32.ofNat k4_) * ((Int32.ofNat k2_) - (Int32.ofNat k0_))))), .val (.int (((Int32.ofNat k1_) * (1024 : Int32)) + ((Int32.ofNat k4_) * ((Int32.ofNat k3_) - (Int32.ofNat k1_))))), .unset, .unset, .unset, .unset] [(.double (FP.i2d (((Int32.ofNat k0_) * (1024 : Int32)) + ((Int32.ofNat k4_) * ((Int32.ofNat k2_) - (Int32.ofNat k0_))))))])) _
  refine OGo.step (fun _ kk => X44.ldc2DoubleC hx hown (mvT hZ (hw _ (List.mem_of_getElem? (i := 28) rfl))) (g := (mkF m 155 #[.val (.int p1), .val (.int p2), .val (.int p3), .val (.int p4), .val (.int p5), .val (.int (Int32.ofNat k0_)), .val (.int (Int32.ofNat k1_)), .val (.int (Int32.ofNat k2_)), .val (.int (Int32.ofNat k3_)), .val (.int (Int32.ofNat k4_)), .val (.ref m1), .val (.ref m2), .val (.ref r), .val (.int (((Int32.ofNat k0_) * (1024 : Int32)) + ((Int32.ofNat k4_) * ((Int32.ofNat k2_) - (Int32.ofNat k0_))))), .val (.int (((Int32.ofNat k1_) * (1024 : Int32)) + ((Int32.ofNat k4_) * ((Int32.ofNat k3_) - (Int32.ofNat k1_))))), .unset, .unset, .unset, .unset] [(.double (FP.i2d (((Int32.ofNat k0_) * (1024 : Int32)) + ((Int32.ofNat k4_) * ((Int32.ofNat k2_) - (Int32.ofNat k0_))))))])) rfl (hb hby at_155) _ kk) ?_
  show OGo p e below (T44.setTop (mkF m 158 #[.val (.int p1), .val (.int p2), .val (.int p3), .val (.int p4), .val (.int p5), .val (.int (Int32.ofNat k0_)), .val (.int (Int32.ofNat k1_)), .val (.int (Int32.ofNat k2_)), .val (.int (Int32.ofNat k3_)), .val (.int (Int32.ofNat k4_)), .val (.ref m1), .val (.ref m2), .val (.ref r), .val (.int (((Int32.ofNat k0_) * (1024 : Int32)) + ((Int32.ofNat k4_) * ((Int32.ofNat k2_) - (Int32.ofNat k0_))))), .val (.int (((Int32.ofNat k1_) * (1024 : Int32)) + ((Int32.ofNat k4_) * ((Int32.ofNat k3_) - (Int32.ofNat k1_))))), .unset, .unset, .unset, .unset] [(.double (4688247212092686336 : UInt64)), (.double (FP.i2d (((Int32.ofNat k0_) * (1024 : Int32)) + ((Int32.ofNat k4_) * ((Int32.ofNat k2_) - (Int32.ofNat k0_))))))])) _
  refine OGo.step (fun _ kk => XS.ddivS X44.here hx rfl (hb hby at_158) rfl (own_V_not (own_exp hn0 hn2 hn4)) rfl kk) ?_
  show OGo p e below (T44.setTop (mkF m 159 #[.val (.int p1), .val (.int p2), .val (.int p3), .val (.int p4), .val (.int p5), .val (.int (Int32.ofNat k0_)), .val (.int (Int32.ofNat k1_)), .val (.int (Int32.ofNat k2_)), .val (.int (Int32.ofNat k3_)), .val (.int (Int32.ofNat k4_)), .val (.ref m1), .val (.ref m2), .val (.ref r), .val (.int (((Int32.ofNat k0_) * (1024 : Int32)) + ((Int32.ofNat k4_) * ((Int32.ofNat k2_) - (Int32.ofNat k0_))))), .val (.int (((Int32.ofNat k1_) * (1024 : Int32)) + ((Int32.ofNat k4_) * ((Int32.ofNat k3_) - (Int32.ofNat k1_))))), .unset, .unset, .unset, .unset] [(.double (FP.ddiv (FP.i2d (((Int32.ofNat k0_) * (1024 : Int32)) + ((Int32.ofNat k4_) * ((Int32.ofNat k2_) - (Int32.ofNat k0_))))) (4688247212092686336 : UInt64)))])) _
  refine OGo.step (fun _ kk => XS.dstore X44.here hx rfl (hb hby at_159) rfl (l' := #[.val (.int p1), .val (.int p2), .val (.int p3), .val (.int p4), .val (.int p5), .val (.int (Int32.ofNat k0_)), .val (.int (Int32.ofNat k1_)), .val (.int (Int32.ofNat k2_)), .val (.int (Int32.ofNat k3_)), .val (.int (Int32.ofNat k4_)), .val (.ref m1), .val (.ref m2), .val (.ref r), .val (.int (((Int32.ofNat k0_) * (1024 : Int32)) + ((Int32.ofNat k4_) * ((Int32.ofNat k2_) - (Int32.ofNat k0_))))), .val (.int (((Int32.ofNat k1_) * (1024 : Int32)) + ((Int32.ofNat k4_) * ((Int32.ofNat k3_) - (Int32.ofNat k1_))))), .val (.double (FP.ddiv (FP.i2d (((Int32.ofNat k0_) * (1024 : Int32)) + ((Int32.ofNat k4_) * ((Int32.ofNat k2_) - (Int32.ofNat k0_))))) (4688247212092686336 : UInt64))), .second, .unset, .unset]) rfl kk) ?_
  show OGo p e below (T44.setTop (mkF m 161 #[.val (.int p1), .val (.int p2), .val (.int p3), .val (.int p4), .val (.int p5), .val (.int (Int32.ofNat k0_)), .val (.int (Int32.ofNat k1_)), .val (.int (Int32.ofNat k2_)), .val (.int (Int32.ofNat k3_)), .val (.int (Int32.ofNat k4_)), .val (.ref m1), .val (.ref m2), .val (.ref r), .val (.int (((Int32.ofNat k0_) * (1024 : Int32)) + ((Int32.ofNat k4_) * ((Int32.ofNat k2_) - (Int32.ofNat k0_))))), .val (.int (((Int32.ofNat k1_) * (1024 : Int32)) + ((Int32.ofNat k4_) * ((Int32.ofNat k3_) - (Int32.ofNat k1_))))), .val (.double (FP.ddiv (FP.i2d (((Int32.ofNat k0_) * (1024 : Int32)) + ((Int32.ofNat k4_) * ((Int32.ofNat k2_) - (Int32.ofNat k0_))))) (4688247212092686336 : UInt64))), .second, .unset, .unset] [])) _
  refine OGo.step (fun _ kk => XS.iload X44.here hx rfl (hb hby at_161) rfl kk) ?_
  show OGo p e below (T44.setTop (mkF m 163 #[.val (.int p1), .val (.int p2), .val (.int p3), .val (.int p4), .val (.int p5), .val (.int (Int32.ofNat k0_)), .val (.int (Int32.ofNat k1_)), .val (.int (Int32.ofNat k2_)), .val (.int (Int32.ofNat k3_)), .val (.int (Int32.ofNat k4_)), .val (.ref m1), .val (.ref m2), .val (.ref r), .val (.int (((Int32.ofNat k0_) * (1024 : Int32)) + ((Int32.ofNat k4_) * ((Int32.ofNat k2_) - (Int32.ofNat k0_))))), .val (.int (((Int32.ofNat k1_) * (1024 : Int32)) + ((Int32.ofNat k4_) * ((Int32.ofNat k3_) - (Int32.ofNat k1_))))), .val (.double (FP.ddiv (FP.i2d (((Int32.ofNat k0_) * (1024 : Int32)) + ((Int32.ofNat k4_) * ((Int32.ofNat k2_) - (Int32.ofNat k0_))))) (4688247212092686336 : UInt64))), .second, .unset, .unset] [(.int (((Int32.ofNat k1_) * (1024 : Int32)) + ((Int32.ofNat k4_) * ((Int32.ofNat k3_) - (Int32.ofNat k1_)))))])) _
  refine OGo.step (fun _ kk => XS.i2dS X44.here hx rfl (hb hby at_163) rfl rfl kk) ?_
  show OGo p e below (T44.setTop (mkF m 164 #[.val (.int p1), .val (.int p2), .val (.int p3), .val (.int p4), .val (.int p5), .val (.int (Int32.ofNat k0_)), .val (.int (Int32.ofNat k1_)), .val (.int (Int32.ofNat k2_)), .val (.int (Int32.ofNat k3_)), .val (.int (Int32.ofNat k4_)), .val (.ref m1), .val (.ref m2), .val (.ref r), .val (.int (((Int32.ofNat k0_) * (1024 : Int32)) + ((Int32.ofNat k4_) * ((Int32.ofNat k2_) - (Int32.ofNat k0_))))), .val (.int (((Int32.ofNat k1_) * (1024 : Int32)) + ((Int32.ofNat k4_) * ((Int32.ofNat k3_) - (Int32.ofNat k1_))))), .val (.double (FP.ddiv (FP.i2d (((Int32.ofNat k0_) * (1024 : Int32)) + ((Int32.ofNat k4_) * ((Int32.ofNat k2_) - (Int32.ofNat k0_))))) (4688247212092686336 : UInt64))), .second, .unset, .unset] [(.double (FP.i2d (((Int32.ofNat k1_) * (1024 : Int32)) + ((Int32.ofNat k4_) * ((Int32.ofNat k3_) - (Int32.ofNat k1_))))))])) _
  refine OGo.step (fun _ kk => X44.ldc2DoubleC hx hown (mvT hZ (hw _ (List.mem_of_getElem? (i := 28) rfl))) (g := (mkF m 164 #[.val (.int p1), .val (.int p2), .val (.int p3), .val (.int p4), .val (.int p5), .val (.int (Int32.ofNat k0_)), .val (.int (Int32.ofNat k1_)), .val (.int (Int32.ofNat k2_)), .val (.int (Int32.ofNat k3_)), .val (.int (Int32.ofNat k4_)), .val (.ref m1), .val (.ref m2), .val (.ref r), .val (.int (((Int32.ofNat k0_) * (1024 : Int32)) + ((Int32.ofNat k4_) * ((Int32.ofNat k2_) - (Int32.ofNat k0_))))), .val (.int (((Int32.ofNat k1_) * (1024 : Int32)) + ((Int32.ofNat k4_) * ((Int32.ofNat k3_) - (Int32.ofNat k1_))))), .val (.double (FP.ddiv (FP.i2d (((Int32.ofNat k0_) * (1024 : Int32)) + ((Int32.ofNat k4_) * ((Int32.ofNat k2_) - (Int32.ofNat k0_))))) (4688247212092686336 : UInt64))), .second, .unset, .unset] [(.double (FP.i2d (((Int32.ofNat k1_) * (1024 : Int32)) + ((Int32.ofNat k4_) * ((Int32.ofNat k3_) - (Int32.ofNat k1_))))))])) rfl (hb hby at_164) _ kk) ?_
  show OGo p e below (T44.setTop (mkF m 167 #[.val (.int p1), .val (.int p2), .val (.int p3), .val (.int p4), .val (.int p5), .val (.int (Int32.ofNat k0_)), .val (.int (Int32.ofNat k1_)), .val (.int (Int32.ofNat k2_)), .val (.int (Int32.ofNat k3_)), .val (.int (Int32.ofNat k4_)), .val (.ref m1), .val (.ref m2), .val (.ref r), .val (.int (((Int32.ofNat k0_) * (1024 : Int32)) + ((Int32.ofNat k4_) * ((Int32.ofNat k2_) - (Int32.ofNat k0_))))), .val (.int (((Int32.ofNat k1_) * (1024 : Int32)) + ((Int32.ofNat k4_) * ((Int32.ofNat k3_) - (Int32.ofNat k1_))))), .val (.double (FP.ddiv (FP.i2d (((Int32.ofNat k0_) * (1024 : Int32)) + ((Int32.ofNat k4_) * ((Int32.ofNat k2_) - (Int32.ofNat k0_))))) (4688247212092686336 : UInt64))), .second, .unset, .unset] [(.double (4688247212092686336 : UInt64)), (.double (FP.i2d (((Int32.ofNat k1_) * (1024 : Int32)) + ((Int32.ofNat k4_) * ((Int32.ofNat k3_) - (Int32.ofNat k1_))))))])) _
  refine OGo.step (fun _ kk => XS.ddivS X44.here hx rfl (hb hby at_167) rfl (own_V_not (own_exp hn1 hn3 hn4)) rfl kk) ?_
  show OGo p e below (T44.setTop (mkF m 168 #[.val (.int p1), .val (.int p2), .val (.int p3), .val (.int p4), .val (.int p5), .val (.int (Int32.ofNat k0_)), .val (.int (Int32.ofNat k1_)), .val (.int (Int32.ofNat k2_)), .val (.int (Int32.ofNat k3_)), .val (.int (Int32.ofNat k4_)), .val (.ref m1), .val (.ref m2), .val (.ref r), .val (.int (((Int32.ofNat k0_) * (1024 : Int32)) + ((Int32.ofNat k4_) * ((Int32.ofNat k2_) - (Int32.ofNat k0_))))), .val (.int (((Int32.ofNat k1_) * (1024 : Int32)) + ((Int32.ofNat k4_) * ((Int32.ofNat k3_) - (Int32.ofNat k1_))))), .val (.double (FP.ddiv (FP.i2d (((Int32.ofNat k0_) * (1024 : Int32)) + ((Int32.ofNat k4_) * ((Int32.ofNat k2_) - (Int32.ofNat k0_))))) (4688247212092686336 : UInt64))), .second, .unset, .unset] [(.double (FP.ddiv (FP.i2d (((Int32.ofNat k1_) * (1024 : Int32)) + ((Int32.ofNat k4_) * ((Int32.ofNat k3_) - (Int32.ofNat k1_))))) (4688247212092686336 : UInt64)))])) _
  refine OGo.step (fun _ kk => XS.dstore X44.here hx rfl (hb hby at_168) rfl (l' := #[.val (.int p1), .val (.int p2), .val (.int p3), .val (.int p4), .val (.int p5), .val (.int (Int32.ofNat k0_)), .val (.int (Int32.ofNat k1_)), .val (.int (Int32.ofNat k2_)), .val (.int (Int32.ofNat k3_)), .val (.int (Int32.ofNat k4_)), .val (.ref m1), .val (.ref m2), .val (.ref r), .val (.int (((Int32.ofNat k0_) * (1024 : Int32)) + ((Int32.ofNat k4_) * ((Int32.ofNat k2_) - (Int32.ofNat k0_))))), .val (.int (((Int32.ofNat k1_) * (1024 : Int32)) + ((Int32.ofNat k4_) * ((Int32.ofNat k3_) - (Int32.ofNat k1_))))), .val (.double (FP.ddiv (FP.i2d (((Int32.ofNat k0_) * (1024 : Int32)) + ((Int32.ofNat k4_) * ((Int32.ofNat k2_) - (Int32.ofNat k0_))))) (4688247212092686336 : UInt64))), .second, .val (.double (FP.ddiv (FP.i2d (((Int32.ofNat k1_) * (1024 : Int32)) + ((Int32.ofNat k4_) * ((Int32.ofNat k3_) - (Int32.ofNat k1_))))) (4688247212092686336 : UInt64))), .second]) rfl kk) ?_
  show OGo p e below (T44.setTop (mkF m 170 #[.val (.int p1), .val (.int p2), .val (.int p3), .val (.int p4), .val (.int p5), .val (.int (Int32.ofNat k0_)), .val (.int (Int32.ofNat k1_)), .val (.int (Int32.ofNat k2_)), .val (.int (Int32.ofNat k3_)), .val (.int (Int32.ofNat k4_)), .val (.ref m1), .val (.ref m2), .val (.ref r), .val (.int (((Int32.ofNat k0_) * (1024 : Int32)) + ((Int32.ofNat k4_) * ((Int32.ofNat k2_) - (Int32.ofNat k0_))))), .val (.int (((Int32.ofNat k1_) * (1024 : Int32)) + ((Int32.ofNat k4_) * ((Int32.ofNat k3_) - (Int32.ofNat k1_))))), .val (.double (FP.ddiv (FP.i2d (((Int32.ofNat k0_) * (1024 : Int32)) + ((Int32.ofNat k4_) * ((Int32.ofNat k2_) - (Int32.ofNat k0_))))) (4688247212092686336 : UInt64))), .second, .val (.double (FP.ddiv (FP.i2d (((Int32.ofNat k1_) * (1024 : Int32)) + ((Int32.ofNat k4_) * ((Int32.ofNat k3_) - (Int32.ofNat k1_))))) (4688247212092686336 : UInt64))), .second] [])) _
  refine OGo.step (fun _ kk => XS.aload X44.here hx rfl (hb hby at_170) rfl rfl kk) ?_
  show OGo p e below (T44.setTop (mkF m 172 #[.val (.int p1), .val (.int p2), .val (.int p3), .val (.int p4), .val (.int p5), .val (.int (Int32.ofNat k0_)), .val (.int (Int32.ofNat k1_)), .val (.int (Int32.ofNat k2_)), .val (.int (Int32.ofNat k3_)), .val (.int (Int32.ofNat k4_)), .val (.ref m1), .val (.ref m2), .val (.ref r), .val (.int (((Int32.ofNat k0_) * (1024 : Int32)) + ((Int32.ofNat k4_) * ((Int32.ofNat k2_) - (Int32.ofNat k0_))))), .val (.int (((Int32.ofNat k1_) * (1024 : Int32)) + ((Int32.ofNat k4_) * ((Int32.ofNat k3_) - (Int32.ofNat k1_))))), .val (.double (FP.ddiv (FP.i2d (((Int32.ofNat k0_) * (1024 : Int32)) + ((Int32.ofNat k4_) * ((Int32.ofNat k2_) - (Int32.ofNat k0_))))) (4688247212092686336 : UInt64))), .second, .val (.double (FP.ddiv (FP.i2d (((Int32.ofNat k1_) * (1024 : Int32)) + ((Int32.ofNat k4_) * ((Int32.ofNat k3_) - (Int32.ofNat k1_))))) (4688247212092686336 : UInt64))), .second] [(.ref r)])) _
  refine OGo.step (fun _ kk => XS.iconst X44.here hx rfl (hb hby at_172) kk) ?_
  show OGo p e below (T44.setTop (mkF m 173 #[.val (.int p1), .val (.int p2), .val (.int p3), .val (.int p4), .val (.int p5), .val (.int (Int32.ofNat k0_)), .val (.int (Int32.ofNat k1_)), .val (.int (Int32.ofNat k2_)), .val (.int (Int32.ofNat k3_)), .val (.int (Int32.ofNat k4_)), .val (.ref m1), .val (.ref m2), .val (.ref r), .val (.int (((Int32.ofNat k0_) * (1024 : Int32)) + ((Int32.ofNat k4_) * ((Int32.ofNat k2_) - (Int32.ofNat k0_))))), .val (.int (((Int32.ofNat k1_) * (1024 : Int32)) + ((Int32.ofNat k4_) * ((Int32.ofNat k3_) - (Int32.ofNat k1_))))), .val (.double (FP.ddiv (FP.i2d (((Int32.ofNat k0_) * (1024 : Int32)) + ((Int32.ofNat k4_) * ((Int32.ofNat k2_) - (Int32.ofNat k0_))))) (4688247212092686336 : UInt64))), .second, .val (.double (FP.ddiv (FP.i2d (((Int32.ofNat k1_) * (1024 : Int32)) + ((Int32.ofNat k4_) * ((Int32.ofNat k3_) - (Int32.ofNat k1_))))) (4688247212092686336 : UInt64))), .second] [(.int (0 : Int32)), (.ref r)])) _
  obtain ⟨cw, Aw, qw, Sw, Mw, Hw, Gw⟩ := id Vw
  refine OGo.step (fun _ kk => X44.daload hx (j := (0 : Int32)) (v := (.double w0)) (Aw).1 (State.isArrayOf_alike hZ.alike (Aw).2.1) (Aw).2.2 (inb_of Sw ⟨by decide, by decide⟩) (Hw 0 (by rw [Sw]; decide)) (g := (mkF m 173 #[.val (.int p1), .val (.int p2), .val (.int p3), .val (.int p4), .val (.int p5), .val (.int (Int32.ofNat k0_)), .val (.int (Int32.ofNat k1_)), .val (.int (Int32.ofNat k2_)), .val (.int (Int32.ofNat k3_)), .val (.int (Int32.ofNat k4_)), .val (.ref m1), .val (.ref m2), .val (.ref r), .val (.int (((Int32.ofNat k0_) * (1024 : Int32)) + ((Int32.ofNat k4_) * ((Int32.ofNat k2_) - (Int32.ofNat k0_))))), .val (.int (((Int32.ofNat k1_) * (1024 : Int32)) + ((Int32.ofNat k4_) * ((Int32.ofNat k3_) - (Int32.ofNat k1_))))), .val (.double (FP.ddiv (FP.i2d (((Int32.ofNat k0_) * (1024 : Int32)) + ((Int32.ofNat k4_) * ((Int32.ofNat k2_) - (Int32.ofNat k0_))))) (4688247212092686336 : UInt64))), .second, .val (.double (FP.ddiv (FP.i2d (((Int32.ofNat k1_) * (1024 : Int32)) + ((Int32.ofNat k4_) * ((Int32.ofNat k3_) - (Int32.ofNat k1_))))) (4688247212092686336 : UInt64))), .second] [(.int (0 : Int32)), (.ref r)])) rfl rfl (hb hby at_173) _ kk) ?_
  show OGo p e below (T44.setTop (mkF m 174 #[.val (.int p1), .val (.int p2), .val (.int p3), .val (.int p4), .val (.int p5), .val (.int (Int32.ofNat k0_)), .val (.int (Int32.ofNat k1_)), .val (.int (Int32.ofNat k2_)), .val (.int (Int32.ofNat k3_)), .val (.int (Int32.ofNat k4_)), .val (.ref m1), .val (.ref m2), .val (.ref r), .val (.int (((Int32.ofNat k0_) * (1024 : Int32)) + ((Int32.ofNat k4_) * ((Int32.ofNat k2_) - (Int32.ofNat k0_))))), .val (.int (((Int32.ofNat k1_) * (1024 : Int32)) + ((Int32.ofNat k4_) * ((Int32.ofNat k3_) - (Int32.ofNat k1_))))), .val (.double (FP.ddiv (FP.i2d (((Int32.ofNat k0_) * (1024 : Int32)) + ((Int32.ofNat k4_) * ((Int32.ofNat k2_) - (Int32.ofNat k0_))))) (4688247212092686336 : UInt64))), .second, .val (.double (FP.ddiv (FP.i2d (((Int32.ofNat k1_) * (1024 : Int32)) + ((Int32.ofNat k4_) * ((Int32.ofNat k3_) - (Int32.ofNat k1_))))) (4688247212092686336 : UInt64))), .second] [(.double w0)])) _
  refine OGo.step (fun _ kk => XS.dload X44.here hx rfl (hb hby at_174) rfl kk) ?_
  show OGo p e below (T44.setTop (mkF m 176 #[.val (.int p1), .val (.int p2), .val (.int p3), .val (.int p4), .val (.int p5), .val (.int (Int32.ofNat k0_)), .val (.int (Int32.ofNat k1_)), .val (.int (Int32.ofNat k2_)), .val (.int (Int32.ofNat k3_)), .val (.int (Int32.ofNat k4_)), .val (.ref m1), .val (.ref m2), .val (.ref r), .val (.int (((Int32.ofNat k0_) * (1024 : Int32)) + ((Int32.ofNat k4_) * ((Int32.ofNat k2_) - (Int32.ofNat k0_))))), .val (.int (((Int32.ofNat k1_) * (1024 : Int32)) + ((Int32.ofNat k4_) * ((Int32.ofNat k3_) - (Int32.ofNat k1_))))), .val (.double (FP.ddiv (FP.i2d (((Int32.ofNat k0_) * (1024 : Int32)) + ((Int32.ofNat k4_) * ((Int32.ofNat k2_) - (Int32.ofNat k0_))))) (4688247212092686336 : UInt64))), .second, .val (.double (FP.ddiv (FP.i2d (((Int32.ofNat k1_) * (1024 : Int32)) + ((Int32.ofNat k4_) * ((Int32.ofNat k3_) - (Int32.ofNat k1_))))) (4688247212092686336 : UInt64))), .second] [(.double (FP.ddiv (FP.i2d (((Int32.ofNat k0_) * (1024 : Int32)) + ((Int32.ofNat k4_) * ((Int32.ofNat k2_) - (Int32.ofNat k0_))))) (4688247212092686336 : UInt64))), (.double w0)])) _
  refine OGo.step (fun _ kk => XS.dcmpS X44.here hx rfl (hb hby at_176) rfl rfl kk) ?_
  show OGo p e below (T44.setTop (mkF m 177 #[.val (.int p1), .val (.int p2), .val (.int p3), .val (.int p4), .val (.int p5), .val (.int (Int32.ofNat k0_)), .val (.int (Int32.ofNat k1_)), .val (.int (Int32.ofNat k2_)), .val (.int (Int32.ofNat k3_)), .val (.int (Int32.ofNat k4_)), .val (.ref m1), .val (.ref m2), .val (.ref r), .val (.int (((Int32.ofNat k0_) * (1024 : Int32)) + ((Int32.ofNat k4_) * ((Int32.ofNat k2_) - (Int32.ofNat k0_))))), .val (.int (((Int32.ofNat k1_) * (1024 : Int32)) + ((Int32.ofNat k4_) * ((Int32.ofNat k3_) - (Int32.ofNat k1_))))), .val (.double (FP.ddiv (FP.i2d (((Int32.ofNat k0_) * (1024 : Int32)) + ((Int32.ofNat k4_) * ((Int32.ofNat k2_) - (Int32.ofNat k0_))))) (4688247212092686336 : UInt64))), .second, .val (.double (FP.ddiv (FP.i2d (((Int32.ofNat k1_) * (1024 : Int32)) + ((Int32.ofNat k4_) * ((Int32.ofNat k3_) - (Int32.ofNat k1_))))) (4688247212092686336 : UInt64))), .second] [(.int (cmpValue (FP.dcmp w0 (FP.ddiv (FP.i2d (((Int32.ofNat k0_) * (1024 : Int32)) + ((Int32.ofNat k4_) * ((Int32.ofNat k2_) - (Int32.ofNat k0_))))) (4688247212092686336 : UInt64))) .l))])) _
  refine OGo.step (fun _ kk => XS.ifNo X44.here hx rfl (hb hby at_177) rfl ((if0 _ _).trans (teq (own_eq hw0 (own_exp hn0 hn2 hn4) (by decide))).2) kk) ?_
  show OGo p e below (T44.setTop (mkF m 180 #[.val (.int p1), .val (.int p2), .val (.int p3), .val (.int p4), .val (.int p5), .val (.int (Int32.ofNat k0_)), .val (.int (Int32.ofNat k1_)), .val (.int (Int32.ofNat k2_)), .val (.int (Int32.ofNat k3_)), .val (.int (Int32.ofNat k4_)), .val (.ref m1), .val (.ref m2), .val (.ref r), .val (.int (((Int32.ofNat k0_) * (1024 : Int32)) + ((Int32.ofNat k4_) * ((Int32.ofNat k2_) - (Int32.ofNat k0_))))), .val (.int (((Int32.ofNat k1_) * (1024 : Int32)) + ((Int32.ofNat k4_) * ((Int32.ofNat k3_) - (Int32.ofNat k1_))))), .val (.double (FP.ddiv (FP.i2d (((Int32.ofNat k0_) * (1024 : Int32)) + ((Int32.ofNat k4_) * ((Int32.ofNat k2_) - (Int32.ofNat k0_))))) (4688247212092686336 : UInt64))), .second, .val (.double (FP.ddiv (FP.i2d (((Int32.ofNat k1_) * (1024 : Int32)) + ((Int32.ofNat k4_) * ((Int32.ofNat k3_) - (Int32.ofNat k1_))))) (4688247212092686336 : UInt64))), .second] [])) _
  refine OGo.step (fun _ kk => XS.aload X44.here hx rfl (hb hby at_180) rfl rfl kk) ?_
  show OGo p e below (T44.setTop (mkF m 182 #[.val (.int p1), .val (.int p2), .val (.int p3), .val (.int p4), .val (.int p5), .val (.int (Int32.ofNat k0_)), .val (.int (Int32.ofNat k1_)), .val (.int (Int32.ofNat k2_)), .val (.int (Int32.ofNat k3_)), .val (.int (Int32.ofNat k4_)), .val (.ref m1), .val (.ref m2), .val (.ref r), .val (.int (((Int32.ofNat k0_) * (1024 : Int32)) + ((Int32.ofNat k4_) * ((Int32.ofNat k2_) - (Int32.ofNat k0_))))), .val (.int (((Int32.ofNat k1_) * (1024 : Int32)) + ((Int32.ofNat k4_) * ((Int32.ofNat k3_) - (Int32.ofNat k1_))))), .val (.double (FP.ddiv (FP.i2d (((Int32.ofNat k0_) * (1024 : Int32)) + ((Int32.ofNat k4_) * ((Int32.ofNat k2_) - (Int32.ofNat k0_))))) (4688247212092686336 : UInt64))), .second, .val (.double (FP.ddiv (FP.i2d (((Int32.ofNat k1_) * (1024 : Int32)) + ((Int32.ofNat k4_) * ((Int32.ofNat k3_) - (Int32.ofNat k1_))))) (4688247212092686336 : UInt64))), .second] [(.ref r)])) _
  refine OGo.step (fun _ kk => XS.iconst X44.here hx rfl (hb hby at_182) kk) ?_
  show OGo p e below (T44.setTop (mkF m 183 #[.val (.int p1), .val (.int p2), .val (.int p3), .val (.int p4), .val (.int p5), .val (.int (Int32.ofNat k0_)), .val (.int (Int32.ofNat k1_)), .val (.int (Int32.ofNat k2_)), .val (.int (Int32.ofNat k3_)), .val (.int (Int32.ofNat k4_)), .val (.ref m1), .val (.ref m2), .val (.ref r), .val (.int (((Int32.ofNat k0_) * (1024 : Int32)) + ((Int32.ofNat k4_) * ((Int32.ofNat k2_) - (Int32.ofNat k0_))))), .val (.int (((Int32.ofNat k1_) * (1024 : Int32)) + ((Int32.ofNat k4_) * ((Int32.ofNat k3_) - (Int32.ofNat k1_))))), .val (.double (FP.ddiv (FP.i2d (((Int32.ofNat k0_) * (1024 : Int32)) + ((Int32.ofNat k4_) * ((Int32.ofNat k2_) - (Int32.ofNat k0_))))) (4688247212092686336 : UInt64))), .second, .val (.double (FP.ddiv (FP.i2d (((Int32.ofNat k1_) * (1024 : Int32)) + ((Int32.ofNat k4_) * ((Int32.ofNat k3_) - (Int32.ofNat k1_))))) (4688247212092686336 : UInt64))), .second] [(.int (1 : Int32)), (.ref r)])) _
  refine OGo.step (fun _ kk => X44.daload hx (j := (1 : Int32)) (v := (.double w1)) (Aw).1 (State.isArrayOf_alike hZ.alike (Aw).2.1) (Aw).2.2 (inb_of Sw ⟨by decide, by decide⟩) (Hw 1 (by rw [Sw]; decide)) (g := (mkF m 183 #[.val (.int p1), .val (.int p2), .val (.int p3), .val (.int p4), .val (.int p5), .val (.int (Int32.ofNat k0_)), .val (.int (Int32.ofNat k1_)), .val (.int (Int32.ofNat k2_)), .val (.int (Int32.ofNat k3_)), .val (.int (Int32.ofNat k4_)), .val (.ref m1), .val (.ref m2), .val (.ref r), .val (.int (((Int32.ofNat k0_) * (1024 : Int32)) + ((Int32.ofNat k4_) * ((Int32.ofNat k2_) - (Int32.ofNat k0_))))), .val (.int (((Int32.ofNat k1_) * (1024 : Int32)) + ((Int32.ofNat k4_) * ((Int32.ofNat k3_) - (Int32.ofNat k1_))))), .val (.double (FP.ddiv (FP.i2d (((Int32.ofNat k0_) * (1024 : Int32)) + ((Int32.ofNat k4_) * ((Int32.ofNat k2_) - (Int32.ofNat k0_))))) (4688247212092686336 : UInt64))), .second, .val (.double (FP.ddiv (FP.i2d (((Int32.ofNat k1_) * (1024 : Int32)) + ((Int32.ofNat k4_) * ((Int32.ofNat k3_) - (Int32.ofNat k1_))))) (4688247212092686336 : UInt64))), .second] [(.int (1 : Int32)), (.ref r)])) rfl rfl (hb hby at_183) _ kk) ?_
  show OGo p e below (T44.setTop (mkF m 184 #[.val (.int p1), .val (.int p2), .val (.int p3), .val (.int p4), .val (.int p5), .val (.int (Int32.ofNat k0_)), .val (.int (Int32.ofNat k1_)), .val (.int (Int32.ofNat k2_)), .val (.int (Int32.ofNat k3_)), .val (.int (Int32.ofNat k4_)), .val (.ref m1), .val (.ref m2), .val (.ref r), .val (.int (((Int32.ofNat k0_) * (1024 : Int32)) + ((Int32.ofNat k4_) * ((Int32.ofNat k2_) - (Int32.ofNat k0_))))), .val (.int (((Int32.ofNat k1_) * (1024 : Int32)) + ((Int32.ofNat k4_) * ((Int32.ofNat k3_) - (Int32.ofNat k1_))))), .val (.double (FP.ddiv (FP.i2d (((Int32.ofNat k0_) * (1024 : Int32)) + ((Int32.ofNat k4_) * ((Int32.ofNat k2_) - (Int32.ofNat k0_))))) (4688247212092686336 : UInt64))), .second, .val (.double (FP.ddiv (FP.i2d (((Int32.ofNat k1_) * (1024 : Int32)) + ((Int32.ofNat k4_) * ((Int32.ofNat k3_) - (Int32.ofNat k1_))))) (4688247212092686336 : UInt64))), .second] [(.double w1)])) _
  refine OGo.step (fun _ kk => XS.dload X44.here hx rfl (hb hby at_184) rfl kk) ?_
  show OGo p e below (T44.setTop (mkF m 186 #[.val (.int p1), .val (.int p2), .val (.int p3), .val (.int p4), .val (.int p5), .val (.int (Int32.ofNat k0_)), .val (.int (Int32.ofNat k1_)), .val (.int (Int32.ofNat k2_)), .val (.int (Int32.ofNat k3_)), .val (.int (Int32.ofNat k4_)), .val (.ref m1), .val (.ref m2), .val (.ref r), .val (.int (((Int32.ofNat k0_) * (1024 : Int32)) + ((Int32.ofNat k4_) * ((Int32.ofNat k2_) - (Int32.ofNat k0_))))), .val (.int (((Int32.ofNat k1_) * (1024 : Int32)) + ((Int32.ofNat k4_) * ((Int32.ofNat k3_) - (Int32.ofNat k1_))))), .val (.double (FP.ddiv (FP.i2d (((Int32.ofNat k0_) * (1024 : Int32)) + ((Int32.ofNat k4_) * ((Int32.ofNat k2_) - (Int32.ofNat k0_))))) (4688247212092686336 : UInt64))), .second, .val (.double (FP.ddiv (FP.i2d (((Int32.ofNat k1_) * (1024 : Int32)) + ((Int32.ofNat k4_) * ((Int32.ofNat k3_) - (Int32.ofNat k1_))))) (4688247212092686336 : UInt64))), .second] [(.double (FP.ddiv (FP.i2d (((Int32.ofNat k1_) * (1024 : Int32)) + ((Int32.ofNat k4_) * ((Int32.ofNat k3_) - (Int32.ofNat k1_))))) (4688247212092686336 : UInt64))), (.double w1)])) _
  refine OGo.step (fun _ kk => XS.dcmpS X44.here hx rfl (hb hby at_186) rfl rfl kk) ?_
  show OGo p e below (T44.setTop (mkF m 187 #[.val (.int p1), .val (.int p2), .val (.int p3), .val (.int p4), .val (.int p5), .val (.int (Int32.ofNat k0_)), .val (.int (Int32.ofNat k1_)), .val (.int (Int32.ofNat k2_)), .val (.int (Int32.ofNat k3_)), .val (.int (Int32.ofNat k4_)), .val (.ref m1), .val (.ref m2), .val (.ref r), .val (.int (((Int32.ofNat k0_) * (1024 : Int32)) + ((Int32.ofNat k4_) * ((Int32.ofNat k2_) - (Int32.ofNat k0_))))), .val (.int (((Int32.ofNat k1_) * (1024 : Int32)) + ((Int32.ofNat k4_) * ((Int32.ofNat k3_) - (Int32.ofNat k1_))))), .val (.double (FP.ddiv (FP.i2d (((Int32.ofNat k0_) * (1024 : Int32)) + ((Int32.ofNat k4_) * ((Int32.ofNat k2_) - (Int32.ofNat k0_))))) (4688247212092686336 : UInt64))), .second, .val (.double (FP.ddiv (FP.i2d (((Int32.ofNat k1_) * (1024 : Int32)) + ((Int32.ofNat k4_) * ((Int32.ofNat k3_) - (Int32.ofNat k1_))))) (4688247212092686336 : UInt64))), .second] [(.int (cmpValue (FP.dcmp w1 (FP.ddiv (FP.i2d (((Int32.ofNat k1_) * (1024 : Int32)) + ((Int32.ofNat k4_) * ((Int32.ofNat k3_) - (Int32.ofNat k1_))))) (4688247212092686336 : UInt64))) .l))])) _
  refine OGo.step (fun _ kk => XS.ifNo X44.here hx rfl (hb hby at_187) rfl ((if0 _ _).trans (teq (own_eq hw1 (own_exp hn1 hn3 hn4) (by decide))).2) kk) ?_
  show OGo p e below (T44.setTop (mkF m 190 #[.val (.int p1), .val (.int p2), .val (.int p3), .val (.int p4), .val (.int p5), .val (.int (Int32.ofNat k0_)), .val (.int (Int32.ofNat k1_)), .val (.int (Int32.ofNat k2_)), .val (.int (Int32.ofNat k3_)), .val (.int (Int32.ofNat k4_)), .val (.ref m1), .val (.ref m2), .val (.ref r), .val (.int (((Int32.ofNat k0_) * (1024 : Int32)) + ((Int32.ofNat k4_) * ((Int32.ofNat k2_) - (Int32.ofNat k0_))))), .val (.int (((Int32.ofNat k1_) * (1024 : Int32)) + ((Int32.ofNat k4_) * ((Int32.ofNat k3_) - (Int32.ofNat k1_))))), .val (.double (FP.ddiv (FP.i2d (((Int32.ofNat k0_) * (1024 : Int32)) + ((Int32.ofNat k4_) * ((Int32.ofNat k2_) - (Int32.ofNat k0_))))) (4688247212092686336 : UInt64))), .second, .val (.double (FP.ddiv (FP.i2d (((Int32.ofNat k1_) * (1024 : Int32)) + ((Int32.ofNat k4_) * ((Int32.ofNat k3_) - (Int32.ofNat k1_))))) (4688247212092686336 : UInt64))), .second] [])) _
  refine OGo.step (fun _ kk => XS.iconst X44.here hx rfl (hb hby at_190) kk) ?_
  show OGo p e below (T44.setTop (mkF m 191 #[.val (.int p1), .val (.int p2), .val (.int p3), .val (.int p4), .val (.int p5), .val (.int (Int32.ofNat k0_)), .val (.int (Int32.ofNat k1_)), .val (.int (Int32.ofNat k2_)), .val (.int (Int32.ofNat k3_)), .val (.int (Int32.ofNat k4_)), .val (.ref m1), .val (.ref m2), .val (.ref r), .val (.int (((Int32.ofNat k0_) * (1024 : Int32)) + ((Int32.ofNat k4_) * ((Int32.ofNat k2_) - (Int32.ofNat k0_))))), .val (.int (((Int32.ofNat k1_) * (1024 : Int32)) + ((Int32.ofNat k4_) * ((Int32.ofNat k3_) - (Int32.ofNat k1_))))), .val (.double (FP.ddiv (FP.i2d (((Int32.ofNat k0_) * (1024 : Int32)) + ((Int32.ofNat k4_) * ((Int32.ofNat k2_) - (Int32.ofNat k0_))))) (4688247212092686336 : UInt64))), .second, .val (.double (FP.ddiv (FP.i2d (((Int32.ofNat k1_) * (1024 : Int32)) + ((Int32.ofNat k4_) * ((Int32.ofNat k3_) - (Int32.ofNat k1_))))) (4688247212092686336 : UInt64))), .second] [(.int (1 : Int32))])) _
  refine OGo.step (fun _ kk => XS.goto X44.here hx rfl (pc0 := 191) (pc' := 195) rfl (hb hby at_191) (by decide) (by decide) kk) ?_
  show OGo p e below (T44.setTop (mkF m 195 #[.val (.int p1), .val (.int p2), .val (.int p3), .val (.int p4), .val (.int p5), .val (.int (Int32.ofNat k0_)), .val (.int (Int32.ofNat k1_)), .val (.int (Int32.ofNat k2_)), .val (.int (Int32.ofNat k3_)), .val (.int (Int32.ofNat k4_)), .val (.ref m1), .val (.ref m2), .val (.ref r), .val (.int (((Int32.ofNat k0_) * (1024 : Int32)) + ((Int32.ofNat k4_) * ((Int32.ofNat k2_) - (Int32.ofNat k0_))))), .val (.int (((Int32.ofNat k1_) * (1024 : Int32)) + ((Int32.ofNat k4_) * ((Int32.ofNat k3_) - (Int32.ofNat k1_))))), .val (.double (FP.ddiv (FP.i2d (((Int32.ofNat k0_) * (1024 : Int32)) + ((Int32.ofNat k4_) * ((Int32.ofNat k2_) - (Int32.ofNat k0_))))) (4688247212092686336 : UInt64))), .second, .val (.double (FP.ddiv (FP.i2d (((Int32.ofNat k1_) * (1024 : Int32)) + ((Int32.ofNat k4_) * ((Int32.ofNat k3_) - (Int32.ofNat k1_))))) (4688247212092686336 : UInt64))), .second] [(.int (1 : Int32))])) _
  exact own_retN X44 hx hlk hret (by simp) (hb hby at_195) ⟨rfl, Nc44⟩ (by decide) (by decide)

set_option maxRecDepth 65536 in
set_option maxHeartbeats 40000000 in
theorem comes_1 {Post : Tables → Env → Array Value → State → Outcome → State → Prop} (hpost : ∀ tb e args s v u, (limb_1_1.after args s (.returned v) u = true ∧ limb_1_2.after args s (.returned v) u = true ∧ True) → FrameEnd s (.returned v) u (Jvm.fieldLocs frame_1_writes args s ++ Jvm.arrayLocs frame_1_arrays args s ++ Jvm.staticLocs frame_1_statics s) 16 128 → Post tb e args s (.returned v) u) :
    ArmFor flags0 classFile x code maxLocals ret World_1 tables_1 room_1 Calls_1 rest_1 Pre_1 Post := by
  intro l hfl _ _ p e ha hc hk s m args below hf hA hF happ hP
  obtain ⟨hcalls, hrest, hpre⟩ := hP
  obtain ⟨-, -, -, hnamed, -, -, -, hat⟩ := (Spec.applies_iff hf).mp happ
  obtain ⟨hg, hn⟩ := and_e (Cond.before_iff.mp (show (Jvm.Cond.and given_1 narrow_1).before args s = true from hpre))
  obtain ⟨k45, k45'⟩ := and_e hg
  obtain ⟨k46, k46'⟩ := and_e k45'
  obtain ⟨k47, k47'⟩ := and_e k46'
  obtain ⟨k48, k48'⟩ := and_e k47'
  obtain ⟨k49, k49'⟩ := and_e k48'
  obtain ⟨w0_, w1_, w2_, w3_, w4_, rfl⟩ : ∃ w0_ w1_ w2_ w3_ w4_ : Value, args = #[w0_, w1_, w2_, w3_, w4_] := by
    have hs : args.size = 5 := by simpa [Cond.value, given_1] using k45
    obtain ⟨L⟩ := args
    match L, hs with
    | [w0_, w1_, w2_, w3_, w4_], _ => exact ⟨w0_, w1_, w2_, w3_, w4_, rfl⟩
  have hw := fun d (hd : d ∈ tables_1) => atoms_spec (ws := Jvm.Cond.code x code maxLocals ret :: tables_1) hat d (List.mem_cons_of_mem _ hd)
  have hfit : Fit s := fun {y c} hc i hi => by
    obtain ⟨ha, rfl⟩ := Array.getElem?_eq_some_iff.mp hc
    have q := List.all_eq_true.mp ((Array.all_eq_true_iff_forall_mem.mp hF) _ (Array.getElem_mem ha)) i (List.mem_range.mpr hi)
    simpa [Array.getElem?_eq_getElem hi] using q
  obtain ⟨i0, ei0⟩ := is_v k46
  obtain rfl : w0_ = (.int i0) := Option.some.inj ei0
  obtain ⟨i1, ei1⟩ := is_v k47
  obtain rfl : w1_ = (.int i1) := Option.some.inj ei1
  obtain ⟨i2, ei2⟩ := is_v k48
  obtain rfl : w2_ = (.int i2) := Option.some.inj ei2
  obtain ⟨i3, ei3⟩ := is_v k49
  obtain rfl : w3_ = (.int i3) := Option.some.inj ei3
  obtain ⟨i4, ei4⟩ := is_v k49'
  obtain rfl : w4_ = (.int i4) := Option.some.inj ei4
  obtain ⟨n, o, h1, h2, h3, _, L, rfl, ⟨rfl, N⟩, hq⟩ := own_rm0 l s _ hw tables_1 i0 i1 i2 i3 i4  s.heap s.heap.size (Nat.le_refl _)  p e ha hc hk s m _ below hf ((Spec.applies_iff_loose hf).mp happ).1 ⟨rfl, State.Warmed39.refl s, rfl⟩ trivial
  exact ⟨n, _, h1, h2, h3, hpost _ _ _ _ _ _ ⟨Cond.after_iff.mpr rfl, Cond.after_iff.mpr (eq_i res_at (Term.int_eval (1)) rfl), trivial⟩ ⟨hq.1, hq.2.1, (hq.2.2.sift fun y hy => Or.inr (N y hy)).mono (by decide) (by decide)⟩⟩
theorem main_1_1 : Claimed_1_1 := comes_1 fun _ _ _ _ _ _ h hF => ⟨h.1, hF⟩
theorem main_1_2 : Claimed_1_2 := comes_1 fun _ _ _ _ _ _ h hF => ⟨h.2.1, hF⟩
end Jvm.Pilot.@@N@@
namespace Jvm.Pilot.@@N@@
open Jvm Jvm.ClassFile Sem Op Lib Jvm.Free Jvm.Stand Jvm.Pilot.@@N@@.Jvm.D
/-! MADE BY PROGRAM (witnessworld.py) out of the Statement's table words and the real class files: 12 classes; the members and pool entries that the words name. The judged class is class 1, her method 1. -/
namespace start1
open Jvm.ClassFile
def u (s : String) : CpInfo := .utf8 (stringToUtf16 s)
/-- a pool by its gaps: so many unusable entries, then the entry; so many at the end -/
def gap : Nat → List CpInfo → List CpInfo
  | 0, r => r
  | n + 1, r => .unusable :: gap n r
def poolList (es : List (Nat × CpInfo)) (last : Nat) : List CpInfo := es.foldr (fun e r => gap e.1 (e.2 :: r)) (gap last [])
def pool (es : List (Nat × CpInfo)) (last : Nat) : Array CpInfo := ⟨poolList es last⟩
def fileOf (pool : Array CpInfo) (this : Nat) (attrs : Array Attribute := #[]) (ms : Array MethodInfo := #[]) (fl : Nat := 33) (sup : Nat := 0) (ifs : Array Nat := #[]) (fds : Array FieldInfo := #[]) : ClassFile where
  minorVersion := 0
  majorVersion := 65
  constantPool := pool
  accessFlags := fl
  thisClass := this
  superClass := sup
  interfaces := ifs
  fields := fds
  methods := ms
  attributes := attrs
def plain (name : String) (sup : Option ClassId) : Class where
  name := name
  kind := .ordinary
  loader := none
  accessFlags := 33
  super := sup
  interfaces := #[]
  cf := none
  fields := #[]
  methods := #[]
  instanceTypes := #[]
  staticTypes := #[]
  resolved := #[]
  callSites := []
  init := .initialized
  statics := none
  mirror := none

def pool0 : Array CpInfo := pool [(5, u "<init>"), (0, u "()V"), (1, .class_ 10), (1, u "java/lang/Object")] 113

def k0c0 : Code := { maxStack := 0, maxLocals := 1, code := object_method_1_code, exceptionTable := #[], attributes := #[] }
def k0m0 : Method := { name := "<init>", desc := "()V", sig := { parameters := [], returnType := none }, accessFlags := 1, code := some k0c0 }
/-- java/lang/Object -/
def k0 : Class := { plain "java/lang/Object" none with
  accessFlags := 33
  interfaces := #[]
  cf := some (fileOf pool0 8 #[] #[{ accessFlags := 1, nameIndex := 5, descriptorIndex := 6, attributes := #[] }] 33 0 #[] #[])
  fields := #[]
  methods := #[k0m0]
  instanceTypes := #[]
  staticTypes := #[]
  resolved := Array.replicate 124 none
  statics := none }

def pool1 : Array CpInfo := pool [(2, .class_ 4), (1, u "java/lang/Object"), (0, u "<init>"), (0, u "()V"), (0, .integer 2147483647), (0, .class_ 9), (0, u "com/example/haze_to_match/hazetomatch/Membership"), (0, .double 4643211215818981376), (1, .methodref 8 13), (0, .nameAndType 5 14), (0, u "(DD)V"), (0, .double 4652218415073722368), (1, .methodref 8 18), (0, .nameAndType 19 20), (0, u "along"), (0, u "(Lcom/example/haze_to_match/hazetomatch/Membership;D[D)V"), (0, .double 4688247212092686336), (1, .class_ 24), (0, u "com/example/haze_to_match/hazetomatch/MembershipAlongPinLaw"), (2, u "law"), (0, u "(IIIII)Z")] 5

def k1m0 : Method := { name := "<init>", desc := "()V", sig := { parameters := [], returnType := none }, accessFlags := 1, code := none }
def k1c1 : Code := { maxStack := 8, maxLocals := 19, code := code, exceptionTable := #[], attributes := #[] }
def k1m1 : Method := { name := "law", desc := "(IIIII)Z", sig := { parameters := [.int, .int, .int, .int, .int], returnType := some .boolean }, accessFlags := 9, code := some k1c1 }
/-- com/example/haze_to_match/hazetomatch/MembershipAlongPinLaw -/
def k1 : Class := { plain "com/example/haze_to_match/hazetomatch/MembershipAlongPinLaw" (some 0) with
  accessFlags := 49
  interfaces := #[]
  cf := some (fileOf pool1 23 #[] #[{ accessFlags := 1, nameIndex := 5, descriptorIndex := 6, attributes := #[] }, { accessFlags := 9, nameIndex := 27, descriptorIndex := 28, attributes := #[] }] 49 2 #[] #[])
  fields := #[]
  methods := #[k1m0, k1m1]
  instanceTypes := #[]
  staticTypes := #[]
  resolved := Array.replicate 34 none
  statics := none }

def pool2 : Array CpInfo := pool [(1, .methodref 2 3), (0, .class_ 4), (0, .nameAndType 5 6), (0, u "java/lang/Object"), (0, u "<init>"), (0, u "()V"), (0, .class_ 8), (0, u "java/lang/Record")] 13

def k2c0 : Code := { maxStack := 1, maxLocals := 1, code := jdk_30_method_1_code, exceptionTable := #[], attributes := #[] }
def k2m0 : Method := { name := "<init>", desc := "()V", sig := { parameters := [], returnType := none }, accessFlags := 4, code := some k2c0 }
/-- java/lang/Record -/
def k2 : Class := { plain "java/lang/Record" (some 0) with
  accessFlags := 1057
  interfaces := #[]
  cf := some (fileOf pool2 7 #[] #[{ accessFlags := 4, nameIndex := 5, descriptorIndex := 6, attributes := #[] }] 1057 2 #[] #[])
  fields := #[]
  methods := #[k2m0]
  instanceTypes := #[]
  staticTypes := #[]
  resolved := Array.replicate 22 none
  statics := none }

def pool3 : Array CpInfo := pool [(1, .methodref 2 3), (0, .class_ 4), (0, .nameAndType 5 6), (0, u "java/lang/Record"), (0, u "<init>"), (0, u "()V"), (0, .fieldref 8 9), (0, .class_ 10), (0, .nameAndType 11 12), (0, u "com/example/haze_to_match/hazetomatch/Membership"), (0, u "value"), (0, u "D"), (0, .fieldref 8 14), (0, .nameAndType 15 12), (0, u "rest"), (0, .double 4602678819172646912), (15, u "(DD)V"), (2, u "ZERO"), (0, u "Lcom/example/haze_to_match/hazetomatch/Membership;"), (2, u "ONE"), (3, u "along"), (0, u "(Lcom/example/haze_to_match/hazetomatch/Membership;D[D)V")] 27

def k3c0 : Code := { maxStack := 3, maxLocals := 5, code := prog_54_method_1_code, exceptionTable := #[], attributes := #[] }
def k3m0 : Method := { name := "<init>", desc := "(DD)V", sig := { parameters := [.double, .double], returnType := none }, accessFlags := 0, code := some k3c0 }
def k3c1 : Code := { maxStack := 10, maxLocals := 7, code := prog_54_method_2_code, exceptionTable := #[], attributes := #[] }
def k3m1 : Method := { name := "along", desc := "(Lcom/example/haze_to_match/hazetomatch/Membership;D[D)V", sig := { parameters := [(.object "com/example/haze_to_match/hazetomatch/Membership"), .double, (.array .double)], returnType := none }, accessFlags := 0, code := some k3c1 }
/-- com/example/haze_to_match/hazetomatch/Membership -/
def k3 : Class := { plain "com/example/haze_to_match/hazetomatch/Membership" (some 2) with
  accessFlags := 48
  interfaces := #[]
  cf := some (fileOf pool3 8 #[] #[{ accessFlags := 0, nameIndex := 5, descriptorIndex := 32, attributes := #[] }, { accessFlags := 0, nameIndex := 43, descriptorIndex := 44, attributes := #[] }] 48 2 #[] #[{ accessFlags := 18, nameIndex := 11, descriptorIndex := 12, attributes := #[] }, { accessFlags := 18, nameIndex := 15, descriptorIndex := 12, attributes := #[] }, { accessFlags := 24, nameIndex := 35, descriptorIndex := 36, attributes := #[] }, { accessFlags := 24, nameIndex := 39, descriptorIndex := 36, attributes := #[] }])
  fields := #[{ name := "value", type := .double, accessFlags := 18, slot := 0, constantValue := 0 }, { name := "rest", type := .double, accessFlags := 18, slot := 1, constantValue := 0 }, { name := "ZERO", type := (.object "com/example/haze_to_match/hazetomatch/Membership"), accessFlags := 24, slot := 0, constantValue := 0 }, { name := "ONE", type := (.object "com/example/haze_to_match/hazetomatch/Membership"), accessFlags := 24, slot := 1, constantValue := 0 }]
  methods := #[k3m0, k3m1]
  instanceTypes := #[.double, .double]
  staticTypes := #[(.object "com/example/haze_to_match/hazetomatch/Membership"), (.object "com/example/haze_to_match/hazetomatch/Membership")]
  resolved := Array.replicate 72 none
  statics := none }

def pool4 : Array CpInfo := pool [(1, u "java/lang/Cloneable"), (0, .class_ 1), (0, u "java/lang/Object"), (0, .class_ 3)] 3

/-- java/lang/Cloneable -/
def k4 : Class := { plain "java/lang/Cloneable" (some 0) with
  accessFlags := 1537
  interfaces := #[]
  cf := some (fileOf pool4 2 #[] #[] 1537 4 #[] #[])
  fields := #[]
  methods := #[]
  instanceTypes := #[]
  staticTypes := #[]
  resolved := Array.replicate 8 none
  statics := none }

def pool5 : Array CpInfo := pool [(1, u "java/io/Serializable"), (0, .class_ 1), (0, u "java/lang/Object"), (0, .class_ 3)] 3

/-- java/io/Serializable -/
def k5 : Class := { plain "java/io/Serializable" (some 0) with
  accessFlags := 1537
  interfaces := #[]
  cf := some (fileOf pool5 2 #[] #[] 1537 4 #[] #[])
  fields := #[]
  methods := #[]
  instanceTypes := #[]
  staticTypes := #[]
  resolved := Array.replicate 8 none
  statics := none }

/-- the primitive byte -/
def k6 : Class := { plain "byte" none with kind := .primitive 'B', accessFlags := 0x411 }
/-- [B -/
def k7 : Class := { plain "[B" (some 0) with kind := .array 6 .byte, interfaces := #[4, 5], accessFlags := 1041 }

/-- the primitive double -/
def k8 : Class := { plain "double" none with kind := .primitive 'D', accessFlags := 0x411 }
/-- [D -/
def k9 : Class := { plain "[D" (some 0) with kind := .array 8 .double, interfaces := #[4, 5], accessFlags := 1041 }

/-- the primitive int -/
def k10 : Class := { plain "int" none with kind := .primitive 'I', accessFlags := 0x411 }
/-- [I -/
def k11 : Class := { plain "[I" (some 0) with kind := .array 10 .int, interfaces := #[4, 5], accessFlags := 1041 }

def heap : Heap := #[]
def classes : Array Class := #[k0, k1, k2, k3, k4, k5, k6, k7, k8, k9, k10, k11]
def interned : List (Array UInt16 × Addr) := []
def slotsUsed : Nat := 0
def theMethod : MethodId := ⟨1, 1⟩
def args0 : Array Value := #[.int 5, .int 7, .int 9, .int 2, .int 3]
def aboutOver (below : List Frame) : State where
  vm := { classes := classes, interned := interned.toArray }
  heap := heap
  slotsUsed := slotsUsed
  threads := #[{ frames := .invoking theMethod args0 :: below }]
def below0 : List Frame := [.native { method := ⟨0, 0⟩, args := #[] }]
def about1 : State := aboutOver below0
def p0 : Program := .bare "" "" ""
def e0 : Env := launch0.env 0 0 0
theorem w_frames : about1.frames = Frame.invoking theMethod args0 :: below0 := rfl
set_option maxRecDepth 65536 in
theorem w_args : argsFit about1.vm theMethod args0 = true := by decide +kernel
set_option maxRecDepth 65536 in
theorem w_heap : heapFits about1 = true := by decide +kernel
set_option maxRecDepth 65536 in
theorem w_runnable : about1.curStatus? = some .runnable := by decide +kernel
set_option maxRecDepth 65536 in
theorem w_alone : about1.alone = true := by decide +kernel
set_option maxRecDepth 65536 in
theorem w_named : about1.methodNamed? x = some theMethod := by decide +kernel
set_option maxRecDepth 65536 in
theorem w_hears : about1.hears theMethod below0 = true := by decide +kernel
set_option maxRecDepth 65536 in
theorem w_ripe : about1.ripe theMethod args0 below0 = true := by decide +kernel
theorem w_running : about1.status = .running := rfl
set_option maxRecDepth 65536 in
theorem w_room : about1.hasRoom e0.platform room_1 = true :=
  launch0.hasRoom_least _ room_1 (by decide +kernel) (by decide +kernel) (by decide +kernel) (by decide +kernel) (by decide +kernel) (by decide +kernel)
theorem allAtoms_all (ts : List Jvm.Cond) (a : Array Jvm.Value) (st : Jvm.State) : (allAtoms ts).before a st = ts.all (fun c => c.before a st) := by
  induction ts with
  | nil => rfl
  | cons c t ih =>
    show (Jvm.Cond.and c (allAtoms t)).before a st = _
    rw [Jvm.Cond.before_and, ih, List.all_cons]
def words1 : List Jvm.Cond := Jvm.Cond.code x code maxLocals ret :: tables_1
/-- a 'code' word, met by the world's own term for the bytes: nothing is compared byte by byte -/
theorem code_word {y : MethodName} {bytes : ByteArray} {mx : Nat} {rt : Option FieldType} {a : Array Value} {s : State} {m : MethodId} {meth : Method} {c : Code} (h1 : s.methodNamed? y = some m) (h2 : s.vm.method? m = some meth) (h3 : meth.code = some c) (h4 : c.code = bytes)
    (h5 : (c.maxLocals == mx && c.exceptionTable.isEmpty && decide (c.maxStack ≤ mostOperands) && decide (meth.sig.returnType = rt) && !meth.locks && decide (parseMethodDescriptor y.desc = some meth.sig)) = true) : (Jvm.Cond.code y bytes mx rt).before a s = true := by
  simp only [Bool.and_eq_true, beq_iff_eq, Bool.not_eq_true', decide_eq_true_eq] at h5
  obtain ⟨⟨⟨⟨⟨g1, g2⟩, g3⟩, g4⟩, g5⟩, g6⟩ := h5
  simp [Cond.before, Cond.holds, Cond.value, h1, h2, h3, h4, g1, g2, g3, g4, g5, g6]
def isCode : Jvm.Cond → Bool
  | .code _ _ _ _ => true
  | _ => false
theorem all_split {L : List Jvm.Cond} {P : Jvm.Cond → Bool} (h1 : L.all (fun c => isCode c || P c) = true) (h2 : ∀ c ∈ L.filter isCode, P c = true) : L.all P = true := by
  refine List.all_eq_true.mpr fun c hc => ?_
  have h := List.all_eq_true.mp h1 c hc
  rcases Bool.eq_false_or_eq_true (isCode c) with hi | hi
  · exact h2 c (List.mem_filter.mpr ⟨hc, hi⟩)
  · simpa [hi] using h
set_option maxRecDepth 65536 in
theorem w_c0 : (Jvm.Cond.code x code maxLocals ret).before args0 about1 = true := code_word (m := ⟨1, 1⟩) (meth := k1m1) (c := k1c1) (by decide +kernel) rfl rfl rfl (by decide +kernel)
set_option maxRecDepth 65536 in
theorem w_c1 : (Jvm.Cond.code ({ cls := "com/example/haze_to_match/hazetomatch/Membership", name := "<init>", desc := "(DD)V" } : Jvm.MethodName) prog_54_method_1_code (5 : Nat) (Option.none : Option Jvm.ClassFile.FieldType)).before args0 about1 = true := code_word (m := ⟨3, 0⟩) (meth := k3m0) (c := k3c0) (by decide +kernel) rfl rfl rfl (by decide +kernel)
set_option maxRecDepth 65536 in
theorem w_c2 : (Jvm.Cond.code ({ cls := "java/lang/Record", name := "<init>", desc := "()V" } : Jvm.MethodName) jdk_30_method_1_code (1 : Nat) (Option.none : Option Jvm.ClassFile.FieldType)).before args0 about1 = true := code_word (m := ⟨2, 0⟩) (meth := k2m0) (c := k2c0) (by decide +kernel) rfl rfl rfl (by decide +kernel)
set_option maxRecDepth 65536 in
theorem w_c3 : (Jvm.Cond.code ({ cls := "java/lang/Object", name := "<init>", desc := "()V" } : Jvm.MethodName) object_method_1_code (1 : Nat) (Option.none : Option Jvm.ClassFile.FieldType)).before args0 about1 = true := code_word (m := ⟨0, 0⟩) (meth := k0m0) (c := k0c0) (by decide +kernel) rfl rfl rfl (by decide +kernel)
set_option maxRecDepth 65536 in
theorem w_c4 : (Jvm.Cond.code ({ cls := "com/example/haze_to_match/hazetomatch/Membership", name := "along", desc := "(Lcom/example/haze_to_match/hazetomatch/Membership;D[D)V" } : Jvm.MethodName) prog_54_method_2_code (7 : Nat) (Option.none : Option Jvm.ClassFile.FieldType)).before args0 about1 = true := code_word (m := ⟨3, 1⟩) (meth := k3m1) (c := k3c1) (by decide +kernel) rfl rfl rfl (by decide +kernel)
def codes1 : List Jvm.Cond := [Jvm.Cond.code x code maxLocals ret, Jvm.Cond.code ({ cls := "com/example/haze_to_match/hazetomatch/Membership", name := "<init>", desc := "(DD)V" } : Jvm.MethodName) prog_54_method_1_code (5 : Nat) (Option.none : Option Jvm.ClassFile.FieldType), Jvm.Cond.code ({ cls := "java/lang/Record", name := "<init>", desc := "()V" } : Jvm.MethodName) jdk_30_method_1_code (1 : Nat) (Option.none : Option Jvm.ClassFile.FieldType), Jvm.Cond.code ({ cls := "java/lang/Object", name := "<init>", desc := "()V" } : Jvm.MethodName) object_method_1_code (1 : Nat) (Option.none : Option Jvm.ClassFile.FieldType), Jvm.Cond.code ({ cls := "com/example/haze_to_match/hazetomatch/Membership", name := "along", desc := "(Lcom/example/haze_to_match/hazetomatch/Membership;D[D)V" } : Jvm.MethodName) prog_54_method_2_code (7 : Nat) (Option.none : Option Jvm.ClassFile.FieldType)]
set_option maxRecDepth 65536 in
theorem codes_eq : words1.filter isCode = codes1 := rfl
theorem w_codes : ∀ c ∈ words1.filter isCode, c.before args0 about1 = true := by
  rw [codes_eq]
  intro c hc
  simp only [codes1, List.mem_cons, List.not_mem_nil, or_false] at hc
  rcases hc with rfl | rfl | rfl | rfl | rfl
  · exact w_c0
  · exact w_c1
  · exact w_c2
  · exact w_c3
  · exact w_c4
set_option maxRecDepth 65536 in
theorem w_t1 : (words1.take 24).all (fun c => isCode c || c.before args0 about1) = true := by decide +kernel
set_option maxRecDepth 65536 in
theorem w_t2 : (words1.drop 24).all (fun c => isCode c || c.before args0 about1) = true := by decide +kernel
theorem w_tables : (allAtoms (Jvm.Cond.code x code maxLocals ret :: tables_1)).before args0 about1 = true := by
  rw [allAtoms_all]
  show words1.all (fun c => c.before args0 about1) = true
  refine all_split ?_ w_codes
  rw [← List.take_append_drop 24 words1, List.all_append, w_t1, w_t2]
  rfl
set_option maxRecDepth 65536 in
theorem w_case : (Jvm.Cond.and given_1 narrow_1).before args0 about1 = true := by decide +kernel
theorem w_applies : (headSpec (Jvm.Cond.code x code maxLocals ret :: tables_1) room_1).applies x e0.platform about1 = true :=
  (Spec.applies_iff w_frames).mpr ⟨w_running, w_runnable, w_alone, w_named, w_hears, w_ripe, w_room, w_tables⟩
theorem atStart : AtStart classFile x code maxLocals ret World_1 tables_1 room_1 Calls_1 rest_1 Pre_1 launch0 p0 e0 about1 theMethod args0 below0 :=
  ⟨lists_1, trivial, launch0.admits_env _ _ _, launch0.least_env, fairChoices_fair.cas, fairChoices_fair.clock, w_frames, w_args, w_heap, w_applies, trivial, trivial, w_case⟩
end start1
theorem witness_1 : WitnessClaimed_1 := ⟨start1.p0, start1.e0, start1.about1, start1.theMethod, start1.args0, start1.below0, start1.atStart⟩
end Jvm.Pilot.@@N@@
