import JvmDerived
import JvmDerived.Pilot.@@N@@Statement
import JvmDerived.Pilot.@@N@@Code
set_option linter.unusedVariables false
set_option linter.unusedSimpArgs false
@@BLOCK:NumsL.lean.txt@@
namespace Jvm.Pilot.@@N@@
open Jvm Jvm.ClassFile Sem Op Lib Jvm.Free Jvm.Stand Jvm.LawKit Jvm.RoadKit Bundle Jvm.Pilot.@@N@@.Jvm.D
section Own
variable {p : Program} {l : Launch} {e : Env} {R : Room} {s : State} {m : MethodId} {args : Array Value} {below : List Frame} {meth : Method} {c : Code} {T : State} {locs : List Loc} {cells slots : Nat} {Z : State} {a0 : Array Value} {h : Heap}
/-- from U the run comes to the method's end, and P holds there -/
def OGo (p : Program) (e : Env) (below : List Frame) (U : State) (P : State → Outcome → Prop) : Prop :=
  ∃ t o, Steps p.tables e below U t ∧ t.status = .running ∧ Ended t below o ∧ P t o
theorem OGo.step {U U' : State} {P : State → Outcome → Prop} (k : ∀ t, Steps p.tables e below U' t → Steps p.tables e below U t) (g : OGo p e below U' P) : OGo p e below U P := by
  obtain ⟨t, o, h1, h2⟩ := g
  exact ⟨t, o, k t h1, h2⟩
def OEnd (s : State) (Q : Option Value → Heap → List Loc → Prop) (kc ks : Nat) (t : State) (o : Outcome) : Prop :=
  ∃ v L, o = .returned v ∧ Q v t.heap L ∧ FrameEnd s o t L kc ks
/-- the contract of one body, at one array of arguments and one heap -/
abbrev OMet (l : Launch) (Z : State) (y : MethodName) (bytes : ByteArray) (maxL : Nat) (ret : Option FieldType) (ws : List Jvm.Cond) (rm : Room) (as' : Array Value) (h0 : Heap) (Q : Option Value → Heap → List Loc → Prop) : Prop :=
  MetFree l y (head1 (Jvm.Cond.code y bytes maxL ret :: ws) rm) (fun a U => a = as' ∧ Z.Warmed39 U.vm ∧ U.heap = h0) (fun _ _ _ _ _ => True) (fun _ U o U' => ∃ v L, o = .returned v ∧ Q v U'.heap L ∧ FrameEnd U o U' L rm.cells rm.slots)
theorem OMet.body {y : MethodName} {bytes : ByteArray} {maxL : Nat} {ret : Option FieldType} {ws : List Jvm.Cond} {rm : Room} {as' : Array Value} {h0 : Heap} {Q : Option Value → Heap → List Loc → Prop} (hpn : plainFor y = true)
    (b : ∀ (p : Program) (e : Env) (s : State) (m : MethodId) (below : List Frame) (meth : Method) (c : Code) (s₁ : State), p.tables.exec = Jvm.exec → c.code = bytes → c.maxLocals = maxL → s.vm.findClass y.cls = some m.cls → meth.name = y.name → meth.sig.returnType = ret → meth.locks = false → Z.Warmed39 s.vm →
      Stand p l e rm s m as' below meth c s₁ [] 0 0 → s₁.heap = h0 → OGo p e below (s₁.setTop (entryFrame m as' maxL)) (OEnd s Q rm.cells rm.slots)) : OMet l Z y bytes maxL ret ws rm as' h0 Q := by
  refine MetFree.of_bodySF hpn hisR ?_
  intro p e s m args below meth c s₁ Bd hml0 hP hK
  obtain ⟨rfl, hZ, hh⟩ := hP
  exact b p e s m below meth c s₁ Bd.exec Bd.bytes hml0 (findClass_of_methodNamed Bd.named) (name_of_methodNamed Bd.named Bd.method).1 Bd.returns Bd.notSynchronized hZ (Stand.of_body Bd) (by rw [← hh, Bd.state]; rfl)
theorem own_ret (X : Stand p l e R s m args below meth c T locs cells slots) (hx : p.tables.exec = Jvm.exec) (hlk : meth.locks = false) {pc : Nat} {Ls : Array Slot} {w : Value} {t : FieldType} {i : Instr} {rest : List Value} (hret : meth.sig.returnType = some t) (hn : narrow t w = w)
    (hi : (i = .ireturn ∧ (t = .int ∨ t = .boolean ∨ t = .byte ∨ t = .char ∨ t = .short) ∧ ∃ z, w = .int z) ∨ (i = .lreturn ∧ t = .long ∧ ∃ z, w = .long z) ∨ (i = .dreturn ∧ t = .double ∧ ∃ z, w = .double z) ∨ (i = .freturn ∧ t = .float ∧ ∃ z, w = .float z) ∨ (i = .areturn ∧ t.isReference = true ∧ w.isRef = true))
    (hd : decode c.code pc = .ok (i, 1)) {Q : Option Value → Heap → List Loc → Prop} {kc ks : Nat} (hQ : Q (some w) T.heap locs) (h1 : cells ≤ kc) (h2 : slots ≤ ks) : OGo p e below (T.setTop (mkF m pc Ls (w :: rest))) (OEnd s Q kc ks) := by
  obtain ⟨fs, hr, hrun, hended, hW, hsame⟩ := X.leave (v := some w) (fun h => by rw [hret] at h; cases h) hlk
  exact ⟨_, _, retOut X hx hret hn hi hd hr, hrun, hended, _, _, rfl, hQ, ⟨_, rfl⟩, hW, hsame.mono h1 h2⟩
theorem own_retN (X : Stand p l e R s m args below meth c T locs cells slots) (hx : p.tables.exec = Jvm.exec) (hlk : meth.locks = false) {pc : Nat} {Ls : Array Slot} {z : Int32} {t : FieldType} {rest : List Value} (hret : meth.sig.returnType = some t) (ht : t = .boolean ∨ t = .byte ∨ t = .char ∨ t = .short)
    (hd : decode c.code pc = .ok (.ireturn, 1)) {Q : Option Value → Heap → List Loc → Prop} {kc ks : Nat} (hQ : Q (some (.int (nar t z))) T.heap locs) (h1 : cells ≤ kc) (h2 : slots ≤ ks) : OGo p e below (T.setTop (mkF m pc Ls (.int z :: rest))) (OEnd s Q kc ks) := by
  obtain ⟨fs, hr, hrun, hended, hW, hsame⟩ := X.leave (v := some (.int (nar t z))) (fun h => by rw [hret] at h; cases h) hlk
  exact ⟨_, _, retN X hx hret ht hd hr, hrun, hended, _, _, rfl, hQ, ⟨_, rfl⟩, hW, hsame.mono h1 h2⟩
theorem own_ret0 (X : Stand p l e R s m args below meth c T locs cells slots) (hx : p.tables.exec = Jvm.exec) (hlk : meth.locks = false) {pc : Nat} {Ls : Array Slot} (hret : meth.sig.returnType = none)
    (hd : decode c.code pc = .ok (.return_, 1)) {Q : Option Value → Heap → List Loc → Prop} {kc ks : Nat} (hQ : Q none T.heap locs) (h1 : cells ≤ kc) (h2 : slots ≤ ks) : OGo p e below (T.setTop (mkF m pc Ls [])) (OEnd s Q kc ks) := by
  obtain ⟨fs, hr, hrun, hended, hW, hsame⟩ := X.leave (v := none) (fun _ => rfl) hlk
  exact ⟨_, _, X.returnOut hx hret hd hr, hrun, hended, _, _, rfl, hQ, ⟨_, rfl⟩, hW, hsame.mono h1 h2⟩
/-- who pays a call: at these arguments and this heap -/
abbrev OBack (l : Launch) (R : Room) (p : Program) (e : Env) (below : List Frame) (s : State) (args : Array Value) (y : MethodName) (len W : Nat) (as' : Array Value) (h : Heap) (kc ks : Nat) (Q : Option Value → Heap → List Loc → Prop) : Prop :=
  Back l R p e below s args y len W (fun P a => a = as' ∧ P.U.heap = h ∧ P.cells + kc ≤ R.cells ∧ P.slots + ks ≤ R.slots) (fun P _ v B => ∃ L, Q v B.U.heap L ∧ B.locs = P.locs ++ L ∧ B.cells = P.cells + kc ∧ B.slots = P.slots + ks)
/-- a static call by the callee's contract -/
theorem own_callSK (X : Stand p l e R s m args below meth c T locs cells slots) (hx : p.tables.exec = Jvm.exec) (hZ : Z.Warmed39 s.vm) {own : String} {index : Nat} {y : MethodName} {bytes : ByteArray} {maxL : Nat} {ret : Option FieldType}
    (hown : s.vm.findClass own = some m.cls) (w1 : (Jvm.Cond.methodLink own index y).before a0 Z = true) (w2 : (Jvm.Cond.static y).before a0 Z = true) (w3 : (Jvm.Cond.initialized y.cls).before a0 Z = true)
    (w4 : (Jvm.Cond.code y bytes maxL ret).before a0 Z = true) (hy : y.cls ≠ "java/lang/invoke/MethodHandle" ∧ y.cls ≠ "java/lang/invoke/VarHandle")
    {W : Nat} {kc ks : Nat} {argsL rest : List Value} {Q : Option Value → Heap → List Loc → Prop} (hK : OBack l R p e below s args y 3 W argsL.toArray h kc ks Q) (eT : T.heap = h)
    {pc : Nat} {Ls : Array Slot} (hsize : Ls.size = c.maxLocals) (hlen : ∀ sig, parseMethodDescriptor y.desc = some sig → argsL.length = sig.parameters.length) (hW : (rest.map fun v => v.category).sum = W)
    (hd : decode c.code pc = .ok (.invokestatic index, 3)) (hc : cells + kc ≤ R.cells) (hs : slots + ks ≤ R.slots) {P : State → Outcome → Prop}
    (k : ∀ (v : Option Value) (T' : State) (L : List Loc), Stand p l e R s m args below meth c T' (locs ++ L) (cells + kc) (slots + ks) → Q v T'.heap L → OGo p e below (T'.setTop (mkF m (pc + 3) Ls (v.toList ++ rest))) P) :
    OGo p e below (T.setTop (mkF m pc Ls (argsL.reverse ++ rest))) P := by
  obtain ⟨v, vm, ⟨T', L', k', n'⟩, -, X', ⟨L, hQ, l1, y1, z1⟩, st⟩ := Jvm.LawKit.callS X hx (y := y) hown (mvT hZ w1) (mvT hZ w2) (mvT hZ w3) (mvT hZ w4) hy hK (g := mkF m pc Ls (argsL.reverse ++ rest)) rfl hsize (argsL := argsL) (rest := rest) hlen rfl
    (by show 2 * 0 + _ ≤ _; rw [hW]; omega) hd (fun _ _ => ⟨rfl, eT, hc, hs⟩)
  dsimp only [Pt.U, Pt.locs, Pt.cells, Pt.slots] at X' l1 y1 z1 st hQ
  subst l1 y1 z1
  exact OGo.step st (k v T' L X' hQ)
theorem own_callS (X : Stand p l e R s m args below meth c T locs cells slots) (hx : p.tables.exec = Jvm.exec) (hZ : Z.Warmed39 s.vm) {own : String} {index : Nat} {y : MethodName} {bytes : ByteArray} {maxL : Nat} {ret : Option FieldType}
    (hown : s.vm.findClass own = some m.cls) (w1 : (Jvm.Cond.methodLink own index y).before a0 Z = true) (w2 : (Jvm.Cond.static y).before a0 Z = true) (w3 : (Jvm.Cond.initialized y.cls).before a0 Z = true)
    (w4 : (Jvm.Cond.code y bytes maxL ret).before a0 Z = true) (hy : y.cls ≠ "java/lang/invoke/MethodHandle" ∧ y.cls ≠ "java/lang/invoke/VarHandle")
    {W : Nat} {rm : Room} {argsL rest : List Value} {Q : Option Value → Heap → List Loc → Prop} (hM : OMet l Z y bytes maxL ret [] rm argsL.toArray h Q) (eT : T.heap = h)
    {pc : Nat} {Ls : Array Slot} (hsize : Ls.size = c.maxLocals) (hlen : ∀ sig, parseMethodDescriptor y.desc = some sig → argsL.length = sig.parameters.length) (hW : (rest.map fun v => v.category).sum = W)
    (hd : decode c.code pc = .ok (.invokestatic index, 3)) (hf : rm.frames + 1 ≤ R.frames) (hl : W + (maxL + 11) + rm.locals ≤ R.locals) (hc : cells + rm.cells ≤ R.cells) (hs : slots + rm.slots ≤ R.slots) {P : State → Outcome → Prop}
    (k : ∀ (v : Option Value) (T' : State) (L : List Loc), Stand p l e R s m args below meth c T' (locs ++ L) (cells + rm.cells) (slots + rm.slots) → Q v T'.heap L → OGo p e below (T'.setTop (mkF m (pc + 3) Ls (v.toList ++ rest))) P) :
    OGo p e below (T.setTop (mkF m pc Ls (argsL.reverse ++ rest))) P := 
  own_callSK X hx hZ hown w1 w2 w3 w4 hy (backOf (W := W) hM hZ w4 w3 hf hl) eT hsize hlen hW hd hc hs k
/-- a constructor by its contract -/
theorem own_specialK (X : Stand p l e R s m args below meth c T locs cells slots) (hx : p.tables.exec = Jvm.exec) (hZ : Z.Warmed39 s.vm) {own : String} {index : Nat} {y : MethodName} {bytes : ByteArray} {maxL : Nat} (hy1 : y.name = "<init>")
    (hown : s.vm.findClass own = some m.cls) (w1 : (Jvm.Cond.methodLink own index y).before a0 Z = true) (w2 : (Jvm.Cond.instanceMethod y).before a0 Z = true)
    (w4 : (Jvm.Cond.code y bytes maxL none).before a0 Z = true) (hy : y.cls ≠ "java/lang/invoke/MethodHandle" ∧ y.cls ≠ "java/lang/invoke/VarHandle") {a : Addr}
    {W : Nat} {kc ks : Nat} {argsL rest : List Value} {Q : Option Value → Heap → List Loc → Prop} (hK : OBack l R p e below s args y 3 W (.ref a :: argsL).toArray h kc ks Q) (eT : T.heap = h)
    {pc : Nat} {Ls : Array Slot} (hsize : Ls.size = c.maxLocals) (hlen : ∀ sig, parseMethodDescriptor y.desc = some sig → argsL.length = sig.parameters.length) (hW : (rest.map fun v => v.category).sum = W)
    (hd : decode c.code pc = .ok (.invokespecial index, 3)) (hc : cells + kc ≤ R.cells) (hs : slots + ks ≤ R.slots) {P : State → Outcome → Prop}
    (k : ∀ (v : Option Value) (T' : State) (L : List Loc), Stand p l e R s m args below meth c T' (locs ++ L) (cells + kc) (slots + ks) → Q v T'.heap L → OGo p e below (T'.setTop (mkF m (pc + 3) Ls (v.toList ++ rest))) P) :
    OGo p e below (T.setTop (mkF m pc Ls (argsL.reverse ++ .ref a :: rest))) P := by
  obtain ⟨v, vm, ⟨T', L', k', n'⟩, -, X', ⟨L, hQ, l1, y1, z1⟩, st⟩ := X.specialBack hx (y := y) hy1 hown (mvT hZ w1) (mvT hZ w2) (mvT hZ w4) hy hK (g := mkF m pc Ls (argsL.reverse ++ .ref a :: rest)) rfl hsize (Steps.refl _) (a := a) (argsL := argsL) (rest := rest) hlen rfl
    (by show 2 * 0 + _ ≤ _; rw [hW]; omega) hd (fun _ _ => ⟨rfl, eT, hc, hs⟩)
  dsimp only [Pt.U, Pt.locs, Pt.cells, Pt.slots] at X' l1 y1 z1 st hQ
  subst l1 y1 z1
  exact OGo.step (fun _ kk => st.trans kk) (k v T' L X' hQ)
theorem own_special (X : Stand p l e R s m args below meth c T locs cells slots) (hx : p.tables.exec = Jvm.exec) (hZ : Z.Warmed39 s.vm) {own : String} {index : Nat} {y : MethodName} {bytes : ByteArray} {maxL : Nat} (hy1 : y.name = "<init>")
    (hown : s.vm.findClass own = some m.cls) (w1 : (Jvm.Cond.methodLink own index y).before a0 Z = true) (w2 : (Jvm.Cond.instanceMethod y).before a0 Z = true)
    (w4 : (Jvm.Cond.code y bytes maxL none).before a0 Z = true) (w3 : (Jvm.Cond.initialized y.cls).before a0 Z = true) (hy : y.cls ≠ "java/lang/invoke/MethodHandle" ∧ y.cls ≠ "java/lang/invoke/VarHandle") {a : Addr}
    {W : Nat} {rm : Room} {argsL rest : List Value} {Q : Option Value → Heap → List Loc → Prop} (hM : OMet l Z y bytes maxL none [] rm (.ref a :: argsL).toArray h Q) (eT : T.heap = h)
    {pc : Nat} {Ls : Array Slot} (hsize : Ls.size = c.maxLocals) (hlen : ∀ sig, parseMethodDescriptor y.desc = some sig → argsL.length = sig.parameters.length) (hW : (rest.map fun v => v.category).sum = W)
    (hd : decode c.code pc = .ok (.invokespecial index, 3)) (hf : rm.frames + 1 ≤ R.frames) (hl : W + (maxL + 11) + rm.locals ≤ R.locals) (hc : cells + rm.cells ≤ R.cells) (hs : slots + rm.slots ≤ R.slots) {P : State → Outcome → Prop}
    (k : ∀ (v : Option Value) (T' : State) (L : List Loc), Stand p l e R s m args below meth c T' (locs ++ L) (cells + rm.cells) (slots + rm.slots) → Q v T'.heap L → OGo p e below (T'.setTop (mkF m (pc + 3) Ls (v.toList ++ rest))) P) :
    OGo p e below (T.setTop (mkF m pc Ls (argsL.reverse ++ .ref a :: rest))) P := 
  own_specialK X hx hZ hy1 hown w1 w2 w4 hy (backOf (W := W) hM hZ w4 w3 hf hl) eT hsize hlen hW hd hc hs k
/-- an instance method by its contract -/
theorem own_virtualK (X : Stand p l e R s m args below meth c T locs cells slots) (hx : p.tables.exec = Jvm.exec) (hZ : Z.Warmed39 s.vm) {own C : String} {index : Nat} {y z : MethodName}
    (hown : s.vm.findClass own = some m.cls) (w1 : (Jvm.Cond.methodLink own index y).before a0 Z = true) (w2 : (Jvm.Cond.declares y).before a0 Z = true) (hnf : NotFace s y) (w5 : (Jvm.Cond.selects C y z).before a0 Z = true) (w6 : (Jvm.Cond.instanceMethod z).before a0 Z = true)
    (hy : y.cls ≠ "java/lang/invoke/MethodHandle" ∧ y.cls ≠ "java/lang/invoke/VarHandle") {b : Addr} (hb : Exa Z h b C)
    {W : Nat} {kc ks : Nat} {argsL rest : List Value} {Q : Option Value → Heap → List Loc → Prop} (hK : OBack l R p e below s args z 3 W (.ref b :: argsL).toArray h kc ks Q) (eT : T.heap = h)
    {pc : Nat} {Ls : Array Slot} (hsize : Ls.size = c.maxLocals) (hlen : ∀ sig, parseMethodDescriptor y.desc = some sig → argsL.length = sig.parameters.length) (hW : (rest.map fun v => v.category).sum = W)
    (hd : decode c.code pc = .ok (.invokevirtual index, 3)) (hc : cells + kc ≤ R.cells) (hs : slots + ks ≤ R.slots) {P : State → Outcome → Prop}
    (k : ∀ (v : Option Value) (T' : State) (L : List Loc), Stand p l e R s m args below meth c T' (locs ++ L) (cells + kc) (slots + ks) → Q v T'.heap L → OGo p e below (T'.setTop (mkF m (pc + 3) Ls (v.toList ++ rest))) P) :
    OGo p e below (T.setTop (mkF m pc Ls (argsL.reverse ++ .ref b :: rest))) P := by
  obtain ⟨cq, kq, qa, qb, qc⟩ := isOf hZ eT hb
  obtain ⟨v, vm, ⟨T', L', k', n'⟩, -, X', ⟨L, hQ, l1, y1, z1⟩, st⟩ := X.virtualBack hx (y := y) (z := z) hown (mvT hZ w1) (mvT hZ w2) hnf (mvT hZ w5) (mvT hZ w6) hy hK qa qc (g := mkF m pc Ls (argsL.reverse ++ .ref b :: rest)) rfl hsize (Steps.refl _) (argsL := argsL) (rest := rest) hlen rfl
    (by show 2 * 0 + _ ≤ _; rw [hW]; omega) hd (fun _ _ => ⟨rfl, eT, hc, hs⟩)
  dsimp only [Pt.U, Pt.locs, Pt.cells, Pt.slots] at X' l1 y1 z1 st hQ
  subst l1 y1 z1
  exact OGo.step (fun _ kk => st.trans kk) (k v T' L X' hQ)
theorem own_virtual (X : Stand p l e R s m args below meth c T locs cells slots) (hx : p.tables.exec = Jvm.exec) (hZ : Z.Warmed39 s.vm) {own C : String} {index : Nat} {y z : MethodName} {bytes : ByteArray} {maxL : Nat} {ret : Option FieldType}
    (hown : s.vm.findClass own = some m.cls) (w1 : (Jvm.Cond.methodLink own index y).before a0 Z = true) (w2 : (Jvm.Cond.declares y).before a0 Z = true) (hnf : NotFace s y) (w5 : (Jvm.Cond.selects C y z).before a0 Z = true) (w6 : (Jvm.Cond.instanceMethod z).before a0 Z = true)
    (hy : y.cls ≠ "java/lang/invoke/MethodHandle" ∧ y.cls ≠ "java/lang/invoke/VarHandle") (w4 : (Jvm.Cond.code z bytes maxL ret).before a0 Z = true) (w3 : (Jvm.Cond.initialized z.cls).before a0 Z = true) {b : Addr} (hb : Exa Z h b C)
    {W : Nat} {rm : Room} {argsL rest : List Value} {Q : Option Value → Heap → List Loc → Prop} (hM : OMet l Z z bytes maxL ret [] rm (.ref b :: argsL).toArray h Q) (eT : T.heap = h)
    {pc : Nat} {Ls : Array Slot} (hsize : Ls.size = c.maxLocals) (hlen : ∀ sig, parseMethodDescriptor y.desc = some sig → argsL.length = sig.parameters.length) (hW : (rest.map fun v => v.category).sum = W)
    (hd : decode c.code pc = .ok (.invokevirtual index, 3)) (hf : rm.frames + 1 ≤ R.frames) (hl : W + (maxL + 11) + rm.locals ≤ R.locals) (hc : cells + rm.cells ≤ R.cells) (hs : slots + rm.slots ≤ R.slots) {P : State → Outcome → Prop}
    (k : ∀ (v : Option Value) (T' : State) (L : List Loc), Stand p l e R s m args below meth c T' (locs ++ L) (cells + rm.cells) (slots + rm.slots) → Q v T'.heap L → OGo p e below (T'.setTop (mkF m (pc + 3) Ls (v.toList ++ rest))) P) :
    OGo p e below (T.setTop (mkF m pc Ls (argsL.reverse ++ .ref b :: rest))) P := 
  own_virtualK X hx hZ hown w1 w2 hnf w5 w6 hy hb (backOf (W := W) hM hZ w4 w3 hf hl) eT hsize hlen hW hd hc hs k
/-- an instance method that an ancestor declares, by its contract -/
theorem own_virtualUpK (X : Stand p l e R s m args below meth c T locs cells slots) (hx : p.tables.exec = Jvm.exec) (hZ : Z.Warmed39 s.vm) {own C owner : String} {index : Nat} {y z : MethodName}
    (hown : s.vm.findClass own = some m.cls) (w1 : (Jvm.Cond.methodLink own index y).before a0 Z = true) (w7 : (Jvm.Cond.sameMethod y.cls owner y.name y.desc).before a0 Z = true) (w2 : (Jvm.Cond.declares ⟨owner, y.name, y.desc⟩).before a0 Z = true) (w5 : (Jvm.Cond.selects C y z).before a0 Z = true) (w6 : (Jvm.Cond.instanceMethod z).before a0 Z = true)
    (hy : owner ≠ "java/lang/invoke/MethodHandle" ∧ owner ≠ "java/lang/invoke/VarHandle") {b : Addr} (hb : Exa Z h b C)
    {W : Nat} {kc ks : Nat} {argsL rest : List Value} {Q : Option Value → Heap → List Loc → Prop} (hK : OBack l R p e below s args z 3 W (.ref b :: argsL).toArray h kc ks Q) (eT : T.heap = h)
    {pc : Nat} {Ls : Array Slot} (hsize : Ls.size = c.maxLocals) (hlen : ∀ sig, parseMethodDescriptor y.desc = some sig → argsL.length = sig.parameters.length) (hW : (rest.map fun v => v.category).sum = W)
    (hd : decode c.code pc = .ok (.invokevirtual index, 3)) (hc : cells + kc ≤ R.cells) (hs : slots + ks ≤ R.slots) {P : State → Outcome → Prop}
    (k : ∀ (v : Option Value) (T' : State) (L : List Loc), Stand p l e R s m args below meth c T' (locs ++ L) (cells + kc) (slots + ks) → Q v T'.heap L → OGo p e below (T'.setTop (mkF m (pc + 3) Ls (v.toList ++ rest))) P) :
    OGo p e below (T.setTop (mkF m pc Ls (argsL.reverse ++ .ref b :: rest))) P := by
  obtain ⟨cq, kq, qa, qb, qc⟩ := isOf hZ eT hb
  obtain ⟨v, vm, ⟨T', L', k', n'⟩, -, X', ⟨L, hQ, l1, y1, z1⟩, st⟩ := X.virtualBackUp hx (x := y) (y := z) hown (mvT hZ w1) (mvT hZ w7) (mvT hZ w2) hy (mvT hZ w5) (mvT hZ w6) hK qa qc (g := mkF m pc Ls (argsL.reverse ++ .ref b :: rest)) rfl hsize (Steps.refl _) (argsL := argsL) (rest := rest) hlen rfl
    (by show 2 * 0 + _ ≤ _; rw [hW]; omega) hd (fun _ _ => ⟨rfl, eT, hc, hs⟩)
  dsimp only [Pt.U, Pt.locs, Pt.cells, Pt.slots] at X' l1 y1 z1 st hQ
  subst l1 y1 z1
  exact OGo.step (fun _ kk => st.trans kk) (k v T' L X' hQ)
theorem own_virtualUp (X : Stand p l e R s m args below meth c T locs cells slots) (hx : p.tables.exec = Jvm.exec) (hZ : Z.Warmed39 s.vm) {own C owner : String} {index : Nat} {y z : MethodName} {bytes : ByteArray} {maxL : Nat} {ret : Option FieldType}
    (hown : s.vm.findClass own = some m.cls) (w1 : (Jvm.Cond.methodLink own index y).before a0 Z = true) (w7 : (Jvm.Cond.sameMethod y.cls owner y.name y.desc).before a0 Z = true) (w2 : (Jvm.Cond.declares ⟨owner, y.name, y.desc⟩).before a0 Z = true) (w5 : (Jvm.Cond.selects C y z).before a0 Z = true) (w6 : (Jvm.Cond.instanceMethod z).before a0 Z = true)
    (hy : owner ≠ "java/lang/invoke/MethodHandle" ∧ owner ≠ "java/lang/invoke/VarHandle") (w4 : (Jvm.Cond.code z bytes maxL ret).before a0 Z = true) (w3 : (Jvm.Cond.initialized z.cls).before a0 Z = true) {b : Addr} (hb : Exa Z h b C)
    {W : Nat} {rm : Room} {argsL rest : List Value} {Q : Option Value → Heap → List Loc → Prop} (hM : OMet l Z z bytes maxL ret [] rm (.ref b :: argsL).toArray h Q) (eT : T.heap = h)
    {pc : Nat} {Ls : Array Slot} (hsize : Ls.size = c.maxLocals) (hlen : ∀ sig, parseMethodDescriptor y.desc = some sig → argsL.length = sig.parameters.length) (hW : (rest.map fun v => v.category).sum = W)
    (hd : decode c.code pc = .ok (.invokevirtual index, 3)) (hf : rm.frames + 1 ≤ R.frames) (hl : W + (maxL + 11) + rm.locals ≤ R.locals) (hc : cells + rm.cells ≤ R.cells) (hs : slots + rm.slots ≤ R.slots) {P : State → Outcome → Prop}
    (k : ∀ (v : Option Value) (T' : State) (L : List Loc), Stand p l e R s m args below meth c T' (locs ++ L) (cells + rm.cells) (slots + rm.slots) → Q v T'.heap L → OGo p e below (T'.setTop (mkF m (pc + 3) Ls (v.toList ++ rest))) P) :
    OGo p e below (T.setTop (mkF m pc Ls (argsL.reverse ++ .ref b :: rest))) P := 
  own_virtualUpK X hx hZ hown w1 w7 w2 w5 w6 hy hb (backOf (W := W) hM hZ w4 w3 hf hl) eT hsize hlen hW hd hc hs k
theorem own_cat {v : Value} (q : v.isRef = true) : v.category = 1 := by cases v <;> first | rfl | (simp [Value.isRef] at q)
theorem own_narR {v : Value} {t : FieldType} (q : v.isRef = true) (ht : t.isReference = true := by rfl) : narrow t v = v := by cases v <;> first | (simp [Value.isRef] at q; done) | (cases t <;> first | rfl | (cases ht))
theorem own_fitR {v : Value} {t : FieldType} (q : v.isRef = true) (ht : t.isReference = true := by rfl) : fits t v = true := by cases v <;> first | (simp [Value.isRef] at q; done) | (cases t <;> first | rfl | (cases ht))
theorem own_store1 {l l' : Array Slot} {i : Nat} {v : Value} {o : Slot} (hold : l[i]? = some o) (ho : o = .unset ∨ ∃ w, o = .val w ∧ w.category = 1) (hv : v.category = 1) (hl' : l.setIfInBounds i (.val v) = l' := by rfl) : storeLocals l i v = some l' := by
  rw [XS.store1 hold ho hv, hl']
end Own
theorem own_eqv {args : Array Value} {s : State} {a b : Term} {y : Value} (h : (Jvm.Cond.eq a b).value args s none s [] = some true) (hb : b.eval args s none [] s = some y) : a.eval args s none [] s = some y := by
  cases ha : a.eval args s none [] s with
  | none => simp [Cond.value, ha] at h
  | some x => cases x <;> cases y <;> simp_all [Cond.value]
theorem own_len {args : Array Value} {s : State} {t : Term} {a : Addr} {cl : Cell} {ty : FieldType} {n : Int32} (ev : t.eval args s none [] s = some (.ref a)) (A : Arr s s.heap a cl ty) (h : (Term.length t).eval args s none [] s = some (.int n)) : cl.slots.size < 2 ^ 31 ∧ cl.slots.size.toInt32 = n := by
  have ha : s.arrayAt? a = some cl := Arr.fin (State.WarmedH.refl s).alike A
  by_cases q : cl.slots.size < 2 ^ 31
  · rw [len_f ev ha q] at h
    exact ⟨q, Value.int.inj (Option.some.inj h)⟩
  · simp [Term.eval, ev, ha] at h
    omega
theorem own_elem {args : Array Value} {s : State} {t : Term} {a : Addr} {cl : Cell} {ty : FieldType} {j : Int32} {v : Value} (ev : t.eval args s none [] s = some (.ref a)) (A : Arr s s.heap a cl ty) (h : (Term.elem t (Term.int j)).eval args s none [] s = some v) (hn : ¬ j < 0 := by decide) : cl.slots[j.toNatClampNeg]? = some v := by
  have ha : s.arrayAt? a = some cl := Arr.fin (State.WarmedH.refl s).alike A
  rw [← elem_f ev (Term.int_eval j) ha hn]; exact h
theorem own_pd0 : parseMethodDescriptor "(I)[Z" = some ⟨[.int], some (.array .boolean)⟩ := by decide +kernel
theorem own_pd1 : parseMethodDescriptor "([ZII)Z" = some ⟨[(.array .boolean), .int, .int], some .boolean⟩ := by decide +kernel
theorem own_pn0 : plainName "com/example/haze_to_match/hazetomatch/CoverPoint" = true := by first | (simp [plainName, overriddenIn]; done) | decide +kernel
theorem own_pn1 : plainName "com/example/haze_to_match/hazetomatch/CoverPointAlternativesPinLaw" = true := by first | (simp [plainName, overriddenIn]; done) | decide +kernel
theorem own_d_prog_22_method_3_code_0 : decode prog_22_method_3_code 0 = .ok (.getstatic 7, 3) := by decide +kernel
theorem own_d_prog_22_method_3_code_3 : decode prog_22_method_3_code 3 = .ok (.iload_n 0, 1) := by decide +kernel
theorem own_d_prog_22_method_3_code_4 : decode prog_22_method_3_code 4 = .ok (.imul, 1) := by decide +kernel
theorem own_d_prog_22_method_3_code_5 : decode prog_22_method_3_code 5 = .ok (.iconst 2, 1) := by decide +kernel
theorem own_d_prog_22_method_3_code_6 : decode prog_22_method_3_code 6 = .ok (.iadd, 1) := by decide +kernel
theorem own_d_prog_22_method_3_code_7 : decode prog_22_method_3_code 7 = .ok (.newarray .boolean, 2) := by decide +kernel
theorem own_d_prog_22_method_3_code_9 : decode prog_22_method_3_code 9 = .ok (.astore_n 1, 1) := by decide +kernel
theorem own_d_prog_22_method_3_code_10 : decode prog_22_method_3_code 10 = .ok (.iconst 0, 1) := by decide +kernel
theorem own_d_prog_22_method_3_code_11 : decode prog_22_method_3_code 11 = .ok (.istore_n 2, 1) := by decide +kernel
theorem own_d_prog_22_method_3_code_12 : decode prog_22_method_3_code 12 = .ok (.iload_n 2, 1) := by decide +kernel
theorem own_d_prog_22_method_3_code_13 : decode prog_22_method_3_code 13 = .ok (.iload_n 0, 1) := by decide +kernel
theorem own_d_prog_22_method_3_code_14 : decode prog_22_method_3_code 14 = .ok (.if_icmp .ge 35, 3) := by decide +kernel
theorem own_d_prog_22_method_3_code_49 : decode prog_22_method_3_code 49 = .ok (.aload_n 1, 1) := by decide +kernel
theorem own_d_prog_22_method_3_code_50 : decode prog_22_method_3_code 50 = .ok (.areturn, 1) := by decide +kernel
theorem own_d_prog_22_method_3_code_17 : decode prog_22_method_3_code 17 = .ok (.aload_n 1, 1) := by decide +kernel
theorem own_d_prog_22_method_3_code_18 : decode prog_22_method_3_code 18 = .ok (.getstatic 7, 3) := by decide +kernel
theorem own_d_prog_22_method_3_code_21 : decode prog_22_method_3_code 21 = .ok (.iload_n 2, 1) := by decide +kernel
theorem own_d_prog_22_method_3_code_22 : decode prog_22_method_3_code 22 = .ok (.imul, 1) := by decide +kernel
theorem own_d_prog_22_method_3_code_23 : decode prog_22_method_3_code 23 = .ok (.getstatic 88, 3) := by decide +kernel
theorem own_d_prog_22_method_3_code_26 : decode prog_22_method_3_code 26 = .ok (.iadd, 1) := by decide +kernel
theorem own_d_prog_22_method_3_code_27 : decode prog_22_method_3_code 27 = .ok (.iconst 1, 1) := by decide +kernel
theorem own_d_prog_22_method_3_code_28 : decode prog_22_method_3_code 28 = .ok (.bastore, 1) := by decide +kernel
theorem own_d_prog_22_method_3_code_29 : decode prog_22_method_3_code 29 = .ok (.aload_n 1, 1) := by decide +kernel
theorem own_d_prog_22_method_3_code_30 : decode prog_22_method_3_code 30 = .ok (.getstatic 7, 3) := by decide +kernel
theorem own_d_prog_22_method_3_code_33 : decode prog_22_method_3_code 33 = .ok (.iload_n 2, 1) := by decide +kernel
theorem own_d_prog_22_method_3_code_34 : decode prog_22_method_3_code 34 = .ok (.imul, 1) := by decide +kernel
theorem own_d_prog_22_method_3_code_35 : decode prog_22_method_3_code 35 = .ok (.getstatic 88, 3) := by decide +kernel
theorem own_d_prog_22_method_3_code_38 : decode prog_22_method_3_code 38 = .ok (.iadd, 1) := by decide +kernel
theorem own_d_prog_22_method_3_code_39 : decode prog_22_method_3_code 39 = .ok (.iconst 2, 1) := by decide +kernel
theorem own_d_prog_22_method_3_code_40 : decode prog_22_method_3_code 40 = .ok (.iadd, 1) := by decide +kernel
theorem own_d_prog_22_method_3_code_41 : decode prog_22_method_3_code 41 = .ok (.iconst 1, 1) := by decide +kernel
theorem own_d_prog_22_method_3_code_42 : decode prog_22_method_3_code 42 = .ok (.bastore, 1) := by decide +kernel
theorem own_d_prog_22_method_3_code_43 : decode prog_22_method_3_code 43 = .ok (.iinc 2 1, 3) := by decide +kernel
theorem own_d_prog_22_method_3_code_46 : decode prog_22_method_3_code 46 = .ok (.goto (-34), 3) := by decide +kernel
theorem own_d_method_3_code_0 : decode method_3_code 0 = .ok (.iload_n 2, 1) := by decide +kernel
theorem own_d_method_3_code_1 : decode method_3_code 1 = .ok (.ldc 19, 2) := by decide +kernel
theorem own_d_method_3_code_3 : decode method_3_code 3 = .ok (.iand, 1) := by decide +kernel
theorem own_d_method_3_code_4 : decode method_3_code 4 = .ok (.aload_n 0, 1) := by decide +kernel
theorem own_d_method_3_code_5 : decode method_3_code 5 = .ok (.arraylength, 1) := by decide +kernel
theorem own_d_method_3_code_6 : decode method_3_code 6 = .ok (.irem, 1) := by decide +kernel
theorem own_d_method_3_code_7 : decode method_3_code 7 = .ok (.istore_n 3, 1) := by decide +kernel
theorem own_d_method_3_code_8 : decode method_3_code 8 = .ok (.iload_n 3, 1) := by decide +kernel
theorem own_d_method_3_code_9 : decode method_3_code 9 = .ok (.bipush 38, 2) := by decide +kernel
theorem own_d_method_3_code_11 : decode method_3_code 11 = .ok (.irem, 1) := by decide +kernel
theorem own_d_method_3_code_12 : decode method_3_code 12 = .ok (.istore 4, 2) := by decide +kernel
theorem own_d_method_3_code_14 : decode method_3_code 14 = .ok (.iload_n 3, 1) := by decide +kernel
theorem own_d_method_3_code_15 : decode method_3_code 15 = .ok (.bipush 38, 2) := by decide +kernel
theorem own_d_method_3_code_17 : decode method_3_code 17 = .ok (.iload_n 1, 1) := by decide +kernel
theorem own_d_method_3_code_18 : decode method_3_code 18 = .ok (.imul, 1) := by decide +kernel
theorem own_d_method_3_code_41 : decode method_3_code 41 = .ok (.istore 5, 2) := by decide +kernel
theorem own_d_method_3_code_43 : decode method_3_code 43 = .ok (.aload_n 0, 1) := by decide +kernel
theorem own_d_method_3_code_44 : decode method_3_code 44 = .ok (.iload_n 3, 1) := by decide +kernel
theorem own_d_method_3_code_45 : decode method_3_code 45 = .ok (.baload, 1) := by decide +kernel
theorem own_d_method_3_code_46 : decode method_3_code 46 = .ok (.iload 5, 2) := by decide +kernel
theorem own_d_method_3_code_48 : decode method_3_code 48 = .ok (.if_icmp .ne 7, 3) := by decide +kernel
theorem own_d_method_3_code_51 : decode method_3_code 51 = .ok (.iconst 1, 1) := by decide +kernel
theorem own_d_method_3_code_52 : decode method_3_code 52 = .ok (.goto 4, 3) := by decide +kernel
theorem own_d_method_3_code_56 : decode method_3_code 56 = .ok (.ireturn, 1) := by decide +kernel
theorem own_d_method_3_code_19 : decode method_3_code 19 = .ok (.if_icmp .ge 21, 3) := by decide +kernel
theorem own_d_method_3_code_22 : decode method_3_code 22 = .ok (.iload 4, 2) := by decide +kernel
theorem own_d_method_3_code_24 : decode method_3_code 24 = .ok (.bipush 28, 2) := by decide +kernel
theorem own_d_method_3_code_26 : decode method_3_code 26 = .ok (.if_icmp .eq 10, 3) := by decide +kernel
theorem own_d_method_3_code_36 : decode method_3_code 36 = .ok (.iconst 1, 1) := by decide +kernel
theorem own_d_method_3_code_37 : decode method_3_code 37 = .ok (.goto 4, 3) := by decide +kernel
theorem own_d_method_3_code_29 : decode method_3_code 29 = .ok (.iload 4, 2) := by decide +kernel
theorem own_d_method_3_code_31 : decode method_3_code 31 = .ok (.bipush 30, 2) := by decide +kernel
theorem own_d_method_3_code_33 : decode method_3_code 33 = .ok (.if_icmp .ne 7, 3) := by decide +kernel
theorem own_d_method_3_code_40 : decode method_3_code 40 = .ok (.iconst 0, 1) := by decide +kernel

def own_mark (k j : Nat) : Int32 := if j < 38 * k ∧ (j % 38 = 28 ∨ j % 38 = 30) then 1 else 0
/-- the array has N places; place j holds own_mark k j -/
def own_B (Z : State) (h : Heap) (a : Addr) (N : Nat) (k : Nat) : Prop := ∃ cl, Arr Z h a cl .boolean ∧ cl.slots.size = N ∧ ∀ j : Nat, j < N → cl.slots[j]? = some (.int (own_mark k j))
theorem own_B.lt {Z : State} {h : Heap} {a : Addr} {N k : Nat} (B : own_B Z h a N k) : a < h.size := by obtain ⟨cl, A, -⟩ := B; exact A.lt
theorem own_nat {n : Nat} (h : n < 2147483648) : (Int32.ofNat n).toInt = n := Int32.toInt_ofNat_of_lt h
theorem own_ofInt {x : Int32} {n : Nat} (h : n < 2147483648) (e : x.toInt = n) : x = Int32.ofNat n := Int32.toInt_inj.mp (by rw [e, own_nat h])
theorem own_idx {n : Nat} (h : n < 2147483648) : (Int32.ofNat n).toNatClampNeg = n := by rw [Int32.toNatClampNeg, own_nat h]; rfl
theorem own_inb {cl : Cell} {n N : Nat} (hN : N < 2147483648) (hs : cl.slots.size = N) (h : n < N) : ¬ (Int32.ofNat n < 0 ∨ cl.slots.size ≤ (Int32.ofNat n).toNatClampNeg) := by
  rw [own_idx (by omega), hs, Int32.lt_iff_toInt_lt, own_nat (by omega)]
  have z : (0 : Int32).toInt = 0 := rfl
  omega
theorem own_mul (k : Nat) (h : k < 64) : (38 : Int32) * Int32.ofNat k = Int32.ofNat (38 * k) := by
  apply own_ofInt (by omega)
  have e : (38 : Int32).toInt = 38 := rfl
  rw [Jvm.Kit.i32_mul (by rw [own_nat (by omega), e]; omega) (by rw [own_nat (by omega), e]; omega), own_nat (by omega), e]; omega
theorem own_add {k c : Nat} (h : k + c < 2147483648) : Int32.ofNat k + Int32.ofNat c = Int32.ofNat (k + c) := by
  apply own_ofInt h
  rw [Jvm.Kit.i32_add (by rw [own_nat (by omega), own_nat (by omega)]; omega) (by rw [own_nat (by omega), own_nat (by omega)]; omega), own_nat (by omega), own_nat (by omega)]; omega
theorem own_lt {k n : Nat} (hk : k < 2147483648) (hn : n < 2147483648) : (Int32.ofNat k < Int32.ofNat n) = (k < n) := by
  rw [Int32.lt_iff_toInt_lt, own_nat hk, own_nat hn]; exact propext Int.ofNat_lt
theorem own_eq {k n : Nat} (hk : k < 2147483648) (hn : n < 2147483648) : (Int32.ofNat k = Int32.ofNat n) = (k = n) := by
  rw [← Int32.toInt_inj, own_nat hk, own_nat hn]; exact propext Int.ofNat_inj
theorem own_rem {x : Int32} {n : Nat} (hn : n < 2147483648) (hp : 0 < n) (hx : 0 ≤ x.toInt) : ∃ r : Nat, r < n ∧ x % Int32.ofNat n = Int32.ofNat r := by
  have e : (x % Int32.ofNat n).toInt = x.toInt % (Int32.ofNat n).toInt := Jvm.Kit.i32_rem_nonneg hx
  rw [own_nat hn] at e
  have b1 := Int.emod_nonneg x.toInt (show (n : Int) ≠ 0 by omega)
  have b2 := Int.emod_lt_of_pos x.toInt (show (0 : Int) < n by omega)
  exact ⟨(x.toInt % n).toNat, by omega, own_ofInt (by omega) (by rw [e]; omega)⟩
theorem own_rem38 {j : Nat} (h : j < 2147483648) : Int32.ofNat j % 38 = Int32.ofNat (j % 38) := by
  apply own_ofInt (by omega)
  have e38 : (38 : Int32).toInt = 38 := rfl
  rw [Jvm.Kit.i32_rem_nonneg (by rw [own_nat h]; omega), own_nat h, e38]; omega
theorem own_getnew {k : ClassId} {ty : FieldType} {n : Int32} {j : Nat} (h : j < n.toNatClampNeg) : (newA k ty n).slots[j]? = some (defaultValue ty) := by simp [newA, h]
theorem own_set {Z : State} {h h1 h2 : Heap} {a : Addr} {N k : Nat} {cl : Cell} (A : Arr Z h a cl .boolean) (hs : cl.slots.size = N) (H : ∀ j : Nat, j < N → cl.slots[j]? = some (.int (own_mark k j))) {i1 i2 : Nat} (e1 : i1 = 38 * k + 28) (e2 : i2 = 38 * k + 30) (hN : 38 * k + 38 ≤ N)
    (W1 : Wr h h1 a i1 (.int (nar .boolean 1))) (W2 : Wr h1 h2 a i2 (.int (nar .boolean 1))) : own_B Z h2 a N (k + 1) := by
  refine ⟨_, (A.same W1).same W2, by rw [sz_set, sz_set]; exact hs, fun j hj => ?_⟩
  have n1 : nar .boolean 1 = 1 := by decide
  rw [n1]
  show ((cl.slots.setIfInBounds i1 _).setIfInBounds i2 _)[j]? = _
  have s2 : i2 < (cl.slots.setIfInBounds i1 (.int 1)).size := by simp; omega
  have s1 : i1 < cl.slots.size := by omega
  by_cases q2 : i2 = j
  · subst q2; rw [Array.getElem?_setIfInBounds_self_of_lt s2]; unfold own_mark; rw [if_pos (by omega)]
  · rw [Array.getElem?_setIfInBounds_ne q2]
    by_cases q1 : i1 = j
    · subst q1; rw [Array.getElem?_setIfInBounds_self_of_lt s1]; unfold own_mark; rw [if_pos (by omega)]
    · rw [Array.getElem?_setIfInBounds_ne q1, H j hj]; unfold own_mark
      by_cases c1 : j < 38 * k ∧ (j % 38 = 28 ∨ j % 38 = 30)
      · rw [if_pos c1, if_pos (by omega)]
      · rw [if_neg c1, if_neg (by omega)]

set_option maxRecDepth 65536 in
set_option maxHeartbeats 40000000 in
theorem own_rm1 (l : Launch) (Z : State) (a0 : Array Value) (hw : ∀ d ∈ tables_1, d.before a0 Z = true) (ws : List Jvm.Cond) (n : Nat) (h0 : Heap) (n0 : Nat) (Z0 : n0 ≤ h0.size) (hn : n < 64) (SB : Sta Z Z.heap "com/example/haze_to_match/hazetomatch/CoverPoint" "BLOCK" "I" (.int 38)) (SA : Sta Z Z.heap "com/example/haze_to_match/hazetomatch/CoverPoint" "ALTERNATIVES" "I" (.int 28)) (O0 : Old Z n0 h0) :
    OMet l Z (⟨"com/example/haze_to_match/hazetomatch/CoverPoint", "alternatives", "(I)[Z"⟩ : MethodName) prog_22_method_3_code 3 (some (.array .boolean)) ws ({ frames := 0, cells := 1, slots := 2396, locals := 0 } : Room) #[(.int (Int32.ofNat n))] h0 (fun v h L => ∃ t : Addr, v = some (.ref t) ∧ n0 ≤ t ∧ Fr n0 L ∧ Old Z n0 h ∧ own_B Z h t (38 * n + 2) n) := by
  refine OMet.body (plainFor_of_name own_pn0) ?_
  intro p e s m below meth c s₁ hx hby hml hown hnm hret hlk hZ X0 e0
  refine OGo.step (fun _ kk => castTop (show entryFrame m #[(.int (Int32.ofNat n))] 3 = (mkF m 0 #[.val (.int (Int32.ofNat n)), .unset, .unset] []) from by first | (simp [entryFrame, mkF, argsToLocals, Value.category]; done) | rfl) kk) ?_
  show OGo p e below (s₁.setTop (mkF m 0 #[.val (.int (Int32.ofNat n)), .unset, .unset] [])) (OEnd s (fun v h L => ∃ t : Addr, v = some (.ref t) ∧ n0 ≤ t ∧ Fr n0 L ∧ Old Z n0 h ∧ own_B Z h t (38 * n + 2) n) ({ frames := 0, cells := 1, slots := 2396, locals := 0 } : Room).cells ({ frames := 0, cells := 1, slots := 2396, locals := 0 } : Room).slots)
  have hN : 38 * n + 2 < 2147483648 := by omega
  obtain ⟨T1, X1, e1, st1⟩ := getS2 X0 hx hZ hown (host := "") (Or.inl (hw _ (List.mem_of_getElem? (i := 4) rfl))) Via.refl e0 (SB.ext O0.2) (g := (mkF m 0 #[.val (.int (Int32.ofNat n)), .unset, .unset] [])) rfl (hb hby own_d_prog_22_method_3_code_0)
  refine OGo.step st1 ?_
  show OGo p e below (T1.setTop (mkF m 3 #[.val (.int (Int32.ofNat n)), .unset, .unset] [(.int (38 : Int32))])) (OEnd s (fun v h L => ∃ t : Addr, v = some (.ref t) ∧ n0 ≤ t ∧ Fr n0 L ∧ Old Z n0 h ∧ own_B Z h t (38 * n + 2) n) ({ frames := 0, cells := 1, slots := 2396, locals := 0 } : Room).cells ({ frames := 0, cells := 1, slots := 2396, locals := 0 } : Room).slots)
  refine OGo.step (fun _ kk => XS.iloadN X1.here hx rfl (hb hby own_d_prog_22_method_3_code_3) rfl kk) ?_
  show OGo p e below (T1.setTop (mkF m 4 #[.val (.int (Int32.ofNat n)), .unset, .unset] [(.int (Int32.ofNat n)), (.int (38 : Int32))])) (OEnd s (fun v h L => ∃ t : Addr, v = some (.ref t) ∧ n0 ≤ t ∧ Fr n0 L ∧ Old Z n0 h ∧ own_B Z h t (38 * n + 2) n) ({ frames := 0, cells := 1, slots := 2396, locals := 0 } : Room).cells ({ frames := 0, cells := 1, slots := 2396, locals := 0 } : Room).slots)
  refine OGo.step (fun _ kk => XS.imul X1.here hx rfl (hb hby own_d_prog_22_method_3_code_4) rfl kk) ?_
  show OGo p e below (T1.setTop (mkF m 5 #[.val (.int (Int32.ofNat n)), .unset, .unset] [(.int ((38 : Int32) * (Int32.ofNat n)))])) (OEnd s (fun v h L => ∃ t : Addr, v = some (.ref t) ∧ n0 ≤ t ∧ Fr n0 L ∧ Old Z n0 h ∧ own_B Z h t (38 * n + 2) n) ({ frames := 0, cells := 1, slots := 2396, locals := 0 } : Room).cells ({ frames := 0, cells := 1, slots := 2396, locals := 0 } : Room).slots)
  refine OGo.step (fun _ kk => XS.iconst X1.here hx rfl (hb hby own_d_prog_22_method_3_code_5) kk) ?_
  show OGo p e below (T1.setTop (mkF m 6 #[.val (.int (Int32.ofNat n)), .unset, .unset] [(.int (2 : Int32)), (.int ((38 : Int32) * (Int32.ofNat n)))])) (OEnd s (fun v h L => ∃ t : Addr, v = some (.ref t) ∧ n0 ≤ t ∧ Fr n0 L ∧ Old Z n0 h ∧ own_B Z h t (38 * n + 2) n) ({ frames := 0, cells := 1, slots := 2396, locals := 0 } : Room).cells ({ frames := 0, cells := 1, slots := 2396, locals := 0 } : Room).slots)
  refine OGo.step (fun _ kk => XS.iadd X1.here hx rfl (hb hby own_d_prog_22_method_3_code_6) rfl kk) ?_
  show OGo p e below (T1.setTop (mkF m 7 #[.val (.int (Int32.ofNat n)), .unset, .unset] [(.int (((38 : Int32) * (Int32.ofNat n)) + (2 : Int32)))])) (OEnd s (fun v h L => ∃ t : Addr, v = some (.ref t) ∧ n0 ≤ t ∧ Fr n0 L ∧ Old Z n0 h ∧ own_B Z h t (38 * n + 2) n) ({ frames := 0, cells := 1, slots := 2396, locals := 0 } : Room).cells ({ frames := 0, cells := 1, slots := 2396, locals := 0 } : Room).slots)
  have eN1 : (38 : Int32) * Int32.ofNat n + (2 : Int32) = Int32.ofNat (38 * n + 2) := by rw [own_mul n hn]; exact own_add (c := 2) hN
  rw [eN1]
  show OGo p e below (T1.setTop (mkF m 7 #[.val (.int (Int32.ofNat n)), .unset, .unset] [(.int (Int32.ofNat (38 * n + 2)))])) (OEnd s (fun v h L => ∃ t : Addr, v = some (.ref t) ∧ n0 ≤ t ∧ Fr n0 L ∧ Old Z n0 h ∧ own_B Z h t (38 * n + 2) n) ({ frames := 0, cells := 1, slots := 2396, locals := 0 } : Room).cells ({ frames := 0, cells := 1, slots := 2396, locals := 0 } : Room).slots)
  obtain ⟨T2, h2, k2, X2, e2, E2, A2, st2⟩ := newP X1 hx hZ (hw _ (List.mem_of_getElem? (i := 6) rfl)) e1 (g := (mkF m 7 #[.val (.int (Int32.ofNat n)), .unset, .unset] [(.int (Int32.ofNat (38 * n + 2)))])) rfl (hb hby own_d_prog_22_method_3_code_7) rfl (by rw [Int32.lt_iff_toInt_lt, own_nat hN]; show ¬ ((38 * n + 2 : Nat) : Int) < 0; omega) (cap := 2396) (by rw [own_idx hN]; omega) (by decide) (by decide) (by decide)
  obtain ⟨t, g2⟩ : ∃ z, z = h0.size := ⟨_, rfl⟩
  rw [← g2] at A2 st2
  refine OGo.step st2 ?_
  show OGo p e below (T2.setTop (mkF m 9 #[.val (.int (Int32.ofNat n)), .unset, .unset] [(.ref t)])) (OEnd s (fun v h L => ∃ t : Addr, v = some (.ref t) ∧ n0 ≤ t ∧ Fr n0 L ∧ Old Z n0 h ∧ own_B Z h t (38 * n + 2) n) ({ frames := 0, cells := 1, slots := 2396, locals := 0 } : Room).cells ({ frames := 0, cells := 1, slots := 2396, locals := 0 } : Room).slots)
  have gt : n0 ≤ t := Nat.le_trans Z0 (Nat.le_of_eq g2.symm)
  have B0 : own_B Z h2 t (38 * n + 2) 0 := ⟨_, A2, by rw [sz_new, own_idx hN], fun j hj => by
    have q : (newA k2 .boolean (Int32.ofNat (38 * n + 2))).slots[j]? = some (defaultValue .boolean) := own_getnew (by rw [own_idx hN]; exact hj)
    exact q.trans (by unfold own_mark; rw [if_neg (by omega)]; rfl)⟩
  have O1 := O0.ext E2
  refine OGo.step (fun _ kk => XS.astoreN X2.here hx rfl (hb hby own_d_prog_22_method_3_code_9) rfl rfl (l' := #[.val (.int (Int32.ofNat n)), .val (.ref t), .unset]) rfl kk) ?_
  show OGo p e below (T2.setTop (mkF m 10 #[.val (.int (Int32.ofNat n)), .val (.ref t), .unset] [])) (OEnd s (fun v h L => ∃ t : Addr, v = some (.ref t) ∧ n0 ≤ t ∧ Fr n0 L ∧ Old Z n0 h ∧ own_B Z h t (38 * n + 2) n) ({ frames := 0, cells := 1, slots := 2396, locals := 0 } : Room).cells ({ frames := 0, cells := 1, slots := 2396, locals := 0 } : Room).slots)
  refine OGo.step (fun _ kk => XS.iconst X2.here hx rfl (hb hby own_d_prog_22_method_3_code_10) kk) ?_
  show OGo p e below (T2.setTop (mkF m 11 #[.val (.int (Int32.ofNat n)), .val (.ref t), .unset] [(.int (0 : Int32))])) (OEnd s (fun v h L => ∃ t : Addr, v = some (.ref t) ∧ n0 ≤ t ∧ Fr n0 L ∧ Old Z n0 h ∧ own_B Z h t (38 * n + 2) n) ({ frames := 0, cells := 1, slots := 2396, locals := 0 } : Room).cells ({ frames := 0, cells := 1, slots := 2396, locals := 0 } : Room).slots)
  refine OGo.step (fun _ kk => XS.istoreN X2.here hx rfl (hb hby own_d_prog_22_method_3_code_11) rfl (l' := #[.val (.int (Int32.ofNat n)), .val (.ref t), .val (.int (0 : Int32))]) rfl kk) ?_
  show OGo p e below (T2.setTop (mkF m 12 #[.val (.int (Int32.ofNat n)), .val (.ref t), .val (.int (0 : Int32))] [])) (OEnd s (fun v h L => ∃ t : Addr, v = some (.ref t) ∧ n0 ≤ t ∧ Fr n0 L ∧ Old Z n0 h ∧ own_B Z h t (38 * n + 2) n) ({ frames := 0, cells := 1, slots := 2396, locals := 0 } : Room).cells ({ frames := 0, cells := 1, slots := 2396, locals := 0 } : Room).slots)
  have loop : ∀ (left k : Nat) (T : State) (locs : List Loc) (h : Heap), k + left = n → Stand p l e ({ frames := 0, cells := 1, slots := 2396, locals := 0 } : Room) s m #[.int (Int32.ofNat n)] below meth c T locs 1 2396 → T.heap = h → own_B Z h t (38 * n + 2) k → Fr n0 locs → Old Z n0 h → OGo p e below (T.setTop (mkF m 12 #[.val (.int (Int32.ofNat n)), .val (.ref t), .val (.int (Int32.ofNat k))] [])) (OEnd s (fun v h L => ∃ t : Addr, v = some (.ref t) ∧ n0 ≤ t ∧ Fr n0 L ∧ Old Z n0 h ∧ own_B Z h t (38 * n + 2) n) ({ frames := 0, cells := 1, slots := 2396, locals := 0 } : Room).cells ({ frames := 0, cells := 1, slots := 2396, locals := 0 } : Room).slots) := by
    intro left
    induction left with
    | zero =>
      intro k T locs h hk XT eT B N O
      show OGo p e below (T.setTop (mkF m 12 #[.val (.int (Int32.ofNat n)), .val (.ref t), .val (.int (Int32.ofNat k))] [])) (OEnd s (fun v h L => ∃ t : Addr, v = some (.ref t) ∧ n0 ≤ t ∧ Fr n0 L ∧ Old Z n0 h ∧ own_B Z h t (38 * n + 2) n) ({ frames := 0, cells := 1, slots := 2396, locals := 0 } : Room).cells ({ frames := 0, cells := 1, slots := 2396, locals := 0 } : Room).slots)
      refine OGo.step (fun _ kk => XS.iloadN XT.here hx rfl (hb hby own_d_prog_22_method_3_code_12) rfl kk) ?_
      show OGo p e below (T.setTop (mkF m 13 #[.val (.int (Int32.ofNat n)), .val (.ref t), .val (.int (Int32.ofNat k))] [(.int (Int32.ofNat k))])) (OEnd s (fun v h L => ∃ t : Addr, v = some (.ref t) ∧ n0 ≤ t ∧ Fr n0 L ∧ Old Z n0 h ∧ own_B Z h t (38 * n + 2) n) ({ frames := 0, cells := 1, slots := 2396, locals := 0 } : Room).cells ({ frames := 0, cells := 1, slots := 2396, locals := 0 } : Room).slots)
      refine OGo.step (fun _ kk => XS.iloadN XT.here hx rfl (hb hby own_d_prog_22_method_3_code_13) rfl kk) ?_
      show OGo p e below (T.setTop (mkF m 14 #[.val (.int (Int32.ofNat n)), .val (.ref t), .val (.int (Int32.ofNat k))] [(.int (Int32.ofNat n)), (.int (Int32.ofNat k))])) (OEnd s (fun v h L => ∃ t : Addr, v = some (.ref t) ∧ n0 ≤ t ∧ Fr n0 L ∧ Old Z n0 h ∧ own_B Z h t (38 * n + 2) n) ({ frames := 0, cells := 1, slots := 2396, locals := 0 } : Room).cells ({ frames := 0, cells := 1, slots := 2396, locals := 0 } : Room).slots)
      refine OGo.step (fun _ kk => XS.icmpYes XT.here hx rfl (pc0 := 14) (pc' := 49) rfl (hb hby own_d_prog_22_method_3_code_14) rfl (flt (by rw [own_lt (by omega) (by omega)]; omega)).2.1 (by decide) (by decide) kk) ?_
      show OGo p e below (T.setTop (mkF m 49 #[.val (.int (Int32.ofNat n)), .val (.ref t), .val (.int (Int32.ofNat k))] [])) (OEnd s (fun v h L => ∃ t : Addr, v = some (.ref t) ∧ n0 ≤ t ∧ Fr n0 L ∧ Old Z n0 h ∧ own_B Z h t (38 * n + 2) n) ({ frames := 0, cells := 1, slots := 2396, locals := 0 } : Room).cells ({ frames := 0, cells := 1, slots := 2396, locals := 0 } : Room).slots)
      refine OGo.step (fun _ kk => XS.aloadN XT.here hx rfl (hb hby own_d_prog_22_method_3_code_49) rfl rfl kk) ?_
      show OGo p e below (T.setTop (mkF m 50 #[.val (.int (Int32.ofNat n)), .val (.ref t), .val (.int (Int32.ofNat k))] [(.ref t)])) (OEnd s (fun v h L => ∃ t : Addr, v = some (.ref t) ∧ n0 ≤ t ∧ Fr n0 L ∧ Old Z n0 h ∧ own_B Z h t (38 * n + 2) n) ({ frames := 0, cells := 1, slots := 2396, locals := 0 } : Room).cells ({ frames := 0, cells := 1, slots := 2396, locals := 0 } : Room).slots)
      exact own_ret XT hx hlk hret rfl (Or.inr (Or.inr (Or.inr (Or.inr ⟨rfl, rfl, rfl⟩)))) (hb hby own_d_prog_22_method_3_code_50) ⟨t, rfl, gt, N, eT.symm ▸ O, eT.symm ▸ (show k = n by omega) ▸ B⟩ (by decide) (by decide)
    | succ left ih =>
      intro k T locs h hk XT eT B N O
      obtain ⟨cl, Ac, sc, Hc⟩ := B
      show OGo p e below (T.setTop (mkF m 12 #[.val (.int (Int32.ofNat n)), .val (.ref t), .val (.int (Int32.ofNat k))] [])) (OEnd s (fun v h L => ∃ t : Addr, v = some (.ref t) ∧ n0 ≤ t ∧ Fr n0 L ∧ Old Z n0 h ∧ own_B Z h t (38 * n + 2) n) ({ frames := 0, cells := 1, slots := 2396, locals := 0 } : Room).cells ({ frames := 0, cells := 1, slots := 2396, locals := 0 } : Room).slots)
      refine OGo.step (fun _ kk => XS.iloadN XT.here hx rfl (hb hby own_d_prog_22_method_3_code_12) rfl kk) ?_
      show OGo p e below (T.setTop (mkF m 13 #[.val (.int (Int32.ofNat n)), .val (.ref t), .val (.int (Int32.ofNat k))] [(.int (Int32.ofNat k))])) (OEnd s (fun v h L => ∃ t : Addr, v = some (.ref t) ∧ n0 ≤ t ∧ Fr n0 L ∧ Old Z n0 h ∧ own_B Z h t (38 * n + 2) n) ({ frames := 0, cells := 1, slots := 2396, locals := 0 } : Room).cells ({ frames := 0, cells := 1, slots := 2396, locals := 0 } : Room).slots)
      refine OGo.step (fun _ kk => XS.iloadN XT.here hx rfl (hb hby own_d_prog_22_method_3_code_13) rfl kk) ?_
      show OGo p e below (T.setTop (mkF m 14 #[.val (.int (Int32.ofNat n)), .val (.ref t), .val (.int (Int32.ofNat k))] [(.int (Int32.ofNat n)), (.int (Int32.ofNat k))])) (OEnd s (fun v h L => ∃ t : Addr, v = some (.ref t) ∧ n0 ≤ t ∧ Fr n0 L ∧ Old Z n0 h ∧ own_B Z h t (38 * n + 2) n) ({ frames := 0, cells := 1, slots := 2396, locals := 0 } : Room).cells ({ frames := 0, cells := 1, slots := 2396, locals := 0 } : Room).slots)
      refine OGo.step (fun _ kk => XS.icmpNo XT.here hx rfl (hb hby own_d_prog_22_method_3_code_14) rfl (tlt (by rw [own_lt (by omega) (by omega)]; omega)).2.1 kk) ?_
      show OGo p e below (T.setTop (mkF m 17 #[.val (.int (Int32.ofNat n)), .val (.ref t), .val (.int (Int32.ofNat k))] [])) (OEnd s (fun v h L => ∃ t : Addr, v = some (.ref t) ∧ n0 ≤ t ∧ Fr n0 L ∧ Old Z n0 h ∧ own_B Z h t (38 * n + 2) n) ({ frames := 0, cells := 1, slots := 2396, locals := 0 } : Room).cells ({ frames := 0, cells := 1, slots := 2396, locals := 0 } : Room).slots)
      refine OGo.step (fun _ kk => XS.aloadN XT.here hx rfl (hb hby own_d_prog_22_method_3_code_17) rfl rfl kk) ?_
      show OGo p e below (T.setTop (mkF m 18 #[.val (.int (Int32.ofNat n)), .val (.ref t), .val (.int (Int32.ofNat k))] [(.ref t)])) (OEnd s (fun v h L => ∃ t : Addr, v = some (.ref t) ∧ n0 ≤ t ∧ Fr n0 L ∧ Old Z n0 h ∧ own_B Z h t (38 * n + 2) n) ({ frames := 0, cells := 1, slots := 2396, locals := 0 } : Room).cells ({ frames := 0, cells := 1, slots := 2396, locals := 0 } : Room).slots)
      obtain ⟨T3, X3, e3, st3⟩ := getS2 XT hx hZ hown (host := "") (Or.inl (hw _ (List.mem_of_getElem? (i := 4) rfl))) Via.refl eT (SB.ext O.2) (g := (mkF m 18 #[.val (.int (Int32.ofNat n)), .val (.ref t), .val (.int (Int32.ofNat k))] [(.ref t)])) rfl (hb hby own_d_prog_22_method_3_code_18)
      refine OGo.step st3 ?_
      show OGo p e below (T3.setTop (mkF m 21 #[.val (.int (Int32.ofNat n)), .val (.ref t), .val (.int (Int32.ofNat k))] [(.int (38 : Int32)), (.ref t)])) (OEnd s (fun v h L => ∃ t : Addr, v = some (.ref t) ∧ n0 ≤ t ∧ Fr n0 L ∧ Old Z n0 h ∧ own_B Z h t (38 * n + 2) n) ({ frames := 0, cells := 1, slots := 2396, locals := 0 } : Room).cells ({ frames := 0, cells := 1, slots := 2396, locals := 0 } : Room).slots)
      refine OGo.step (fun _ kk => XS.iloadN X3.here hx rfl (hb hby own_d_prog_22_method_3_code_21) rfl kk) ?_
      show OGo p e below (T3.setTop (mkF m 22 #[.val (.int (Int32.ofNat n)), .val (.ref t), .val (.int (Int32.ofNat k))] [(.int (Int32.ofNat k)), (.int (38 : Int32)), (.ref t)])) (OEnd s (fun v h L => ∃ t : Addr, v = some (.ref t) ∧ n0 ≤ t ∧ Fr n0 L ∧ Old Z n0 h ∧ own_B Z h t (38 * n + 2) n) ({ frames := 0, cells := 1, slots := 2396, locals := 0 } : Room).cells ({ frames := 0, cells := 1, slots := 2396, locals := 0 } : Room).slots)
      refine OGo.step (fun _ kk => XS.imul X3.here hx rfl (hb hby own_d_prog_22_method_3_code_22) rfl kk) ?_
      show OGo p e below (T3.setTop (mkF m 23 #[.val (.int (Int32.ofNat n)), .val (.ref t), .val (.int (Int32.ofNat k))] [(.int ((38 : Int32) * (Int32.ofNat k))), (.ref t)])) (OEnd s (fun v h L => ∃ t : Addr, v = some (.ref t) ∧ n0 ≤ t ∧ Fr n0 L ∧ Old Z n0 h ∧ own_B Z h t (38 * n + 2) n) ({ frames := 0, cells := 1, slots := 2396, locals := 0 } : Room).cells ({ frames := 0, cells := 1, slots := 2396, locals := 0 } : Room).slots)
      obtain ⟨T4, X4, e4, st4⟩ := getS2 X3 hx hZ hown (host := "") (Or.inl (hw _ (List.mem_of_getElem? (i := 12) rfl))) Via.refl e3 (SA.ext O.2) (g := (mkF m 23 #[.val (.int (Int32.ofNat n)), .val (.ref t), .val (.int (Int32.ofNat k))] [(.int ((38 : Int32) * (Int32.ofNat k))), (.ref t)])) rfl (hb hby own_d_prog_22_method_3_code_23)
      refine OGo.step st4 ?_
      show OGo p e below (T4.setTop (mkF m 26 #[.val (.int (Int32.ofNat n)), .val (.ref t), .val (.int (Int32.ofNat k))] [(.int (28 : Int32)), (.int ((38 : Int32) * (Int32.ofNat k))), (.ref t)])) (OEnd s (fun v h L => ∃ t : Addr, v = some (.ref t) ∧ n0 ≤ t ∧ Fr n0 L ∧ Old Z n0 h ∧ own_B Z h t (38 * n + 2) n) ({ frames := 0, cells := 1, slots := 2396, locals := 0 } : Room).cells ({ frames := 0, cells := 1, slots := 2396, locals := 0 } : Room).slots)
      refine OGo.step (fun _ kk => XS.iadd X4.here hx rfl (hb hby own_d_prog_22_method_3_code_26) rfl kk) ?_
      show OGo p e below (T4.setTop (mkF m 27 #[.val (.int (Int32.ofNat n)), .val (.ref t), .val (.int (Int32.ofNat k))] [(.int (((38 : Int32) * (Int32.ofNat k)) + (28 : Int32))), (.ref t)])) (OEnd s (fun v h L => ∃ t : Addr, v = some (.ref t) ∧ n0 ≤ t ∧ Fr n0 L ∧ Old Z n0 h ∧ own_B Z h t (38 * n + 2) n) ({ frames := 0, cells := 1, slots := 2396, locals := 0 } : Room).cells ({ frames := 0, cells := 1, slots := 2396, locals := 0 } : Room).slots)
      have f1 : (38 : Int32) * Int32.ofNat k + (28 : Int32) = Int32.ofNat (38 * k + 28) := by rw [own_mul k (by omega)]; exact own_add (c := 28) (by omega)
      rw [f1]
      show OGo p e below (T4.setTop (mkF m 27 #[.val (.int (Int32.ofNat n)), .val (.ref t), .val (.int (Int32.ofNat k))] [(.int (Int32.ofNat (38 * k + 28))), (.ref t)])) (OEnd s (fun v h L => ∃ t : Addr, v = some (.ref t) ∧ n0 ≤ t ∧ Fr n0 L ∧ Old Z n0 h ∧ own_B Z h t (38 * n + 2) n) ({ frames := 0, cells := 1, slots := 2396, locals := 0 } : Room).cells ({ frames := 0, cells := 1, slots := 2396, locals := 0 } : Room).slots)
      refine OGo.step (fun _ kk => XS.iconst X4.here hx rfl (hb hby own_d_prog_22_method_3_code_27) kk) ?_
      show OGo p e below (T4.setTop (mkF m 28 #[.val (.int (Int32.ofNat n)), .val (.ref t), .val (.int (Int32.ofNat k))] [(.int (1 : Int32)), (.int (Int32.ofNat (38 * k + 28))), (.ref t)])) (OEnd s (fun v h L => ∃ t : Addr, v = some (.ref t) ∧ n0 ≤ t ∧ Fr n0 L ∧ Old Z n0 h ∧ own_B Z h t (38 * n + 2) n) ({ frames := 0, cells := 1, slots := 2396, locals := 0 } : Room).cells ({ frames := 0, cells := 1, slots := 2396, locals := 0 } : Room).slots)
      have in1 := own_inb (cl := cl) (n := 38 * k + 28) hN sc (by omega)
      obtain ⟨T5, h5, X5, e5, W5, st5⟩ := stZ X4 hx hZ e4 Ac (j := (Int32.ofNat (38 * k + 28))) in1 (g := (mkF m 28 #[.val (.int (Int32.ofNat n)), .val (.ref t), .val (.int (Int32.ofNat k))] [(.int (1 : Int32)), (.int (Int32.ofNat (38 * k + 28))), (.ref t)])) rfl rfl (hb hby own_d_prog_22_method_3_code_28)
      refine OGo.step st5 ?_
      show OGo p e below (T5.setTop (mkF m 29 #[.val (.int (Int32.ofNat n)), .val (.ref t), .val (.int (Int32.ofNat k))] [])) (OEnd s (fun v h L => ∃ t : Addr, v = some (.ref t) ∧ n0 ≤ t ∧ Fr n0 L ∧ Old Z n0 h ∧ own_B Z h t (38 * n + 2) n) ({ frames := 0, cells := 1, slots := 2396, locals := 0 } : Room).cells ({ frames := 0, cells := 1, slots := 2396, locals := 0 } : Room).slots)
      rw [own_idx (show 38 * k + 28 < 2147483648 by omega)] at W5 X5
      have O2 := O.wr W5 gt
      have N2 := Fr.snoc X5 N gt
      refine OGo.step (fun _ kk => XS.aloadN X5.here hx rfl (hb hby own_d_prog_22_method_3_code_29) rfl rfl kk) ?_
      show OGo p e below (T5.setTop (mkF m 30 #[.val (.int (Int32.ofNat n)), .val (.ref t), .val (.int (Int32.ofNat k))] [(.ref t)])) (OEnd s (fun v h L => ∃ t : Addr, v = some (.ref t) ∧ n0 ≤ t ∧ Fr n0 L ∧ Old Z n0 h ∧ own_B Z h t (38 * n + 2) n) ({ frames := 0, cells := 1, slots := 2396, locals := 0 } : Room).cells ({ frames := 0, cells := 1, slots := 2396, locals := 0 } : Room).slots)
      obtain ⟨T6, X6, e6, st6⟩ := getS2 X5 hx hZ hown (host := "") (Or.inl (hw _ (List.mem_of_getElem? (i := 4) rfl))) Via.refl e5 (SB.ext O2.2) (g := (mkF m 30 #[.val (.int (Int32.ofNat n)), .val (.ref t), .val (.int (Int32.ofNat k))] [(.ref t)])) rfl (hb hby own_d_prog_22_method_3_code_30)
      refine OGo.step st6 ?_
      show OGo p e below (T6.setTop (mkF m 33 #[.val (.int (Int32.ofNat n)), .val (.ref t), .val (.int (Int32.ofNat k))] [(.int (38 : Int32)), (.ref t)])) (OEnd s (fun v h L => ∃ t : Addr, v = some (.ref t) ∧ n0 ≤ t ∧ Fr n0 L ∧ Old Z n0 h ∧ own_B Z h t (38 * n + 2) n) ({ frames := 0, cells := 1, slots := 2396, locals := 0 } : Room).cells ({ frames := 0, cells := 1, slots := 2396, locals := 0 } : Room).slots)
      refine OGo.step (fun _ kk => XS.iloadN X6.here hx rfl (hb hby own_d_prog_22_method_3_code_33) rfl kk) ?_
      show OGo p e below (T6.setTop (mkF m 34 #[.val (.int (Int32.ofNat n)), .val (.ref t), .val (.int (Int32.ofNat k))] [(.int (Int32.ofNat k)), (.int (38 : Int32)), (.ref t)])) (OEnd s (fun v h L => ∃ t : Addr, v = some (.ref t) ∧ n0 ≤ t ∧ Fr n0 L ∧ Old Z n0 h ∧ own_B Z h t (38 * n + 2) n) ({ frames := 0, cells := 1, slots := 2396, locals := 0 } : Room).cells ({ frames := 0, cells := 1, slots := 2396, locals := 0 } : Room).slots)
      refine OGo.step (fun _ kk => XS.imul X6.here hx rfl (hb hby own_d_prog_22_method_3_code_34) rfl kk) ?_
      show OGo p e below (T6.setTop (mkF m 35 #[.val (.int (Int32.ofNat n)), .val (.ref t), .val (.int (Int32.ofNat k))] [(.int ((38 : Int32) * (Int32.ofNat k))), (.ref t)])) (OEnd s (fun v h L => ∃ t : Addr, v = some (.ref t) ∧ n0 ≤ t ∧ Fr n0 L ∧ Old Z n0 h ∧ own_B Z h t (38 * n + 2) n) ({ frames := 0, cells := 1, slots := 2396, locals := 0 } : Room).cells ({ frames := 0, cells := 1, slots := 2396, locals := 0 } : Room).slots)
      obtain ⟨T7, X7, e7, st7⟩ := getS2 X6 hx hZ hown (host := "") (Or.inl (hw _ (List.mem_of_getElem? (i := 12) rfl))) Via.refl e6 (SA.ext O2.2) (g := (mkF m 35 #[.val (.int (Int32.ofNat n)), .val (.ref t), .val (.int (Int32.ofNat k))] [(.int ((38 : Int32) * (Int32.ofNat k))), (.ref t)])) rfl (hb hby own_d_prog_22_method_3_code_35)
      refine OGo.step st7 ?_
      show OGo p e below (T7.setTop (mkF m 38 #[.val (.int (Int32.ofNat n)), .val (.ref t), .val (.int (Int32.ofNat k))] [(.int (28 : Int32)), (.int ((38 : Int32) * (Int32.ofNat k))), (.ref t)])) (OEnd s (fun v h L => ∃ t : Addr, v = some (.ref t) ∧ n0 ≤ t ∧ Fr n0 L ∧ Old Z n0 h ∧ own_B Z h t (38 * n + 2) n) ({ frames := 0, cells := 1, slots := 2396, locals := 0 } : Room).cells ({ frames := 0, cells := 1, slots := 2396, locals := 0 } : Room).slots)
      refine OGo.step (fun _ kk => XS.iadd X7.here hx rfl (hb hby own_d_prog_22_method_3_code_38) rfl kk) ?_
      show OGo p e below (T7.setTop (mkF m 39 #[.val (.int (Int32.ofNat n)), .val (.ref t), .val (.int (Int32.ofNat k))] [(.int (((38 : Int32) * (Int32.ofNat k)) + (28 : Int32))), (.ref t)])) (OEnd s (fun v h L => ∃ t : Addr, v = some (.ref t) ∧ n0 ≤ t ∧ Fr n0 L ∧ Old Z n0 h ∧ own_B Z h t (38 * n + 2) n) ({ frames := 0, cells := 1, slots := 2396, locals := 0 } : Room).cells ({ frames := 0, cells := 1, slots := 2396, locals := 0 } : Room).slots)
      refine OGo.step (fun _ kk => XS.iconst X7.here hx rfl (hb hby own_d_prog_22_method_3_code_39) kk) ?_
      show OGo p e below (T7.setTop (mkF m 40 #[.val (.int (Int32.ofNat n)), .val (.ref t), .val (.int (Int32.ofNat k))] [(.int (2 : Int32)), (.int (((38 : Int32) * (Int32.ofNat k)) + (28 : Int32))), (.ref t)])) (OEnd s (fun v h L => ∃ t : Addr, v = some (.ref t) ∧ n0 ≤ t ∧ Fr n0 L ∧ Old Z n0 h ∧ own_B Z h t (38 * n + 2) n) ({ frames := 0, cells := 1, slots := 2396, locals := 0 } : Room).cells ({ frames := 0, cells := 1, slots := 2396, locals := 0 } : Room).slots)
      refine OGo.step (fun _ kk => XS.iadd X7.here hx rfl (hb hby own_d_prog_22_method_3_code_40) rfl kk) ?_
      show OGo p e below (T7.setTop (mkF m 41 #[.val (.int (Int32.ofNat n)), .val (.ref t), .val (.int (Int32.ofNat k))] [(.int ((((38 : Int32) * (Int32.ofNat k)) + (28 : Int32)) + (2 : Int32))), (.ref t)])) (OEnd s (fun v h L => ∃ t : Addr, v = some (.ref t) ∧ n0 ≤ t ∧ Fr n0 L ∧ Old Z n0 h ∧ own_B Z h t (38 * n + 2) n) ({ frames := 0, cells := 1, slots := 2396, locals := 0 } : Room).cells ({ frames := 0, cells := 1, slots := 2396, locals := 0 } : Room).slots)
      have f2 : (38 : Int32) * Int32.ofNat k + (28 : Int32) + (2 : Int32) = Int32.ofNat (38 * k + 30) := by rw [f1]; exact own_add (c := 2) (by omega)
      rw [f2]
      show OGo p e below (T7.setTop (mkF m 41 #[.val (.int (Int32.ofNat n)), .val (.ref t), .val (.int (Int32.ofNat k))] [(.int (Int32.ofNat (38 * k + 30))), (.ref t)])) (OEnd s (fun v h L => ∃ t : Addr, v = some (.ref t) ∧ n0 ≤ t ∧ Fr n0 L ∧ Old Z n0 h ∧ own_B Z h t (38 * n + 2) n) ({ frames := 0, cells := 1, slots := 2396, locals := 0 } : Room).cells ({ frames := 0, cells := 1, slots := 2396, locals := 0 } : Room).slots)
      refine OGo.step (fun _ kk => XS.iconst X7.here hx rfl (hb hby own_d_prog_22_method_3_code_41) kk) ?_
      show OGo p e below (T7.setTop (mkF m 42 #[.val (.int (Int32.ofNat n)), .val (.ref t), .val (.int (Int32.ofNat k))] [(.int (1 : Int32)), (.int (Int32.ofNat (38 * k + 30))), (.ref t)])) (OEnd s (fun v h L => ∃ t : Addr, v = some (.ref t) ∧ n0 ≤ t ∧ Fr n0 L ∧ Old Z n0 h ∧ own_B Z h t (38 * n + 2) n) ({ frames := 0, cells := 1, slots := 2396, locals := 0 } : Room).cells ({ frames := 0, cells := 1, slots := 2396, locals := 0 } : Room).slots)
      have in2 := own_inb (cl := cl.setSlot (38 * k + 28) (.int (nar .boolean 1))) (n := 38 * k + 30) hN (by rw [sz_set]; exact sc) (by omega)
      obtain ⟨T8, h8, X8, e8, W8, st8⟩ := stZ X7 hx hZ e7 (Ac.same W5) (j := (Int32.ofNat (38 * k + 30))) in2 (g := (mkF m 42 #[.val (.int (Int32.ofNat n)), .val (.ref t), .val (.int (Int32.ofNat k))] [(.int (1 : Int32)), (.int (Int32.ofNat (38 * k + 30))), (.ref t)])) rfl rfl (hb hby own_d_prog_22_method_3_code_42)
      refine OGo.step st8 ?_
      show OGo p e below (T8.setTop (mkF m 43 #[.val (.int (Int32.ofNat n)), .val (.ref t), .val (.int (Int32.ofNat k))] [])) (OEnd s (fun v h L => ∃ t : Addr, v = some (.ref t) ∧ n0 ≤ t ∧ Fr n0 L ∧ Old Z n0 h ∧ own_B Z h t (38 * n + 2) n) ({ frames := 0, cells := 1, slots := 2396, locals := 0 } : Room).cells ({ frames := 0, cells := 1, slots := 2396, locals := 0 } : Room).slots)
      rw [own_idx (show 38 * k + 30 < 2147483648 by omega)] at W8 X8
      refine OGo.step (fun _ kk => XS.iinc X8.here hx rfl (hb hby own_d_prog_22_method_3_code_43) rfl (l' := #[.val (.int (Int32.ofNat n)), .val (.ref t), .val (.int ((Int32.ofNat k) + (1 : Int32)))]) rfl kk) ?_
      show OGo p e below (T8.setTop (mkF m 46 #[.val (.int (Int32.ofNat n)), .val (.ref t), .val (.int ((Int32.ofNat k) + (1 : Int32)))] [])) (OEnd s (fun v h L => ∃ t : Addr, v = some (.ref t) ∧ n0 ≤ t ∧ Fr n0 L ∧ Old Z n0 h ∧ own_B Z h t (38 * n + 2) n) ({ frames := 0, cells := 1, slots := 2396, locals := 0 } : Room).cells ({ frames := 0, cells := 1, slots := 2396, locals := 0 } : Room).slots)
      refine OGo.step (fun _ kk => XS.goto X8.here hx rfl (pc0 := 46) (pc' := 12) rfl (hb hby own_d_prog_22_method_3_code_46) (by decide) (by decide) kk) ?_
      show OGo p e below (T8.setTop (mkF m 12 #[.val (.int (Int32.ofNat n)), .val (.ref t), .val (.int ((Int32.ofNat k) + (1 : Int32)))] [])) (OEnd s (fun v h L => ∃ t : Addr, v = some (.ref t) ∧ n0 ≤ t ∧ Fr n0 L ∧ Old Z n0 h ∧ own_B Z h t (38 * n + 2) n) ({ frames := 0, cells := 1, slots := 2396, locals := 0 } : Room).cells ({ frames := 0, cells := 1, slots := 2396, locals := 0 } : Room).slots)
      have f3 : Int32.ofNat k + (1 : Int32) = Int32.ofNat (k + 1) := own_add (c := 1) (by omega)
      rw [f3]
      exact ih (k + 1) _ _ _ (by omega) X8 e8 (own_set Ac sc Hc rfl rfl (by omega) W5 W8) (Fr.snoc X8 N2 gt) (O2.wr W8 gt)
  exact loop n 0 _ _ _ (by omega) X2 e2 B0 (Fr.nil n0) O1

set_option maxRecDepth 65536 in
set_option maxHeartbeats 40000000 in
theorem own_rm2 (l : Launch) (Z : State) (a0 : Array Value) (hw : ∀ d ∈ tables_1, d.before a0 Z = true) (ws : List Jvm.Cond) (t : Addr) (n : Nat) (p2 : Int32) (h0 : Heap) (n0 : Nat) (Z0 : n0 ≤ h0.size) (hn : n < 64) (B : own_B Z h0 t (38 * n + 2) n) :
    OMet l Z (⟨"com/example/haze_to_match/hazetomatch/CoverPointAlternativesPinLaw", "check", "([ZII)Z"⟩ : MethodName) method_3_code 6 (some .boolean) ws ({ frames := 0, cells := 0, slots := 0, locals := 0 } : Room) #[(.ref t), (.int (Int32.ofNat n)), (.int p2)] h0 (fun v h L => v = some (.int (1 : Int32)) ∧ Fr n0 L ∧ h = h0) := by
  refine OMet.body (plainFor_of_name own_pn1) ?_
  intro p e s m below meth c s₁ hx hby hml hown hnm hret hlk hZ X0 e0
  refine OGo.step (fun _ kk => castTop (show entryFrame m #[(.ref t), (.int (Int32.ofNat n)), (.int p2)] 6 = (mkF m 0 #[.val (.ref t), .val (.int (Int32.ofNat n)), .val (.int p2), .unset, .unset, .unset] []) from by first | (simp [entryFrame, mkF, argsToLocals, Value.category]; done) | rfl) kk) ?_
  show OGo p e below (s₁.setTop (mkF m 0 #[.val (.ref t), .val (.int (Int32.ofNat n)), .val (.int p2), .unset, .unset, .unset] [])) (OEnd s (fun v h L => v = some (.int (1 : Int32)) ∧ Fr n0 L ∧ h = h0) ({ frames := 0, cells := 0, slots := 0, locals := 0 } : Room).cells ({ frames := 0, cells := 0, slots := 0, locals := 0 } : Room).slots)
  have N0 := Fr.nil n0
  have hN : 38 * n + 2 < 2147483648 := by omega
  obtain ⟨cl, Ac, sc, Hc⟩ := B
  refine OGo.step (fun _ kk => XS.iloadN X0.here hx rfl (hb hby own_d_method_3_code_0) rfl kk) ?_
  show OGo p e below (s₁.setTop (mkF m 1 #[.val (.ref t), .val (.int (Int32.ofNat n)), .val (.int p2), .unset, .unset, .unset] [(.int p2)])) (OEnd s (fun v h L => v = some (.int (1 : Int32)) ∧ Fr n0 L ∧ h = h0) ({ frames := 0, cells := 0, slots := 0, locals := 0 } : Room).cells ({ frames := 0, cells := 0, slots := 0, locals := 0 } : Room).slots)
  refine OGo.step (fun _ kk => X0.ldcInt hx hown (mvT hZ (hw _ (List.mem_of_getElem? (i := 11) rfl))) (g := (mkF m 1 #[.val (.ref t), .val (.int (Int32.ofNat n)), .val (.int p2), .unset, .unset, .unset] [(.int p2)])) rfl (hb hby own_d_method_3_code_1) _ kk) ?_
  show OGo p e below (s₁.setTop (mkF m 3 #[.val (.ref t), .val (.int (Int32.ofNat n)), .val (.int p2), .unset, .unset, .unset] [(.int (2147483647 : Int32)), (.int p2)])) (OEnd s (fun v h L => v = some (.int (1 : Int32)) ∧ Fr n0 L ∧ h = h0) ({ frames := 0, cells := 0, slots := 0, locals := 0 } : Room).cells ({ frames := 0, cells := 0, slots := 0, locals := 0 } : Room).slots)
  refine OGo.step (fun _ kk => XS.iand X0.here hx rfl (hb hby own_d_method_3_code_3) rfl kk) ?_
  show OGo p e below (s₁.setTop (mkF m 4 #[.val (.ref t), .val (.int (Int32.ofNat n)), .val (.int p2), .unset, .unset, .unset] [(.int (p2 &&& (2147483647 : Int32)))])) (OEnd s (fun v h L => v = some (.int (1 : Int32)) ∧ Fr n0 L ∧ h = h0) ({ frames := 0, cells := 0, slots := 0, locals := 0 } : Room).cells ({ frames := 0, cells := 0, slots := 0, locals := 0 } : Room).slots)
  refine OGo.step (fun _ kk => XS.aloadN X0.here hx rfl (hb hby own_d_method_3_code_4) rfl rfl kk) ?_
  show OGo p e below (s₁.setTop (mkF m 5 #[.val (.ref t), .val (.int (Int32.ofNat n)), .val (.int p2), .unset, .unset, .unset] [(.ref t), (.int (p2 &&& (2147483647 : Int32)))])) (OEnd s (fun v h L => v = some (.int (1 : Int32)) ∧ Fr n0 L ∧ h = h0) ({ frames := 0, cells := 0, slots := 0, locals := 0 } : Room).cells ({ frames := 0, cells := 0, slots := 0, locals := 0 } : Room).slots)
  refine OGo.step (fun _ kk => X0.arraylength hx (by rw [e0]; exact Ac.1) (State.isArrayOf_alike hZ.alike Ac.2.1) (g := (mkF m 5 #[.val (.ref t), .val (.int (Int32.ofNat n)), .val (.int p2), .unset, .unset, .unset] [(.ref t), (.int (p2 &&& (2147483647 : Int32)))])) rfl rfl (hb hby own_d_method_3_code_5) _ kk) ?_
  rw [sc]
  show OGo p e below (s₁.setTop (mkF m 6 #[.val (.ref t), .val (.int (Int32.ofNat n)), .val (.int p2), .unset, .unset, .unset] [(.int (Int32.ofNat (38 * n + 2))), (.int (p2 &&& (2147483647 : Int32)))])) (OEnd s (fun v h L => v = some (.int (1 : Int32)) ∧ Fr n0 L ∧ h = h0) ({ frames := 0, cells := 0, slots := 0, locals := 0 } : Room).cells ({ frames := 0, cells := 0, slots := 0, locals := 0 } : Room).slots)
  obtain ⟨j, hj, ej⟩ := own_rem (x := p2 &&& 2147483647) (n := 38 * n + 2) hN (by omega) (by rw [Jvm.Kit.i32_mask p2 2147483647 (k := 31) (by decide) (by decide)]; omega)
  refine OGo.step (fun _ kk => Jvm.RoadKit.iremM X0 hx rfl (hb hby own_d_method_3_code_6) rfl (by rw [Ne, ← Int32.toInt_inj, own_nat hN]; show ¬ ((38 * n + 2 : Nat) : Int) = 0; omega) kk) ?_
  show OGo p e below (s₁.setTop (mkF m 7 #[.val (.ref t), .val (.int (Int32.ofNat n)), .val (.int p2), .unset, .unset, .unset] [(.int ((p2 &&& (2147483647 : Int32)) % Int32.ofNat (38 * n + 2)))])) (OEnd s (fun v h L => v = some (.int (1 : Int32)) ∧ Fr n0 L ∧ h = h0) ({ frames := 0, cells := 0, slots := 0, locals := 0 } : Room).cells ({ frames := 0, cells := 0, slots := 0, locals := 0 } : Room).slots)
  rw [ej]
  show OGo p e below (s₁.setTop (mkF m 7 #[.val (.ref t), .val (.int (Int32.ofNat n)), .val (.int p2), .unset, .unset, .unset] [(.int (Int32.ofNat j))])) (OEnd s (fun v h L => v = some (.int (1 : Int32)) ∧ Fr n0 L ∧ h = h0) ({ frames := 0, cells := 0, slots := 0, locals := 0 } : Room).cells ({ frames := 0, cells := 0, slots := 0, locals := 0 } : Room).slots)
  refine OGo.step (fun _ kk => XS.istoreN X0.here hx rfl (hb hby own_d_method_3_code_7) rfl (l' := #[.val (.ref t), .val (.int (Int32.ofNat n)), .val (.int p2), .val (.int (Int32.ofNat j)), .unset, .unset]) rfl kk) ?_
  show OGo p e below (s₁.setTop (mkF m 8 #[.val (.ref t), .val (.int (Int32.ofNat n)), .val (.int p2), .val (.int (Int32.ofNat j)), .unset, .unset] [])) (OEnd s (fun v h L => v = some (.int (1 : Int32)) ∧ Fr n0 L ∧ h = h0) ({ frames := 0, cells := 0, slots := 0, locals := 0 } : Room).cells ({ frames := 0, cells := 0, slots := 0, locals := 0 } : Room).slots)
  refine OGo.step (fun _ kk => XS.iloadN X0.here hx rfl (hb hby own_d_method_3_code_8) rfl kk) ?_
  show OGo p e below (s₁.setTop (mkF m 9 #[.val (.ref t), .val (.int (Int32.ofNat n)), .val (.int p2), .val (.int (Int32.ofNat j)), .unset, .unset] [(.int (Int32.ofNat j))])) (OEnd s (fun v h L => v = some (.int (1 : Int32)) ∧ Fr n0 L ∧ h = h0) ({ frames := 0, cells := 0, slots := 0, locals := 0 } : Room).cells ({ frames := 0, cells := 0, slots := 0, locals := 0 } : Room).slots)
  refine OGo.step (fun _ kk => XS.bipush X0.here hx rfl (hb hby own_d_method_3_code_9) kk) ?_
  show OGo p e below (s₁.setTop (mkF m 11 #[.val (.ref t), .val (.int (Int32.ofNat n)), .val (.int p2), .val (.int (Int32.ofNat j)), .unset, .unset] [(.int (38 : Int32)), (.int (Int32.ofNat j))])) (OEnd s (fun v h L => v = some (.int (1 : Int32)) ∧ Fr n0 L ∧ h = h0) ({ frames := 0, cells := 0, slots := 0, locals := 0 } : Room).cells ({ frames := 0, cells := 0, slots := 0, locals := 0 } : Room).slots)
  refine OGo.step (fun _ kk => Jvm.RoadKit.iremM X0 hx rfl (hb hby own_d_method_3_code_11) rfl (by decide) kk) ?_
  show OGo p e below (s₁.setTop (mkF m 12 #[.val (.ref t), .val (.int (Int32.ofNat n)), .val (.int p2), .val (.int (Int32.ofNat j)), .unset, .unset] [(.int ((Int32.ofNat j) % (38 : Int32)))])) (OEnd s (fun v h L => v = some (.int (1 : Int32)) ∧ Fr n0 L ∧ h = h0) ({ frames := 0, cells := 0, slots := 0, locals := 0 } : Room).cells ({ frames := 0, cells := 0, slots := 0, locals := 0 } : Room).slots)
  rw [own_rem38 (show j < 2147483648 by omega)]
  show OGo p e below (s₁.setTop (mkF m 12 #[.val (.ref t), .val (.int (Int32.ofNat n)), .val (.int p2), .val (.int (Int32.ofNat j)), .unset, .unset] [(.int (Int32.ofNat (j % 38)))])) (OEnd s (fun v h L => v = some (.int (1 : Int32)) ∧ Fr n0 L ∧ h = h0) ({ frames := 0, cells := 0, slots := 0, locals := 0 } : Room).cells ({ frames := 0, cells := 0, slots := 0, locals := 0 } : Room).slots)
  refine OGo.step (fun _ kk => XS.istore X0.here hx rfl (hb hby own_d_method_3_code_12) rfl (l' := #[.val (.ref t), .val (.int (Int32.ofNat n)), .val (.int p2), .val (.int (Int32.ofNat j)), .val (.int (Int32.ofNat (j % 38))), .unset]) rfl kk) ?_
  show OGo p e below (s₁.setTop (mkF m 14 #[.val (.ref t), .val (.int (Int32.ofNat n)), .val (.int p2), .val (.int (Int32.ofNat j)), .val (.int (Int32.ofNat (j % 38))), .unset] [])) (OEnd s (fun v h L => v = some (.int (1 : Int32)) ∧ Fr n0 L ∧ h = h0) ({ frames := 0, cells := 0, slots := 0, locals := 0 } : Room).cells ({ frames := 0, cells := 0, slots := 0, locals := 0 } : Room).slots)
  refine OGo.step (fun _ kk => XS.iloadN X0.here hx rfl (hb hby own_d_method_3_code_14) rfl kk) ?_
  show OGo p e below (s₁.setTop (mkF m 15 #[.val (.ref t), .val (.int (Int32.ofNat n)), .val (.int p2), .val (.int (Int32.ofNat j)), .val (.int (Int32.ofNat (j % 38))), .unset] [(.int (Int32.ofNat j))])) (OEnd s (fun v h L => v = some (.int (1 : Int32)) ∧ Fr n0 L ∧ h = h0) ({ frames := 0, cells := 0, slots := 0, locals := 0 } : Room).cells ({ frames := 0, cells := 0, slots := 0, locals := 0 } : Room).slots)
  refine OGo.step (fun _ kk => XS.bipush X0.here hx rfl (hb hby own_d_method_3_code_15) kk) ?_
  show OGo p e below (s₁.setTop (mkF m 17 #[.val (.ref t), .val (.int (Int32.ofNat n)), .val (.int p2), .val (.int (Int32.ofNat j)), .val (.int (Int32.ofNat (j % 38))), .unset] [(.int (38 : Int32)), (.int (Int32.ofNat j))])) (OEnd s (fun v h L => v = some (.int (1 : Int32)) ∧ Fr n0 L ∧ h = h0) ({ frames := 0, cells := 0, slots := 0, locals := 0 } : Room).cells ({ frames := 0, cells := 0, slots := 0, locals := 0 } : Room).slots)
  refine OGo.step (fun _ kk => XS.iloadN X0.here hx rfl (hb hby own_d_method_3_code_17) rfl kk) ?_
  show OGo p e below (s₁.setTop (mkF m 18 #[.val (.ref t), .val (.int (Int32.ofNat n)), .val (.int p2), .val (.int (Int32.ofNat j)), .val (.int (Int32.ofNat (j % 38))), .unset] [(.int (Int32.ofNat n)), (.int (38 : Int32)), (.int (Int32.ofNat j))])) (OEnd s (fun v h L => v = some (.int (1 : Int32)) ∧ Fr n0 L ∧ h = h0) ({ frames := 0, cells := 0, slots := 0, locals := 0 } : Room).cells ({ frames := 0, cells := 0, slots := 0, locals := 0 } : Room).slots)
  refine OGo.step (fun _ kk => XS.imul X0.here hx rfl (hb hby own_d_method_3_code_18) rfl kk) ?_
  show OGo p e below (s₁.setTop (mkF m 19 #[.val (.ref t), .val (.int (Int32.ofNat n)), .val (.int p2), .val (.int (Int32.ofNat j)), .val (.int (Int32.ofNat (j % 38))), .unset] [(.int ((38 : Int32) * (Int32.ofNat n))), (.int (Int32.ofNat j))])) (OEnd s (fun v h L => v = some (.int (1 : Int32)) ∧ Fr n0 L ∧ h = h0) ({ frames := 0, cells := 0, slots := 0, locals := 0 } : Room).cells ({ frames := 0, cells := 0, slots := 0, locals := 0 } : Room).slots)
  rw [own_mul n hn]
  show OGo p e below (s₁.setTop (mkF m 19 #[.val (.ref t), .val (.int (Int32.ofNat n)), .val (.int p2), .val (.int (Int32.ofNat j)), .val (.int (Int32.ofNat (j % 38))), .unset] [(.int (Int32.ofNat (38 * n))), (.int (Int32.ofNat j))])) (OEnd s (fun v h L => v = some (.int (1 : Int32)) ∧ Fr n0 L ∧ h = h0) ({ frames := 0, cells := 0, slots := 0, locals := 0 } : Room).cells ({ frames := 0, cells := 0, slots := 0, locals := 0 } : Room).slots)
  have K41 : ∀ ex : Int32, ex = own_mark n j → OGo p e below (s₁.setTop (mkF m 41 #[.val (.ref t), .val (.int (Int32.ofNat n)), .val (.int p2), .val (.int (Int32.ofNat j)), .val (.int (Int32.ofNat (j % 38))), .unset] [(.int ex)])) (OEnd s (fun v h L => v = some (.int (1 : Int32)) ∧ Fr n0 L ∧ h = h0) ({ frames := 0, cells := 0, slots := 0, locals := 0 } : Room).cells ({ frames := 0, cells := 0, slots := 0, locals := 0 } : Room).slots) := by
    intro ex hex
    show OGo p e below (s₁.setTop (mkF m 41 #[.val (.ref t), .val (.int (Int32.ofNat n)), .val (.int p2), .val (.int (Int32.ofNat j)), .val (.int (Int32.ofNat (j % 38))), .unset] [(.int ex)])) (OEnd s (fun v h L => v = some (.int (1 : Int32)) ∧ Fr n0 L ∧ h = h0) ({ frames := 0, cells := 0, slots := 0, locals := 0 } : Room).cells ({ frames := 0, cells := 0, slots := 0, locals := 0 } : Room).slots)
    refine OGo.step (fun _ kk => XS.istore X0.here hx rfl (hb hby own_d_method_3_code_41) rfl (l' := #[.val (.ref t), .val (.int (Int32.ofNat n)), .val (.int p2), .val (.int (Int32.ofNat j)), .val (.int (Int32.ofNat (j % 38))), .val (.int ex)]) rfl kk) ?_
    show OGo p e below (s₁.setTop (mkF m 43 #[.val (.ref t), .val (.int (Int32.ofNat n)), .val (.int p2), .val (.int (Int32.ofNat j)), .val (.int (Int32.ofNat (j % 38))), .val (.int ex)] [])) (OEnd s (fun v h L => v = some (.int (1 : Int32)) ∧ Fr n0 L ∧ h = h0) ({ frames := 0, cells := 0, slots := 0, locals := 0 } : Room).cells ({ frames := 0, cells := 0, slots := 0, locals := 0 } : Room).slots)
    refine OGo.step (fun _ kk => XS.aloadN X0.here hx rfl (hb hby own_d_method_3_code_43) rfl rfl kk) ?_
    show OGo p e below (s₁.setTop (mkF m 44 #[.val (.ref t), .val (.int (Int32.ofNat n)), .val (.int p2), .val (.int (Int32.ofNat j)), .val (.int (Int32.ofNat (j % 38))), .val (.int ex)] [(.ref t)])) (OEnd s (fun v h L => v = some (.int (1 : Int32)) ∧ Fr n0 L ∧ h = h0) ({ frames := 0, cells := 0, slots := 0, locals := 0 } : Room).cells ({ frames := 0, cells := 0, slots := 0, locals := 0 } : Room).slots)
    refine OGo.step (fun _ kk => XS.iloadN X0.here hx rfl (hb hby own_d_method_3_code_44) rfl kk) ?_
    show OGo p e below (s₁.setTop (mkF m 45 #[.val (.ref t), .val (.int (Int32.ofNat n)), .val (.int p2), .val (.int (Int32.ofNat j)), .val (.int (Int32.ofNat (j % 38))), .val (.int ex)] [(.int (Int32.ofNat j)), (.ref t)])) (OEnd s (fun v h L => v = some (.int (1 : Int32)) ∧ Fr n0 L ∧ h = h0) ({ frames := 0, cells := 0, slots := 0, locals := 0 } : Room).cells ({ frames := 0, cells := 0, slots := 0, locals := 0 } : Room).slots)
    have inb := own_inb (cl := cl) (n := j) hN sc hj
    refine OGo.step (fun _ kk => X0.baloadBooleans hx (j := (Int32.ofNat j)) (v := (.int (own_mark n j))) (by rw [e0]; exact (Ac).1) (State.isArrayOf_alike hZ.alike (Ac).2.1) (Ac).2.2 inb (by rw [own_idx (by omega)]; exact Hc j hj) (g := (mkF m 45 #[.val (.ref t), .val (.int (Int32.ofNat n)), .val (.int p2), .val (.int (Int32.ofNat j)), .val (.int (Int32.ofNat (j % 38))), .val (.int ex)] [(.int (Int32.ofNat j)), (.ref t)])) rfl rfl (hb hby own_d_method_3_code_45) _ kk) ?_
    show OGo p e below (s₁.setTop (mkF m 46 #[.val (.ref t), .val (.int (Int32.ofNat n)), .val (.int p2), .val (.int (Int32.ofNat j)), .val (.int (Int32.ofNat (j % 38))), .val (.int ex)] [(.int (own_mark n j))])) (OEnd s (fun v h L => v = some (.int (1 : Int32)) ∧ Fr n0 L ∧ h = h0) ({ frames := 0, cells := 0, slots := 0, locals := 0 } : Room).cells ({ frames := 0, cells := 0, slots := 0, locals := 0 } : Room).slots)
    refine OGo.step (fun _ kk => XS.iload X0.here hx rfl (hb hby own_d_method_3_code_46) rfl kk) ?_
    show OGo p e below (s₁.setTop (mkF m 48 #[.val (.ref t), .val (.int (Int32.ofNat n)), .val (.int p2), .val (.int (Int32.ofNat j)), .val (.int (Int32.ofNat (j % 38))), .val (.int ex)] [(.int ex), (.int (own_mark n j))])) (OEnd s (fun v h L => v = some (.int (1 : Int32)) ∧ Fr n0 L ∧ h = h0) ({ frames := 0, cells := 0, slots := 0, locals := 0 } : Room).cells ({ frames := 0, cells := 0, slots := 0, locals := 0 } : Room).slots)
    refine OGo.step (fun _ kk => XS.icmpNo X0.here hx rfl (hb hby own_d_method_3_code_48) rfl (teq hex.symm).2 kk) ?_
    show OGo p e below (s₁.setTop (mkF m 51 #[.val (.ref t), .val (.int (Int32.ofNat n)), .val (.int p2), .val (.int (Int32.ofNat j)), .val (.int (Int32.ofNat (j % 38))), .val (.int ex)] [])) (OEnd s (fun v h L => v = some (.int (1 : Int32)) ∧ Fr n0 L ∧ h = h0) ({ frames := 0, cells := 0, slots := 0, locals := 0 } : Room).cells ({ frames := 0, cells := 0, slots := 0, locals := 0 } : Room).slots)
    refine OGo.step (fun _ kk => XS.iconst X0.here hx rfl (hb hby own_d_method_3_code_51) kk) ?_
    show OGo p e below (s₁.setTop (mkF m 52 #[.val (.ref t), .val (.int (Int32.ofNat n)), .val (.int p2), .val (.int (Int32.ofNat j)), .val (.int (Int32.ofNat (j % 38))), .val (.int ex)] [(.int (1 : Int32))])) (OEnd s (fun v h L => v = some (.int (1 : Int32)) ∧ Fr n0 L ∧ h = h0) ({ frames := 0, cells := 0, slots := 0, locals := 0 } : Room).cells ({ frames := 0, cells := 0, slots := 0, locals := 0 } : Room).slots)
    refine OGo.step (fun _ kk => XS.goto X0.here hx rfl (pc0 := 52) (pc' := 56) rfl (hb hby own_d_method_3_code_52) (by decide) (by decide) kk) ?_
    show OGo p e below (s₁.setTop (mkF m 56 #[.val (.ref t), .val (.int (Int32.ofNat n)), .val (.int p2), .val (.int (Int32.ofNat j)), .val (.int (Int32.ofNat (j % 38))), .val (.int ex)] [(.int (1 : Int32))])) (OEnd s (fun v h L => v = some (.int (1 : Int32)) ∧ Fr n0 L ∧ h = h0) ({ frames := 0, cells := 0, slots := 0, locals := 0 } : Room).cells ({ frames := 0, cells := 0, slots := 0, locals := 0 } : Room).slots)
    exact own_retN X0 hx hlk hret (by simp) (hb hby own_d_method_3_code_56) ⟨rfl, N0, e0⟩ (by decide) (by decide)
  by_cases h1 : (Int32.ofNat j) < (Int32.ofNat (38 * n))
  · refine OGo.step (fun _ kk => XS.icmpNo X0.here hx rfl (hb hby own_d_method_3_code_19) rfl (tlt h1).2.1 kk) ?_
    show OGo p e below (s₁.setTop (mkF m 22 #[.val (.ref t), .val (.int (Int32.ofNat n)), .val (.int p2), .val (.int (Int32.ofNat j)), .val (.int (Int32.ofNat (j % 38))), .unset] [])) (OEnd s (fun v h L => v = some (.int (1 : Int32)) ∧ Fr n0 L ∧ h = h0) ({ frames := 0, cells := 0, slots := 0, locals := 0 } : Room).cells ({ frames := 0, cells := 0, slots := 0, locals := 0 } : Room).slots)
    refine OGo.step (fun _ kk => XS.iload X0.here hx rfl (hb hby own_d_method_3_code_22) rfl kk) ?_
    show OGo p e below (s₁.setTop (mkF m 24 #[.val (.ref t), .val (.int (Int32.ofNat n)), .val (.int p2), .val (.int (Int32.ofNat j)), .val (.int (Int32.ofNat (j % 38))), .unset] [(.int (Int32.ofNat (j % 38)))])) (OEnd s (fun v h L => v = some (.int (1 : Int32)) ∧ Fr n0 L ∧ h = h0) ({ frames := 0, cells := 0, slots := 0, locals := 0 } : Room).cells ({ frames := 0, cells := 0, slots := 0, locals := 0 } : Room).slots)
    refine OGo.step (fun _ kk => XS.bipush X0.here hx rfl (hb hby own_d_method_3_code_24) kk) ?_
    show OGo p e below (s₁.setTop (mkF m 26 #[.val (.ref t), .val (.int (Int32.ofNat n)), .val (.int p2), .val (.int (Int32.ofNat j)), .val (.int (Int32.ofNat (j % 38))), .unset] [(.int (28 : Int32)), (.int (Int32.ofNat (j % 38)))])) (OEnd s (fun v h L => v = some (.int (1 : Int32)) ∧ Fr n0 L ∧ h = h0) ({ frames := 0, cells := 0, slots := 0, locals := 0 } : Room).cells ({ frames := 0, cells := 0, slots := 0, locals := 0 } : Room).slots)
    by_cases h2 : (Int32.ofNat (j % 38)) = (28 : Int32)
    · refine OGo.step (fun _ kk => XS.icmpYes X0.here hx rfl (pc0 := 26) (pc' := 36) rfl (hb hby own_d_method_3_code_26) rfl (teq h2).1 (by decide) (by decide) kk) ?_
      show OGo p e below (s₁.setTop (mkF m 36 #[.val (.ref t), .val (.int (Int32.ofNat n)), .val (.int p2), .val (.int (Int32.ofNat j)), .val (.int (Int32.ofNat (j % 38))), .unset] [])) (OEnd s (fun v h L => v = some (.int (1 : Int32)) ∧ Fr n0 L ∧ h = h0) ({ frames := 0, cells := 0, slots := 0, locals := 0 } : Room).cells ({ frames := 0, cells := 0, slots := 0, locals := 0 } : Room).slots)
      refine OGo.step (fun _ kk => XS.iconst X0.here hx rfl (hb hby own_d_method_3_code_36) kk) ?_
      show OGo p e below (s₁.setTop (mkF m 37 #[.val (.ref t), .val (.int (Int32.ofNat n)), .val (.int p2), .val (.int (Int32.ofNat j)), .val (.int (Int32.ofNat (j % 38))), .unset] [(.int (1 : Int32))])) (OEnd s (fun v h L => v = some (.int (1 : Int32)) ∧ Fr n0 L ∧ h = h0) ({ frames := 0, cells := 0, slots := 0, locals := 0 } : Room).cells ({ frames := 0, cells := 0, slots := 0, locals := 0 } : Room).slots)
      refine OGo.step (fun _ kk => XS.goto X0.here hx rfl (pc0 := 37) (pc' := 41) rfl (hb hby own_d_method_3_code_37) (by decide) (by decide) kk) ?_
      show OGo p e below (s₁.setTop (mkF m 41 #[.val (.ref t), .val (.int (Int32.ofNat n)), .val (.int p2), .val (.int (Int32.ofNat j)), .val (.int (Int32.ofNat (j % 38))), .unset] [(.int (1 : Int32))])) (OEnd s (fun v h L => v = some (.int (1 : Int32)) ∧ Fr n0 L ∧ h = h0) ({ frames := 0, cells := 0, slots := 0, locals := 0 } : Room).cells ({ frames := 0, cells := 0, slots := 0, locals := 0 } : Room).slots)
      exact K41 _ (by unfold own_mark; rw [if_pos (by rw [own_lt (by omega) (by omega)] at h1; rw [show (28 : Int32) = Int32.ofNat 28 from rfl, own_eq (by omega) (by omega)] at h2; omega)])
    · refine OGo.step (fun _ kk => XS.icmpNo X0.here hx rfl (hb hby own_d_method_3_code_26) rfl (feq h2).1 kk) ?_
      show OGo p e below (s₁.setTop (mkF m 29 #[.val (.ref t), .val (.int (Int32.ofNat n)), .val (.int p2), .val (.int (Int32.ofNat j)), .val (.int (Int32.ofNat (j % 38))), .unset] [])) (OEnd s (fun v h L => v = some (.int (1 : Int32)) ∧ Fr n0 L ∧ h = h0) ({ frames := 0, cells := 0, slots := 0, locals := 0 } : Room).cells ({ frames := 0, cells := 0, slots := 0, locals := 0 } : Room).slots)
      refine OGo.step (fun _ kk => XS.iload X0.here hx rfl (hb hby own_d_method_3_code_29) rfl kk) ?_
      show OGo p e below (s₁.setTop (mkF m 31 #[.val (.ref t), .val (.int (Int32.ofNat n)), .val (.int p2), .val (.int (Int32.ofNat j)), .val (.int (Int32.ofNat (j % 38))), .unset] [(.int (Int32.ofNat (j % 38)))])) (OEnd s (fun v h L => v = some (.int (1 : Int32)) ∧ Fr n0 L ∧ h = h0) ({ frames := 0, cells := 0, slots := 0, locals := 0 } : Room).cells ({ frames := 0, cells := 0, slots := 0, locals := 0 } : Room).slots)
      refine OGo.step (fun _ kk => XS.bipush X0.here hx rfl (hb hby own_d_method_3_code_31) kk) ?_
      show OGo p e below (s₁.setTop (mkF m 33 #[.val (.ref t), .val (.int (Int32.ofNat n)), .val (.int p2), .val (.int (Int32.ofNat j)), .val (.int (Int32.ofNat (j % 38))), .unset] [(.int (30 : Int32)), (.int (Int32.ofNat (j % 38)))])) (OEnd s (fun v h L => v = some (.int (1 : Int32)) ∧ Fr n0 L ∧ h = h0) ({ frames := 0, cells := 0, slots := 0, locals := 0 } : Room).cells ({ frames := 0, cells := 0, slots := 0, locals := 0 } : Room).slots)
      by_cases h3 : (Int32.ofNat (j % 38)) = (30 : Int32)
      · refine OGo.step (fun _ kk => XS.icmpNo X0.here hx rfl (hb hby own_d_method_3_code_33) rfl (teq h3).2 kk) ?_
        show OGo p e below (s₁.setTop (mkF m 36 #[.val (.ref t), .val (.int (Int32.ofNat n)), .val (.int p2), .val (.int (Int32.ofNat j)), .val (.int (Int32.ofNat (j % 38))), .unset] [])) (OEnd s (fun v h L => v = some (.int (1 : Int32)) ∧ Fr n0 L ∧ h = h0) ({ frames := 0, cells := 0, slots := 0, locals := 0 } : Room).cells ({ frames := 0, cells := 0, slots := 0, locals := 0 } : Room).slots)
        refine OGo.step (fun _ kk => XS.iconst X0.here hx rfl (hb hby own_d_method_3_code_36) kk) ?_
        show OGo p e below (s₁.setTop (mkF m 37 #[.val (.ref t), .val (.int (Int32.ofNat n)), .val (.int p2), .val (.int (Int32.ofNat j)), .val (.int (Int32.ofNat (j % 38))), .unset] [(.int (1 : Int32))])) (OEnd s (fun v h L => v = some (.int (1 : Int32)) ∧ Fr n0 L ∧ h = h0) ({ frames := 0, cells := 0, slots := 0, locals := 0 } : Room).cells ({ frames := 0, cells := 0, slots := 0, locals := 0 } : Room).slots)
        refine OGo.step (fun _ kk => XS.goto X0.here hx rfl (pc0 := 37) (pc' := 41) rfl (hb hby own_d_method_3_code_37) (by decide) (by decide) kk) ?_
        show OGo p e below (s₁.setTop (mkF m 41 #[.val (.ref t), .val (.int (Int32.ofNat n)), .val (.int p2), .val (.int (Int32.ofNat j)), .val (.int (Int32.ofNat (j % 38))), .unset] [(.int (1 : Int32))])) (OEnd s (fun v h L => v = some (.int (1 : Int32)) ∧ Fr n0 L ∧ h = h0) ({ frames := 0, cells := 0, slots := 0, locals := 0 } : Room).cells ({ frames := 0, cells := 0, slots := 0, locals := 0 } : Room).slots)
        exact K41 _ (by unfold own_mark; rw [if_pos (by rw [own_lt (by omega) (by omega)] at h1; rw [show (30 : Int32) = Int32.ofNat 30 from rfl, own_eq (by omega) (by omega)] at h3; omega)])
      · refine OGo.step (fun _ kk => XS.icmpYes X0.here hx rfl (pc0 := 33) (pc' := 40) rfl (hb hby own_d_method_3_code_33) rfl (feq h3).2 (by decide) (by decide) kk) ?_
        show OGo p e below (s₁.setTop (mkF m 40 #[.val (.ref t), .val (.int (Int32.ofNat n)), .val (.int p2), .val (.int (Int32.ofNat j)), .val (.int (Int32.ofNat (j % 38))), .unset] [])) (OEnd s (fun v h L => v = some (.int (1 : Int32)) ∧ Fr n0 L ∧ h = h0) ({ frames := 0, cells := 0, slots := 0, locals := 0 } : Room).cells ({ frames := 0, cells := 0, slots := 0, locals := 0 } : Room).slots)
        refine OGo.step (fun _ kk => XS.iconst X0.here hx rfl (hb hby own_d_method_3_code_40) kk) ?_
        show OGo p e below (s₁.setTop (mkF m 41 #[.val (.ref t), .val (.int (Int32.ofNat n)), .val (.int p2), .val (.int (Int32.ofNat j)), .val (.int (Int32.ofNat (j % 38))), .unset] [(.int (0 : Int32))])) (OEnd s (fun v h L => v = some (.int (1 : Int32)) ∧ Fr n0 L ∧ h = h0) ({ frames := 0, cells := 0, slots := 0, locals := 0 } : Room).cells ({ frames := 0, cells := 0, slots := 0, locals := 0 } : Room).slots)
        exact K41 _ (by unfold own_mark; rw [if_neg (by rw [show (28 : Int32) = Int32.ofNat 28 from rfl, own_eq (by omega) (by omega)] at h2; rw [show (30 : Int32) = Int32.ofNat 30 from rfl, own_eq (by omega) (by omega)] at h3; omega)])
  · refine OGo.step (fun _ kk => XS.icmpYes X0.here hx rfl (pc0 := 19) (pc' := 40) rfl (hb hby own_d_method_3_code_19) rfl (flt h1).2.1 (by decide) (by decide) kk) ?_
    show OGo p e below (s₁.setTop (mkF m 40 #[.val (.ref t), .val (.int (Int32.ofNat n)), .val (.int p2), .val (.int (Int32.ofNat j)), .val (.int (Int32.ofNat (j % 38))), .unset] [])) (OEnd s (fun v h L => v = some (.int (1 : Int32)) ∧ Fr n0 L ∧ h = h0) ({ frames := 0, cells := 0, slots := 0, locals := 0 } : Room).cells ({ frames := 0, cells := 0, slots := 0, locals := 0 } : Room).slots)
    refine OGo.step (fun _ kk => XS.iconst X0.here hx rfl (hb hby own_d_method_3_code_40) kk) ?_
    show OGo p e below (s₁.setTop (mkF m 41 #[.val (.ref t), .val (.int (Int32.ofNat n)), .val (.int p2), .val (.int (Int32.ofNat j)), .val (.int (Int32.ofNat (j % 38))), .unset] [(.int (0 : Int32))])) (OEnd s (fun v h L => v = some (.int (1 : Int32)) ∧ Fr n0 L ∧ h = h0) ({ frames := 0, cells := 0, slots := 0, locals := 0 } : Room).cells ({ frames := 0, cells := 0, slots := 0, locals := 0 } : Room).slots)
    exact K41 _ (by unfold own_mark; rw [if_neg (by rw [own_lt (by omega) (by omega)] at h1; omega)])

set_option maxRecDepth 65536 in
set_option maxHeartbeats 40000000 in
theorem own_rm0 (l : Launch) (Z : State) (a0 : Array Value) (hw : ∀ d ∈ tables_1, d.before a0 Z = true) (ws : List Jvm.Cond) (p1 p2 p3 : Int32) (h0 : Heap) (n0 : Nat) (Z0 : n0 ≤ h0.size) (SB : Sta Z Z.heap "com/example/haze_to_match/hazetomatch/CoverPoint" "BLOCK" "I" (.int 38)) (SA : Sta Z Z.heap "com/example/haze_to_match/hazetomatch/CoverPoint" "ALTERNATIVES" "I" (.int 28)) (O0 : Old Z n0 h0) :
    OMet l Z x code maxLocals ret ws room_1 #[(.int p1), (.int p2), (.int p3)] h0 (fun v h L => v = some (.int (1 : Int32)) ∧ Fr n0 L) := by
  refine OMet.body (plainFor_of_name own_pn1) ?_
  intro p e s m below meth c s₁ hx hby hml hown hnm hret hlk hZ X0 e0
  have hml : c.maxLocals = 5 := hml
  refine OGo.step (fun _ kk => castTop (show entryFrame m #[(.int p1), (.int p2), (.int p3)] maxLocals = (mkF m 0 #[.val (.int p1), .val (.int p2), .val (.int p3), .unset, .unset] []) from by first | (simp [entryFrame, mkF, argsToLocals, Value.category, maxLocals]; done) | rfl) kk) ?_
  show OGo p e below (s₁.setTop (mkF m 0 #[.val (.int p1), .val (.int p2), .val (.int p3), .unset, .unset] [])) (OEnd s (fun v h L => v = some (.int (1 : Int32)) ∧ Fr n0 L) room_1.cells room_1.slots)
  refine OGo.step (fun _ kk => XS.iloadN X0.here hx rfl (hb hby at_0) rfl kk) ?_
  show OGo p e below (s₁.setTop (mkF m 1 #[.val (.int p1), .val (.int p2), .val (.int p3), .unset, .unset] [(.int p1)])) (OEnd s (fun v h L => v = some (.int (1 : Int32)) ∧ Fr n0 L) room_1.cells room_1.slots)
  refine OGo.step (fun _ kk => XS.bipush X0.here hx rfl (hb hby at_1) kk) ?_
  show OGo p e below (s₁.setTop (mkF m 3 #[.val (.int p1), .val (.int p2), .val (.int p3), .unset, .unset] [(.int (63 : Int32)), (.int p1)])) (OEnd s (fun v h L => v = some (.int (1 : Int32)) ∧ Fr n0 L) room_1.cells room_1.slots)
  refine OGo.step (fun _ kk => XS.iand X0.here hx rfl (hb hby at_3) rfl kk) ?_
  show OGo p e below (s₁.setTop (mkF m 4 #[.val (.int p1), .val (.int p2), .val (.int p3), .unset, .unset] [(.int (p1 &&& (63 : Int32)))])) (OEnd s (fun v h L => v = some (.int (1 : Int32)) ∧ Fr n0 L) room_1.cells room_1.slots)
  obtain ⟨n, hn, en⟩ : ∃ n : Nat, n < 64 ∧ p1 &&& 63 = Int32.ofNat n := by
    have e := Jvm.Kit.i32_mask p1 63 (k := 6) (by decide) (by decide)
    exact ⟨(p1.toInt % 2 ^ 6).toNat, by omega, own_ofInt (by omega) (by rw [e]; omega)⟩
  rw [en]
  show OGo p e below (s₁.setTop (mkF m 4 #[.val (.int p1), .val (.int p2), .val (.int p3), .unset, .unset] [(.int (Int32.ofNat n))])) (OEnd s (fun v h L => v = some (.int (1 : Int32)) ∧ Fr n0 L) room_1.cells room_1.slots)
  have hN : 38 * n + 2 < 2147483648 := by omega
  refine OGo.step (fun _ kk => XS.istoreN X0.here hx rfl (hb hby at_4) rfl (l' := #[.val (.int p1), .val (.int p2), .val (.int p3), .val (.int (Int32.ofNat n)), .unset]) rfl kk) ?_
  show OGo p e below (s₁.setTop (mkF m 5 #[.val (.int p1), .val (.int p2), .val (.int p3), .val (.int (Int32.ofNat n)), .unset] [])) (OEnd s (fun v h L => v = some (.int (1 : Int32)) ∧ Fr n0 L) room_1.cells room_1.slots)
  refine OGo.step (fun _ kk => XS.iloadN X0.here hx rfl (hb hby at_5) rfl kk) ?_
  show OGo p e below (s₁.setTop (mkF m 6 #[.val (.int p1), .val (.int p2), .val (.int p3), .val (.int (Int32.ofNat n)), .unset] [(.int (Int32.ofNat n))])) (OEnd s (fun v h L => v = some (.int (1 : Int32)) ∧ Fr n0 L) room_1.cells room_1.slots)
  refine own_callS X0 hx hZ (y := (⟨"com/example/haze_to_match/hazetomatch/CoverPoint", "alternatives", "(I)[Z"⟩ : MethodName)) hown (hw _ (List.mem_of_getElem? (i := 0) rfl)) (hw _ (List.mem_of_getElem? (i := 1) rfl)) (hw _ (List.mem_of_getElem? (i := 2) rfl)) (hw _ (List.mem_of_getElem? (i := 3) rfl)) (by decide) (W := 0) (own_rm1 l Z a0 hw [] n h0 n0 Z0 hn SB SA O0) e0  (pc := 6) (Ls := #[.val (.int p1), .val (.int p2), .val (.int p3), .val (.int (Int32.ofNat n)), .unset]) (argsL := [(.int (Int32.ofNat n))]) (rest := []) (by rw [hml]; rfl) (lenOf own_pd0 rfl) rfl (hb hby at_6) (by decide) (by decide) (by decide) (by decide) ?_
  intro v9 T9 L9 X9 hQ9
  obtain ⟨t, rfl, gt, N9, O1, B⟩ := hQ9
  show OGo p e below (T9.setTop (mkF m 9 #[.val (.int p1), .val (.int p2), .val (.int p3), .val (.int (Int32.ofNat n)), .unset] [(.ref t)])) (OEnd s (fun v h L => v = some (.int (1 : Int32)) ∧ Fr n0 L) room_1.cells room_1.slots)
  have Z1 : n0 ≤ T9.heap.size := O1.1 ▸ O1.2.1
  obtain ⟨cl, Ac, sc, Hc⟩ := id B
  refine OGo.step (fun _ kk => XS.astore X9.here hx rfl (hb hby at_9) rfl rfl (l' := #[.val (.int p1), .val (.int p2), .val (.int p3), .val (.int (Int32.ofNat n)), .val (.ref t)]) rfl kk) ?_
  show OGo p e below (T9.setTop (mkF m 11 #[.val (.int p1), .val (.int p2), .val (.int p3), .val (.int (Int32.ofNat n)), .val (.ref t)] [])) (OEnd s (fun v h L => v = some (.int (1 : Int32)) ∧ Fr n0 L) room_1.cells room_1.slots)
  refine OGo.step (fun _ kk => XS.aload X9.here hx rfl (hb hby at_11) rfl rfl kk) ?_
  show OGo p e below (T9.setTop (mkF m 13 #[.val (.int p1), .val (.int p2), .val (.int p3), .val (.int (Int32.ofNat n)), .val (.ref t)] [(.ref t)])) (OEnd s (fun v h L => v = some (.int (1 : Int32)) ∧ Fr n0 L) room_1.cells room_1.slots)
  refine OGo.step (fun _ kk => X9.arraylength hx Ac.1 (State.isArrayOf_alike hZ.alike Ac.2.1) (g := (mkF m 13 #[.val (.int p1), .val (.int p2), .val (.int p3), .val (.int (Int32.ofNat n)), .val (.ref t)] [(.ref t)])) rfl rfl (hb hby at_13) _ kk) ?_
  rw [sc]
  show OGo p e below (T9.setTop (mkF m 14 #[.val (.int p1), .val (.int p2), .val (.int p3), .val (.int (Int32.ofNat n)), .val (.ref t)] [(.int (Int32.ofNat (38 * n + 2)))])) (OEnd s (fun v h L => v = some (.int (1 : Int32)) ∧ Fr n0 L) room_1.cells room_1.slots)
  refine OGo.step (fun _ kk => XS.bipush X9.here hx rfl (hb hby at_14) kk) ?_
  show OGo p e below (T9.setTop (mkF m 16 #[.val (.int p1), .val (.int p2), .val (.int p3), .val (.int (Int32.ofNat n)), .val (.ref t)] [(.int (38 : Int32)), (.int (Int32.ofNat (38 * n + 2)))])) (OEnd s (fun v h L => v = some (.int (1 : Int32)) ∧ Fr n0 L) room_1.cells room_1.slots)
  refine OGo.step (fun _ kk => XS.iloadN X9.here hx rfl (hb hby at_16) rfl kk) ?_
  show OGo p e below (T9.setTop (mkF m 17 #[.val (.int p1), .val (.int p2), .val (.int p3), .val (.int (Int32.ofNat n)), .val (.ref t)] [(.int (Int32.ofNat n)), (.int (38 : Int32)), (.int (Int32.ofNat (38 * n + 2)))])) (OEnd s (fun v h L => v = some (.int (1 : Int32)) ∧ Fr n0 L) room_1.cells room_1.slots)
  refine OGo.step (fun _ kk => XS.imul X9.here hx rfl (hb hby at_17) rfl kk) ?_
  show OGo p e below (T9.setTop (mkF m 18 #[.val (.int p1), .val (.int p2), .val (.int p3), .val (.int (Int32.ofNat n)), .val (.ref t)] [(.int ((38 : Int32) * (Int32.ofNat n))), (.int (Int32.ofNat (38 * n + 2)))])) (OEnd s (fun v h L => v = some (.int (1 : Int32)) ∧ Fr n0 L) room_1.cells room_1.slots)
  refine OGo.step (fun _ kk => XS.iconst X9.here hx rfl (hb hby at_18) kk) ?_
  show OGo p e below (T9.setTop (mkF m 19 #[.val (.int p1), .val (.int p2), .val (.int p3), .val (.int (Int32.ofNat n)), .val (.ref t)] [(.int (2 : Int32)), (.int ((38 : Int32) * (Int32.ofNat n))), (.int (Int32.ofNat (38 * n + 2)))])) (OEnd s (fun v h L => v = some (.int (1 : Int32)) ∧ Fr n0 L) room_1.cells room_1.slots)
  refine OGo.step (fun _ kk => XS.iadd X9.here hx rfl (hb hby at_19) rfl kk) ?_
  show OGo p e below (T9.setTop (mkF m 20 #[.val (.int p1), .val (.int p2), .val (.int p3), .val (.int (Int32.ofNat n)), .val (.ref t)] [(.int (((38 : Int32) * (Int32.ofNat n)) + (2 : Int32))), (.int (Int32.ofNat (38 * n + 2)))])) (OEnd s (fun v h L => v = some (.int (1 : Int32)) ∧ Fr n0 L) room_1.cells room_1.slots)
  refine OGo.step (fun _ kk => XS.icmpYes X9.here hx rfl (pc0 := 20) (pc' := 25) rfl (hb hby at_20) rfl (teq (by rw [own_mul n hn]; exact (own_add (c := 2) hN).symm)).1 (by decide) (by decide) kk) ?_
  show OGo p e below (T9.setTop (mkF m 25 #[.val (.int p1), .val (.int p2), .val (.int p3), .val (.int (Int32.ofNat n)), .val (.ref t)] [])) (OEnd s (fun v h L => v = some (.int (1 : Int32)) ∧ Fr n0 L) room_1.cells room_1.slots)
  refine OGo.step (fun _ kk => XS.aload X9.here hx rfl (hb hby at_25) rfl rfl kk) ?_
  show OGo p e below (T9.setTop (mkF m 27 #[.val (.int p1), .val (.int p2), .val (.int p3), .val (.int (Int32.ofNat n)), .val (.ref t)] [(.ref t)])) (OEnd s (fun v h L => v = some (.int (1 : Int32)) ∧ Fr n0 L) room_1.cells room_1.slots)
  refine OGo.step (fun _ kk => XS.iloadN X9.here hx rfl (hb hby at_27) rfl kk) ?_
  show OGo p e below (T9.setTop (mkF m 28 #[.val (.int p1), .val (.int p2), .val (.int p3), .val (.int (Int32.ofNat n)), .val (.ref t)] [(.int (Int32.ofNat n)), (.ref t)])) (OEnd s (fun v h L => v = some (.int (1 : Int32)) ∧ Fr n0 L) room_1.cells room_1.slots)
  refine OGo.step (fun _ kk => XS.iloadN X9.here hx rfl (hb hby at_28) rfl kk) ?_
  show OGo p e below (T9.setTop (mkF m 29 #[.val (.int p1), .val (.int p2), .val (.int p3), .val (.int (Int32.ofNat n)), .val (.ref t)] [(.int p2), (.int (Int32.ofNat n)), (.ref t)])) (OEnd s (fun v h L => v = some (.int (1 : Int32)) ∧ Fr n0 L) room_1.cells room_1.slots)
  refine own_callS X9 hx hZ (y := (⟨"com/example/haze_to_match/hazetomatch/CoverPointAlternativesPinLaw", "check", "([ZII)Z"⟩ : MethodName)) hown (hw _ (List.mem_of_getElem? (i := 7) rfl)) (hw _ (List.mem_of_getElem? (i := 8) rfl)) (hw _ (List.mem_of_getElem? (i := 9) rfl)) (hw _ (List.mem_of_getElem? (i := 10) rfl)) (by decide) (W := 0) (own_rm2 l Z a0 hw [] t n p2 _ n0 Z1 hn B) rfl  (pc := 29) (Ls := #[.val (.int p1), .val (.int p2), .val (.int p3), .val (.int (Int32.ofNat n)), .val (.ref t)]) (argsL := [(.ref t), (.int (Int32.ofNat n)), (.int p2)]) (rest := []) (by rw [hml]; rfl) (lenOf own_pd1 rfl) rfl (hb hby at_29) (by decide) (by decide) (by decide) (by decide) ?_
  intro v10 T10 L10 X10 hQ10
  obtain ⟨rfl, N10, e10⟩ := hQ10
  show OGo p e below (T10.setTop (mkF m 32 #[.val (.int p1), .val (.int p2), .val (.int p3), .val (.int (Int32.ofNat n)), .val (.ref t)] [(.int (1 : Int32))])) (OEnd s (fun v h L => v = some (.int (1 : Int32)) ∧ Fr n0 L) room_1.cells room_1.slots)
  refine OGo.step (fun _ kk => XS.ifNo X10.here hx rfl (hb hby at_32) rfl ((if0 _ _).trans (feq (by decide)).1) kk) ?_
  show OGo p e below (T10.setTop (mkF m 35 #[.val (.int p1), .val (.int p2), .val (.int p3), .val (.int (Int32.ofNat n)), .val (.ref t)] [])) (OEnd s (fun v h L => v = some (.int (1 : Int32)) ∧ Fr n0 L) room_1.cells room_1.slots)
  refine OGo.step (fun _ kk => XS.aload X10.here hx rfl (hb hby at_35) rfl rfl kk) ?_
  show OGo p e below (T10.setTop (mkF m 37 #[.val (.int p1), .val (.int p2), .val (.int p3), .val (.int (Int32.ofNat n)), .val (.ref t)] [(.ref t)])) (OEnd s (fun v h L => v = some (.int (1 : Int32)) ∧ Fr n0 L) room_1.cells room_1.slots)
  refine OGo.step (fun _ kk => XS.iloadN X10.here hx rfl (hb hby at_37) rfl kk) ?_
  show OGo p e below (T10.setTop (mkF m 38 #[.val (.int p1), .val (.int p2), .val (.int p3), .val (.int (Int32.ofNat n)), .val (.ref t)] [(.int (Int32.ofNat n)), (.ref t)])) (OEnd s (fun v h L => v = some (.int (1 : Int32)) ∧ Fr n0 L) room_1.cells room_1.slots)
  refine OGo.step (fun _ kk => XS.iloadN X10.here hx rfl (hb hby at_38) rfl kk) ?_
  show OGo p e below (T10.setTop (mkF m 39 #[.val (.int p1), .val (.int p2), .val (.int p3), .val (.int (Int32.ofNat n)), .val (.ref t)] [(.int p3), (.int (Int32.ofNat n)), (.ref t)])) (OEnd s (fun v h L => v = some (.int (1 : Int32)) ∧ Fr n0 L) room_1.cells room_1.slots)
  refine own_callS X10 hx hZ (y := (⟨"com/example/haze_to_match/hazetomatch/CoverPointAlternativesPinLaw", "check", "([ZII)Z"⟩ : MethodName)) hown (hw _ (List.mem_of_getElem? (i := 7) rfl)) (hw _ (List.mem_of_getElem? (i := 8) rfl)) (hw _ (List.mem_of_getElem? (i := 9) rfl)) (hw _ (List.mem_of_getElem? (i := 10) rfl)) (by decide) (W := 0) (own_rm2 l Z a0 hw [] t n p3 _ n0 Z1 hn B) e10  (pc := 39) (Ls := #[.val (.int p1), .val (.int p2), .val (.int p3), .val (.int (Int32.ofNat n)), .val (.ref t)]) (argsL := [(.ref t), (.int (Int32.ofNat n)), (.int p3)]) (rest := []) (by rw [hml]; rfl) (lenOf own_pd1 rfl) rfl (hb hby at_39) (by decide) (by decide) (by decide) (by decide) ?_
  intro v11 T11 L11 X11 hQ11
  obtain ⟨rfl, N11, e11⟩ := hQ11
  show OGo p e below (T11.setTop (mkF m 42 #[.val (.int p1), .val (.int p2), .val (.int p3), .val (.int (Int32.ofNat n)), .val (.ref t)] [(.int (1 : Int32))])) (OEnd s (fun v h L => v = some (.int (1 : Int32)) ∧ Fr n0 L) room_1.cells room_1.slots)
  refine OGo.step (fun _ kk => XS.ifNo X11.here hx rfl (hb hby at_42) rfl ((if0 _ _).trans (feq (by decide)).1) kk) ?_
  show OGo p e below (T11.setTop (mkF m 45 #[.val (.int p1), .val (.int p2), .val (.int p3), .val (.int (Int32.ofNat n)), .val (.ref t)] [])) (OEnd s (fun v h L => v = some (.int (1 : Int32)) ∧ Fr n0 L) room_1.cells room_1.slots)
  refine OGo.step (fun _ kk => XS.iconst X11.here hx rfl (hb hby at_45) kk) ?_
  show OGo p e below (T11.setTop (mkF m 46 #[.val (.int p1), .val (.int p2), .val (.int p3), .val (.int (Int32.ofNat n)), .val (.ref t)] [(.int (1 : Int32))])) (OEnd s (fun v h L => v = some (.int (1 : Int32)) ∧ Fr n0 L) room_1.cells room_1.slots)
  refine OGo.step (fun _ kk => XS.goto X11.here hx rfl (pc0 := 46) (pc' := 50) rfl (hb hby at_46) (by decide) (by decide) kk) ?_
  show OGo p e below (T11.setTop (mkF m 50 #[.val (.int p1), .val (.int p2), .val (.int p3), .val (.int (Int32.ofNat n)), .val (.ref t)] [(.int (1 : Int32))])) (OEnd s (fun v h L => v = some (.int (1 : Int32)) ∧ Fr n0 L) room_1.cells room_1.slots)
  exact own_retN X11 hx hlk hret (by simp) (hb hby at_50) ⟨rfl, (((Fr.nil n0).app N9).app N10).app N11⟩ (by decide) (by decide)

set_option maxRecDepth 65536 in
set_option maxHeartbeats 40000000 in
theorem comes_1 {Post : Tables → Env → Array Value → State → Outcome → State → Prop} (hpost : ∀ tb e args s v u, (limb_1_1.after args s (.returned v) u = true ∧ limb_1_2.after args s (.returned v) u = true ∧ True) → FrameEnd s (.returned v) u (Jvm.fieldLocs frame_1_writes args s ++ Jvm.arrayLocs frame_1_arrays args s ++ Jvm.staticLocs frame_1_statics s) 16 4864 → Post tb e args s (.returned v) u) :
    ArmFor flags0 classFile x code maxLocals ret World_1 tables_1 room_1 Calls_1 rest_1 Pre_1 Post := by
  intro l hfl _ _ p e ha hc hk s m args below hf hA hF happ hP
  obtain ⟨hcalls, hrest, hpre⟩ := hP
  obtain ⟨-, -, -, hnamed, -, -, -, hat⟩ := (Spec.applies_iff hf).mp happ
  obtain ⟨hg, hn⟩ := and_e (Cond.before_iff.mp (show (Jvm.Cond.and given_1 narrow_1).before args s = true from hpre))
  obtain ⟨k12, k12'⟩ := and_e hg
  obtain ⟨k13, k13'⟩ := and_e k12'
  obtain ⟨k14, k14'⟩ := and_e k13'
  obtain ⟨w0_, w1_, w2_, rfl⟩ : ∃ w0_ w1_ w2_ : Value, args = #[w0_, w1_, w2_] := by
    have hs : args.size = 3 := by simpa [Cond.value, given_1] using k12
    obtain ⟨L⟩ := args
    match L, hs with
    | [w0_, w1_, w2_], _ => exact ⟨w0_, w1_, w2_, rfl⟩
  have hw := fun d (hd : d ∈ tables_1) => atoms_spec (ws := Jvm.Cond.code x code maxLocals ret :: tables_1) hat d (List.mem_cons_of_mem _ hd)
  have hfit : Fit s := fun {y c} hc i hi => by
    obtain ⟨ha, rfl⟩ := Array.getElem?_eq_some_iff.mp hc
    have q := List.all_eq_true.mp ((Array.all_eq_true_iff_forall_mem.mp hF) _ (Array.getElem_mem ha)) i (List.mem_range.mpr hi)
    simpa [Array.getElem?_eq_getElem hi] using q
  obtain ⟨i0, ei0⟩ := is_v k13
  obtain rfl : w0_ = (.int i0) := Option.some.inj ei0
  obtain ⟨i1, ei1⟩ := is_v k14
  obtain rfl : w1_ = (.int i1) := Option.some.inj ei1
  obtain ⟨i2, ei2⟩ := is_v k14'
  obtain rfl : w2_ = (.int i2) := Option.some.inj ei2
  obtain ⟨k15, k15'⟩ := and_e hn
  have S_BLOCK := Sta.start (own_eqv k15 rfl) (Or.inr ⟨(hw _ (List.mem_of_getElem? (i := 2) rfl)), (hw _ (List.mem_of_getElem? (i := 5) rfl))⟩)
  have S_ALTERNATIVES := Sta.start (own_eqv k15' rfl) (Or.inr ⟨(hw _ (List.mem_of_getElem? (i := 2) rfl)), (hw _ (List.mem_of_getElem? (i := 13) rfl))⟩)
  obtain ⟨n, o, h1, h2, h3, _, L, rfl, ⟨rfl, N⟩, hq⟩ := own_rm0 l s _ hw tables_1 i0 i1 i2  s.heap s.heap.size (Nat.le_refl _) S_BLOCK S_ALTERNATIVES (Old.start s) p e ha hc hk s m _ below hf ((Spec.applies_iff_loose hf).mp happ).1 ⟨rfl, State.Warmed39.refl s, rfl⟩ trivial
  exact ⟨n, _, h1, h2, h3, hpost _ _ _ _ _ _ ⟨Cond.after_iff.mpr rfl, Cond.after_iff.mpr (eq_i res_at (Term.int_eval (1)) rfl), trivial⟩ ⟨hq.1, hq.2.1, (hq.2.2.sift fun y hy => Or.inr (N y hy)).mono (by decide) (by decide)⟩⟩
theorem main_1_1 : Claimed_1_1 := comes_1 fun _ _ _ _ _ _ h hF => ⟨h.1, hF⟩
theorem main_1_2 : Claimed_1_2 := comes_1 fun _ _ _ _ _ _ h hF => ⟨h.2.1, hF⟩
end Jvm.Pilot.@@N@@
namespace Jvm.Pilot.@@N@@
open Jvm Jvm.ClassFile Sem Op Lib Jvm.Free Jvm.Stand Jvm.Pilot.@@N@@.Jvm.D
/-! MADE BY PROGRAM (witnessworld.py) out of the Statement's table words and the real class files: 11 classes; the members and pool entries that the words name. The judged class is class 1, her method 1. -/
namespace start1
open Jvm.ClassFile
def u (s : String) : CpInfo := .utf8 (stringToUtf16 s)
/-- a pool by its gaps: so many unusable entries, then the entry; so many at the end -/
def gap : Nat → List CpInfo → List CpInfo
  | 0, r => r
  | n + 1, r => .unusable :: gap n r
def poolList (es : List (Nat × CpInfo)) (last : Nat) : List CpInfo := es.foldr (fun e r => gap e.1 (e.2 :: r)) (gap last [])
def pool (es : List (Nat × CpInfo)) (last : Nat) : Array CpInfo := ⟨poolList es last⟩
def fileOf (pool : Array CpInfo) (this : Nat) (attrs : Array Attribute := #[]) (ms : Array MethodInfo := #[]) (fl : Nat := 33) (sup : Nat := 0) (ifs : Array Nat := #[]) (fds : Array FieldInfo := #[]) : ClassFile where
  minorVersion := 0
  majorVersion := 65
  constantPool := pool
  accessFlags := fl
  thisClass := this
  superClass := sup
  interfaces := ifs
  fields := fds
  methods := ms
  attributes := attrs
def plain (name : String) (sup : Option ClassId) : Class where
  name := name
  kind := .ordinary
  loader := none
  accessFlags := 33
  super := sup
  interfaces := #[]
  cf := none
  fields := #[]
  methods := #[]
  instanceTypes := #[]
  staticTypes := #[]
  resolved := #[]
  callSites := []
  init := .initialized
  statics := none
  mirror := none

def pool0 : Array CpInfo := pool [(5, u "<init>"), (0, u "()V"), (1, .class_ 10), (1, u "java/lang/Object")] 113

def k0m0 : Method := { name := "<init>", desc := "()V", sig := { parameters := [], returnType := none }, accessFlags := 1, code := none }
/-- java/lang/Object -/
def k0 : Class := { plain "java/lang/Object" none with
  accessFlags := 33
  interfaces := #[]
  cf := some (fileOf pool0 8 #[] #[{ accessFlags := 1, nameIndex := 5, descriptorIndex := 6, attributes := #[] }] 33 0 #[] #[])
  fields := #[]
  methods := #[k0m0]
  instanceTypes := #[]
  staticTypes := #[]
  resolved := Array.replicate 124 none
  statics := none }

def pool1 : Array CpInfo := pool [(2, .class_ 4), (1, u "java/lang/Object"), (0, u "<init>"), (0, u "()V"), (0, .methodref 8 9), (0, .class_ 10), (0, .nameAndType 11 12), (0, u "com/example/haze_to_match/hazetomatch/CoverPoint"), (0, u "alternatives"), (0, u "(I)[Z"), (0, .methodref 14 15), (0, .class_ 16), (0, .nameAndType 17 18), (0, u "com/example/haze_to_match/hazetomatch/CoverPointAlternativesPinLaw"), (0, u "check"), (0, u "([ZII)Z"), (0, .integer 2147483647), (2, u "law"), (0, u "(III)Z")] 5

def k1m0 : Method := { name := "<init>", desc := "()V", sig := { parameters := [], returnType := none }, accessFlags := 2, code := none }
def k1c1 : Code := { maxStack := 3, maxLocals := 5, code := code, exceptionTable := #[], attributes := #[] }
def k1m1 : Method := { name := "law", desc := "(III)Z", sig := { parameters := [.int, .int, .int], returnType := some .boolean }, accessFlags := 9, code := some k1c1 }
def k1c2 : Code := { maxStack := 3, maxLocals := 6, code := method_3_code, exceptionTable := #[], attributes := #[] }
def k1m2 : Method := { name := "check", desc := "([ZII)Z", sig := { parameters := [(.array .boolean), .int, .int], returnType := some .boolean }, accessFlags := 10, code := some k1c2 }
/-- com/example/haze_to_match/hazetomatch/CoverPointAlternativesPinLaw -/
def k1 : Class := { plain "com/example/haze_to_match/hazetomatch/CoverPointAlternativesPinLaw" (some 0) with
  accessFlags := 49
  interfaces := #[]
  cf := some (fileOf pool1 14 #[] #[{ accessFlags := 2, nameIndex := 5, descriptorIndex := 6, attributes := #[] }, { accessFlags := 9, nameIndex := 22, descriptorIndex := 23, attributes := #[] }, { accessFlags := 10, nameIndex := 17, descriptorIndex := 18, attributes := #[] }] 49 2 #[] #[])
  fields := #[]
  methods := #[k1m0, k1m1, k1m2]
  instanceTypes := #[]
  staticTypes := #[]
  resolved := Array.replicate 29 none
  statics := none }

def pool2 : Array CpInfo := pool [(2, .class_ 4), (1, u "java/lang/Object"), (0, u "<init>"), (0, u "()V"), (0, .fieldref 8 9), (0, .class_ 10), (0, .nameAndType 11 12), (0, u "com/example/haze_to_match/hazetomatch/CoverPoint"), (0, u "BLOCK"), (0, u "I"), (75, .fieldref 8 89), (0, .nameAndType 90 12), (0, u "ALTERNATIVES"), (2, u "CATEGORIES"), (83, u "LEVELS"), (0, u "[D"), (27, u "THRESHOLDS"), (44, u "CUTS"), (0, u "ULPS"), (12, u "alternatives"), (0, u "(I)[Z")] 27

def k2m0 : Method := { name := "<init>", desc := "()V", sig := { parameters := [], returnType := none }, accessFlags := 2, code := none }
def k2c1 : Code := { maxStack := 3, maxLocals := 3, code := prog_22_method_3_code, exceptionTable := #[], attributes := #[] }
def k2m1 : Method := { name := "alternatives", desc := "(I)[Z", sig := { parameters := [.int], returnType := some (.array .boolean) }, accessFlags := 8, code := some k2c1 }
/-- com/example/haze_to_match/hazetomatch/CoverPoint -/
def k2 : Class := { plain "com/example/haze_to_match/hazetomatch/CoverPoint" (some 0) with
  accessFlags := 48
  interfaces := #[]
  cf := some (fileOf pool2 8 #[] #[{ accessFlags := 2, nameIndex := 5, descriptorIndex := 6, attributes := #[] }, { accessFlags := 8, nameIndex := 265, descriptorIndex := 266, attributes := #[] }] 48 2 #[] #[{ accessFlags := 26, nameIndex := 177, descriptorIndex := 178, attributes := #[] }, { accessFlags := 26, nameIndex := 251, descriptorIndex := 12, attributes := #[] }, { accessFlags := 26, nameIndex := 90, descriptorIndex := 12, attributes := #[] }, { accessFlags := 26, nameIndex := 93, descriptorIndex := 12, attributes := #[] }, { accessFlags := 26, nameIndex := 206, descriptorIndex := 12, attributes := #[] }, { accessFlags := 26, nameIndex := 11, descriptorIndex := 12, attributes := #[] }, { accessFlags := 26, nameIndex := 252, descriptorIndex := 12, attributes := #[] }])
  fields := #[{ name := "LEVELS", type := (.array .double), accessFlags := 26, slot := 0, constantValue := 0 }, { name := "CUTS", type := .int, accessFlags := 26, slot := 1, constantValue := 0 }, { name := "ALTERNATIVES", type := .int, accessFlags := 26, slot := 2, constantValue := 0 }, { name := "CATEGORIES", type := .int, accessFlags := 26, slot := 3, constantValue := 0 }, { name := "THRESHOLDS", type := .int, accessFlags := 26, slot := 4, constantValue := 0 }, { name := "BLOCK", type := .int, accessFlags := 26, slot := 5, constantValue := 0 }, { name := "ULPS", type := .int, accessFlags := 26, slot := 6, constantValue := 0 }]
  methods := #[k2m0, k2m1]
  instanceTypes := #[]
  staticTypes := #[(.array .double), .int, .int, .int, .int, .int, .int]
  resolved := Array.replicate 294 none
  statics := some 0 }

def pool3 : Array CpInfo := pool [(1, u "java/lang/Cloneable"), (0, .class_ 1), (0, u "java/lang/Object"), (0, .class_ 3)] 3

/-- java/lang/Cloneable -/
def k3 : Class := { plain "java/lang/Cloneable" (some 0) with
  accessFlags := 1537
  interfaces := #[]
  cf := some (fileOf pool3 2 #[] #[] 1537 4 #[] #[])
  fields := #[]
  methods := #[]
  instanceTypes := #[]
  staticTypes := #[]
  resolved := Array.replicate 8 none
  statics := none }

def pool4 : Array CpInfo := pool [(1, u "java/io/Serializable"), (0, .class_ 1), (0, u "java/lang/Object"), (0, .class_ 3)] 3

/-- java/io/Serializable -/
def k4 : Class := { plain "java/io/Serializable" (some 0) with
  accessFlags := 1537
  interfaces := #[]
  cf := some (fileOf pool4 2 #[] #[] 1537 4 #[] #[])
  fields := #[]
  methods := #[]
  instanceTypes := #[]
  staticTypes := #[]
  resolved := Array.replicate 8 none
  statics := none }

/-- the primitive boolean -/
def k5 : Class := { plain "boolean" none with kind := .primitive 'Z', accessFlags := 0x411 }
/-- [Z -/
def k6 : Class := { plain "[Z" (some 0) with kind := .array 5 .boolean, interfaces := #[3, 4], accessFlags := 1041 }

/-- the primitive byte -/
def k7 : Class := { plain "byte" none with kind := .primitive 'B', accessFlags := 0x411 }
/-- [B -/
def k8 : Class := { plain "[B" (some 0) with kind := .array 7 .byte, interfaces := #[3, 4], accessFlags := 1041 }

/-- the primitive int -/
def k9 : Class := { plain "int" none with kind := .primitive 'I', accessFlags := 0x411 }
/-- [I -/
def k10 : Class := { plain "[I" (some 0) with kind := .array 9 .int, interfaces := #[3, 4], accessFlags := 1041 }

def heap : Heap := #[{ cls := 2, slots := #[.null, .int 0, .int 28, .int 0, .int 0, .int 38, .int 0], vm := .statics 2 }]
def classes : Array Class := #[k0, k1, k2, k3, k4, k5, k6, k7, k8, k9, k10]
def interned : List (Array UInt16 × Addr) := []
def slotsUsed : Nat := 7
def theMethod : MethodId := ⟨1, 1⟩
def args0 : Array Value := #[.int 5, .int 1, .int 5]
def aboutOver (below : List Frame) : State where
  vm := { classes := classes, interned := interned.toArray }
  heap := heap
  slotsUsed := slotsUsed
  threads := #[{ frames := .invoking theMethod args0 :: below }]
def below0 : List Frame := [.native { method := ⟨0, 0⟩, args := #[] }]
def about1 : State := aboutOver below0
def p0 : Program := .bare "" "" ""
def e0 : Env := launch0.env 0 0 0
theorem w_frames : about1.frames = Frame.invoking theMethod args0 :: below0 := rfl
set_option maxRecDepth 65536 in
theorem w_args : argsFit about1.vm theMethod args0 = true := by decide +kernel
set_option maxRecDepth 65536 in
theorem w_heap : heapFits about1 = true := by decide +kernel
set_option maxRecDepth 65536 in
theorem w_runnable : about1.curStatus? = some .runnable := by decide +kernel
set_option maxRecDepth 65536 in
theorem w_alone : about1.alone = true := by decide +kernel
set_option maxRecDepth 65536 in
theorem w_named : about1.methodNamed? x = some theMethod := by decide +kernel
set_option maxRecDepth 65536 in
theorem w_hears : about1.hears theMethod below0 = true := by decide +kernel
set_option maxRecDepth 65536 in
theorem w_ripe : about1.ripe theMethod args0 below0 = true := by decide +kernel
theorem w_running : about1.status = .running := rfl
set_option maxRecDepth 65536 in
theorem w_room : about1.hasRoom e0.platform room_1 = true :=
  launch0.hasRoom_least _ room_1 (by decide +kernel) (by decide +kernel) (by decide +kernel) (by decide +kernel) (by decide +kernel) (by decide +kernel)
theorem allAtoms_all (ts : List Jvm.Cond) (a : Array Jvm.Value) (st : Jvm.State) : (allAtoms ts).before a st = ts.all (fun c => c.before a st) := by
  induction ts with
  | nil => rfl
  | cons c t ih =>
    show (Jvm.Cond.and c (allAtoms t)).before a st = _
    rw [Jvm.Cond.before_and, ih, List.all_cons]
def words1 : List Jvm.Cond := Jvm.Cond.code x code maxLocals ret :: tables_1
/-- a 'code' word, met by the world's own term for the bytes: nothing is compared byte by byte -/
theorem code_word {y : MethodName} {bytes : ByteArray} {mx : Nat} {rt : Option FieldType} {a : Array Value} {s : State} {m : MethodId} {meth : Method} {c : Code} (h1 : s.methodNamed? y = some m) (h2 : s.vm.method? m = some meth) (h3 : meth.code = some c) (h4 : c.code = bytes)
    (h5 : (c.maxLocals == mx && c.exceptionTable.isEmpty && decide (c.maxStack ≤ mostOperands) && decide (meth.sig.returnType = rt) && !meth.locks && decide (parseMethodDescriptor y.desc = some meth.sig)) = true) : (Jvm.Cond.code y bytes mx rt).before a s = true := by
  simp only [Bool.and_eq_true, beq_iff_eq, Bool.not_eq_true', decide_eq_true_eq] at h5
  obtain ⟨⟨⟨⟨⟨g1, g2⟩, g3⟩, g4⟩, g5⟩, g6⟩ := h5
  simp [Cond.before, Cond.holds, Cond.value, h1, h2, h3, h4, g1, g2, g3, g4, g5, g6]
def isCode : Jvm.Cond → Bool
  | .code _ _ _ _ => true
  | _ => false
theorem all_split {L : List Jvm.Cond} {P : Jvm.Cond → Bool} (h1 : L.all (fun c => isCode c || P c) = true) (h2 : ∀ c ∈ L.filter isCode, P c = true) : L.all P = true := by
  refine List.all_eq_true.mpr fun c hc => ?_
  have h := List.all_eq_true.mp h1 c hc
  rcases Bool.eq_false_or_eq_true (isCode c) with hi | hi
  · exact h2 c (List.mem_filter.mpr ⟨hc, hi⟩)
  · simpa [hi] using h
set_option maxRecDepth 65536 in
theorem w_c0 : (Jvm.Cond.code x code maxLocals ret).before args0 about1 = true := code_word (m := ⟨1, 1⟩) (meth := k1m1) (c := k1c1) (by decide +kernel) rfl rfl rfl (by decide +kernel)
set_option maxRecDepth 65536 in
theorem w_c1 : (Jvm.Cond.code ({ cls := "com/example/haze_to_match/hazetomatch/CoverPoint", name := "alternatives", desc := "(I)[Z" } : Jvm.MethodName) prog_22_method_3_code (3 : Nat) (Option.some (Jvm.ClassFile.FieldType.array Jvm.ClassFile.FieldType.boolean))).before args0 about1 = true := code_word (m := ⟨2, 1⟩) (meth := k2m1) (c := k2c1) (by decide +kernel) rfl rfl rfl (by decide +kernel)
set_option maxRecDepth 65536 in
theorem w_c2 : (Jvm.Cond.code ({ cls := "com/example/haze_to_match/hazetomatch/CoverPointAlternativesPinLaw", name := "check", desc := "([ZII)Z" } : Jvm.MethodName) method_3_code (6 : Nat) (Option.some Jvm.ClassFile.FieldType.boolean)).before args0 about1 = true := code_word (m := ⟨1, 2⟩) (meth := k1m2) (c := k1c2) (by decide +kernel) rfl rfl rfl (by decide +kernel)
def codes1 : List Jvm.Cond := [Jvm.Cond.code x code maxLocals ret, Jvm.Cond.code ({ cls := "com/example/haze_to_match/hazetomatch/CoverPoint", name := "alternatives", desc := "(I)[Z" } : Jvm.MethodName) prog_22_method_3_code (3 : Nat) (Option.some (Jvm.ClassFile.FieldType.array Jvm.ClassFile.FieldType.boolean)), Jvm.Cond.code ({ cls := "com/example/haze_to_match/hazetomatch/CoverPointAlternativesPinLaw", name := "check", desc := "([ZII)Z" } : Jvm.MethodName) method_3_code (6 : Nat) (Option.some Jvm.ClassFile.FieldType.boolean)]
set_option maxRecDepth 65536 in
theorem codes_eq : words1.filter isCode = codes1 := rfl
theorem w_codes : ∀ c ∈ words1.filter isCode, c.before args0 about1 = true := by
  rw [codes_eq]
  intro c hc
  simp only [codes1, List.mem_cons, List.not_mem_nil, or_false] at hc
  rcases hc with rfl | rfl | rfl
  · exact w_c0
  · exact w_c1
  · exact w_c2
set_option maxRecDepth 65536 in
theorem w_t1 : words1.all (fun c => isCode c || c.before args0 about1) = true := by decide +kernel
theorem w_tables : (allAtoms (Jvm.Cond.code x code maxLocals ret :: tables_1)).before args0 about1 = true := by
  rw [allAtoms_all]
  show words1.all (fun c => c.before args0 about1) = true
  refine all_split ?_ w_codes
  rw [w_t1]
set_option maxRecDepth 65536 in
theorem w_case : (Jvm.Cond.and given_1 narrow_1).before args0 about1 = true := by decide +kernel
theorem w_applies : (headSpec (Jvm.Cond.code x code maxLocals ret :: tables_1) room_1).applies x e0.platform about1 = true :=
  (Spec.applies_iff w_frames).mpr ⟨w_running, w_runnable, w_alone, w_named, w_hears, w_ripe, w_room, w_tables⟩
theorem atStart : AtStart classFile x code maxLocals ret World_1 tables_1 room_1 Calls_1 rest_1 Pre_1 launch0 p0 e0 about1 theMethod args0 below0 :=
  ⟨lists_1, trivial, launch0.admits_env _ _ _, launch0.least_env, fairChoices_fair.cas, fairChoices_fair.clock, w_frames, w_args, w_heap, w_applies, trivial, trivial, w_case⟩
end start1
theorem witness_1 : WitnessClaimed_1 := ⟨start1.p0, start1.e0, start1.about1, start1.theMethod, start1.args0, start1.below0, start1.atStart⟩
end Jvm.Pilot.@@N@@
