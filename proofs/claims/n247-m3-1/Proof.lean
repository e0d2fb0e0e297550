import JvmDerived
import JvmDerived.Pilot.@@N@@Statement
import JvmDerived.Pilot.@@N@@Code
set_option linter.unusedVariables false
set_option linter.unusedSimpArgs false
@@BLOCK:NumsL.lean.txt@@
namespace Jvm.Pilot.@@N@@
open Jvm Jvm.ClassFile Sem Op Lib Jvm.Free Jvm.Stand Jvm.LawKit Jvm.RoadKit Bundle Jvm.Pilot.@@N@@.Jvm.D
section Own
variable {p : Program} {l : Launch} {e : Env} {R : Room} {s : State} {m : MethodId} {args : Array Value} {below : List Frame} {meth : Method} {c : Code} {T : State} {locs : List Loc} {cells slots : Nat} {Z : State} {a0 : Array Value} {h : Heap}
/-- from U the run comes to the method's end, and P holds there -/
def OGo (p : Program) (e : Env) (below : List Frame) (U : State) (P : State → Outcome → Prop) : Prop :=
  ∃ t o, Steps p.tables e below U t ∧ t.status = .running ∧ Ended t below o ∧ P t o
theorem OGo.step {U U' : State} {P : State → Outcome → Prop} (k : ∀ t, Steps p.tables e below U' t → Steps p.tables e below U t) (g : OGo p e below U' P) : OGo p e below U P := by
  obtain ⟨t, o, h1, h2⟩ := g
  exact ⟨t, o, k t h1, h2⟩
def OEnd (s : State) (Q : Option Value → Heap → List Loc → Prop) (kc ks : Nat) (t : State) (o : Outcome) : Prop :=
  ∃ v L, o = .returned v ∧ Q v t.heap L ∧ FrameEnd s o t L kc ks
/-- the contract of one body, at one array of arguments and one heap -/
abbrev OMet (l : Launch) (Z : State) (y : MethodName) (bytes : ByteArray) (maxL : Nat) (ret : Option FieldType) (ws : List Jvm.Cond) (rm : Room) (as' : Array Value) (h0 : Heap) (Q : Option Value → Heap → List Loc → Prop) : Prop :=
  MetFree l y (head1 (Jvm.Cond.code y bytes maxL ret :: ws) rm) (fun a U => a = as' ∧ Z.Warmed39 U.vm ∧ U.heap = h0) (fun _ _ _ _ _ => True) (fun _ U o U' => ∃ v L, o = .returned v ∧ Q v U'.heap L ∧ FrameEnd U o U' L rm.cells rm.slots)
theorem OMet.body {y : MethodName} {bytes : ByteArray} {maxL : Nat} {ret : Option FieldType} {ws : List Jvm.Cond} {rm : Room} {as' : Array Value} {h0 : Heap} {Q : Option Value → Heap → List Loc → Prop} (hpn : plainFor y = true)
    (b : ∀ (p : Program) (e : Env) (s : State) (m : MethodId) (below : List Frame) (meth : Method) (c : Code) (s₁ : State), p.tables.exec = Jvm.exec → c.code = bytes → c.maxLocals = maxL → s.vm.findClass y.cls = some m.cls → meth.name = y.name → meth.sig.returnType = ret → meth.locks = false → Z.Warmed39 s.vm →
      Stand p l e rm s m as' below meth c s₁ [] 0 0 → s₁.heap = h0 → OGo p e below (s₁.setTop (entryFrame m as' maxL)) (OEnd s Q rm.cells rm.slots)) : OMet l Z y bytes maxL ret ws rm as' h0 Q := by
  refine MetFree.of_bodySF hpn hisR ?_
  intro p e s m args below meth c s₁ Bd hml0 hP hK
  obtain ⟨rfl, hZ, hh⟩ := hP
  exact b p e s m below meth c s₁ Bd.exec Bd.bytes hml0 (findClass_of_methodNamed Bd.named) (name_of_methodNamed Bd.named Bd.method).1 Bd.returns Bd.notSynchronized hZ (Stand.of_body Bd) (by rw [← hh, Bd.state]; rfl)
theorem own_ret (X : Stand p l e R s m args below meth c T locs cells slots) (hx : p.tables.exec = Jvm.exec) (hlk : meth.locks = false) {pc : Nat} {Ls : Array Slot} {w : Value} {t : FieldType} {i : Instr} {rest : List Value} (hret : meth.sig.returnType = some t) (hn : narrow t w = w)
    (hi : (i = .ireturn ∧ (t = .int ∨ t = .boolean ∨ t = .byte ∨ t = .char ∨ t = .short) ∧ ∃ z, w = .int z) ∨ (i = .lreturn ∧ t = .long ∧ ∃ z, w = .long z) ∨ (i = .dreturn ∧ t = .double ∧ ∃ z, w = .double z) ∨ (i = .freturn ∧ t = .float ∧ ∃ z, w = .float z) ∨ (i = .areturn ∧ t.isReference = true ∧ w.isRef = true))
    (hd : decode c.code pc = .ok (i, 1)) {Q : Option Value → Heap → List Loc → Prop} {kc ks : Nat} (hQ : Q (some w) T.heap locs) (h1 : cells ≤ kc) (h2 : slots ≤ ks) : OGo p e below (T.setTop (mkF m pc Ls (w :: rest))) (OEnd s Q kc ks) := by
  obtain ⟨fs, hr, hrun, hended, hW, hsame⟩ := X.leave (v := some w) (fun h => by rw [hret] at h; cases h) hlk
  exact ⟨_, _, retOut X hx hret hn hi hd hr, hrun, hended, _, _, rfl, hQ, ⟨_, rfl⟩, hW, hsame.mono h1 h2⟩
theorem own_retN (X : Stand p l e R s m args below meth c T locs cells slots) (hx : p.tables.exec = Jvm.exec) (hlk : meth.locks = false) {pc : Nat} {Ls : Array Slot} {z : Int32} {t : FieldType} {rest : List Value} (hret : meth.sig.returnType = some t) (ht : t = .boolean ∨ t = .byte ∨ t = .char ∨ t = .short)
    (hd : decode c.code pc = .ok (.ireturn, 1)) {Q : Option Value → Heap → List Loc → Prop} {kc ks : Nat} (hQ : Q (some (.int (nar t z))) T.heap locs) (h1 : cells ≤ kc) (h2 : slots ≤ ks) : OGo p e below (T.setTop (mkF m pc Ls (.int z :: rest))) (OEnd s Q kc ks) := by
  obtain ⟨fs, hr, hrun, hended, hW, hsame⟩ := X.leave (v := some (.int (nar t z))) (fun h => by rw [hret] at h; cases h) hlk
  exact ⟨_, _, retN X hx hret ht hd hr, hrun, hended, _, _, rfl, hQ, ⟨_, rfl⟩, hW, hsame.mono h1 h2⟩
theorem own_ret0 (X : Stand p l e R s m args below meth c T locs cells slots) (hx : p.tables.exec = Jvm.exec) (hlk : meth.locks = false) {pc : Nat} {Ls : Array Slot} (hret : meth.sig.returnType = none)
    (hd : decode c.code pc = .ok (.return_, 1)) {Q : Option Value → Heap → List Loc → Prop} {kc ks : Nat} (hQ : Q none T.heap locs) (h1 : cells ≤ kc) (h2 : slots ≤ ks) : OGo p e below (T.setTop (mkF m pc Ls [])) (OEnd s Q kc ks) := by
  obtain ⟨fs, hr, hrun, hended, hW, hsame⟩ := X.leave (v := none) (fun _ => rfl) hlk
  exact ⟨_, _, X.returnOut hx hret hd hr, hrun, hended, _, _, rfl, hQ, ⟨_, rfl⟩, hW, hsame.mono h1 h2⟩
/-- who pays a call: at these arguments and this heap -/
abbrev OBack (l : Launch) (R : Room) (p : Program) (e : Env) (below : List Frame) (s : State) (args : Array Value) (y : MethodName) (len W : Nat) (as' : Array Value) (h : Heap) (kc ks : Nat) (Q : Option Value → Heap → List Loc → Prop) : Prop :=
  Back l R p e below s args y len W (fun P a => a = as' ∧ P.U.heap = h ∧ P.cells + kc ≤ R.cells ∧ P.slots + ks ≤ R.slots) (fun P _ v B => ∃ L, Q v B.U.heap L ∧ B.locs = P.locs ++ L ∧ B.cells = P.cells + kc ∧ B.slots = P.slots + ks)
/-- a static call by the callee's contract -/
theorem own_callSK (X : Stand p l e R s m args below meth c T locs cells slots) (hx : p.tables.exec = Jvm.exec) (hZ : Z.Warmed39 s.vm) {own : String} {index : Nat} {y : MethodName} {bytes : ByteArray} {maxL : Nat} {ret : Option FieldType}
    (hown : s.vm.findClass own = some m.cls) (w1 : (Jvm.Cond.methodLink own index y).before a0 Z = true) (w2 : (Jvm.Cond.static y).before a0 Z = true) (w3 : (Jvm.Cond.initialized y.cls).before a0 Z = true)
    (w4 : (Jvm.Cond.code y bytes maxL ret).before a0 Z = true) (hy : y.cls ≠ "java/lang/invoke/MethodHandle" ∧ y.cls ≠ "java/lang/invoke/VarHandle")
    {W : Nat} {kc ks : Nat} {argsL rest : List Value} {Q : Option Value → Heap → List Loc → Prop} (hK : OBack l R p e below s args y 3 W argsL.toArray h kc ks Q) (eT : T.heap = h)
    {pc : Nat} {Ls : Array Slot} (hsize : Ls.size = c.maxLocals) (hlen : ∀ sig, parseMethodDescriptor y.desc = some sig → argsL.length = sig.parameters.length) (hW : (rest.map fun v => v.category).sum = W)
    (hd : decode c.code pc = .ok (.invokestatic index, 3)) (hc : cells + kc ≤ R.cells) (hs : slots + ks ≤ R.slots) {P : State → Outcome → Prop}
    (k : ∀ (v : Option Value) (T' : State) (L : List Loc), Stand p l e R s m args below meth c T' (locs ++ L) (cells + kc) (slots + ks) → Q v T'.heap L → OGo p e below (T'.setTop (mkF m (pc + 3) Ls (v.toList ++ rest))) P) :
    OGo p e below (T.setTop (mkF m pc Ls (argsL.reverse ++ rest))) P := by
  obtain ⟨v, vm, ⟨T', L', k', n'⟩, -, X', ⟨L, hQ, l1, y1, z1⟩, st⟩ := Jvm.LawKit.callS X hx (y := y) hown (mvT hZ w1) (mvT hZ w2) (mvT hZ w3) (mvT hZ w4) hy hK (g := mkF m pc Ls (argsL.reverse ++ rest)) rfl hsize (argsL := argsL) (rest := rest) hlen rfl
    (by show 2 * 0 + _ ≤ _; rw [hW]; omega) hd (fun _ _ => ⟨rfl, eT, hc, hs⟩)
  dsimp only [Pt.U, Pt.locs, Pt.cells, Pt.slots] at X' l1 y1 z1 st hQ
  subst l1 y1 z1
  exact OGo.step st (k v T' L X' hQ)
theorem own_callS (X : Stand p l e R s m args below meth c T locs cells slots) (hx : p.tables.exec = Jvm.exec) (hZ : Z.Warmed39 s.vm) {own : String} {index : Nat} {y : MethodName} {bytes : ByteArray} {maxL : Nat} {ret : Option FieldType}
    (hown : s.vm.findClass own = some m.cls) (w1 : (Jvm.Cond.methodLink own index y).before a0 Z = true) (w2 : (Jvm.Cond.static y).before a0 Z = true) (w3 : (Jvm.Cond.initialized y.cls).before a0 Z = true)
    (w4 : (Jvm.Cond.code y bytes maxL ret).before a0 Z = true) (hy : y.cls ≠ "java/lang/invoke/MethodHandle" ∧ y.cls ≠ "java/lang/invoke/VarHandle")
    {W : Nat} {rm : Room} {argsL rest : List Value} {Q : Option Value → Heap → List Loc → Prop} (hM : OMet l Z y bytes maxL ret [] rm argsL.toArray h Q) (eT : T.heap = h)
    {pc : Nat} {Ls : Array Slot} (hsize : Ls.size = c.maxLocals) (hlen : ∀ sig, parseMethodDescriptor y.desc = some sig → argsL.length = sig.parameters.length) (hW : (rest.map fun v => v.category).sum = W)
    (hd : decode c.code pc = .ok (.invokestatic index, 3)) (hf : rm.frames + 1 ≤ R.frames) (hl : W + (maxL + 11) + rm.locals ≤ R.locals) (hc : cells + rm.cells ≤ R.cells) (hs : slots + rm.slots ≤ R.slots) {P : State → Outcome → Prop}
    (k : ∀ (v : Option Value) (T' : State) (L : List Loc), Stand p l e R s m args below meth c T' (locs ++ L) (cells + rm.cells) (slots + rm.slots) → Q v T'.heap L → OGo p e below (T'.setTop (mkF m (pc + 3) Ls (v.toList ++ rest))) P) :
    OGo p e below (T.setTop (mkF m pc Ls (argsL.reverse ++ rest))) P := 
  own_callSK X hx hZ hown w1 w2 w3 w4 hy (backOf (W := W) hM hZ w4 w3 hf hl) eT hsize hlen hW hd hc hs k
/-- a constructor by its contract -/
theorem own_specialK (X : Stand p l e R s m args below meth c T locs cells slots) (hx : p.tables.exec = Jvm.exec) (hZ : Z.Warmed39 s.vm) {own : String} {index : Nat} {y : MethodName} {bytes : ByteArray} {maxL : Nat} (hy1 : y.name = "<init>")
    (hown : s.vm.findClass own = some m.cls) (w1 : (Jvm.Cond.methodLink own index y).before a0 Z = true) (w2 : (Jvm.Cond.instanceMethod y).before a0 Z = true)
    (w4 : (Jvm.Cond.code y bytes maxL none).before a0 Z = true) (hy : y.cls ≠ "java/lang/invoke/MethodHandle" ∧ y.cls ≠ "java/lang/invoke/VarHandle") {a : Addr}
    {W : Nat} {kc ks : Nat} {argsL rest : List Value} {Q : Option Value → Heap → List Loc → Prop} (hK : OBack l R p e below s args y 3 W (.ref a :: argsL).toArray h kc ks Q) (eT : T.heap = h)
    {pc : Nat} {Ls : Array Slot} (hsize : Ls.size = c.maxLocals) (hlen : ∀ sig, parseMethodDescriptor y.desc = some sig → argsL.length = sig.parameters.length) (hW : (rest.map fun v => v.category).sum = W)
    (hd : decode c.code pc = .ok (.invokespecial index, 3)) (hc : cells + kc ≤ R.cells) (hs : slots + ks ≤ R.slots) {P : State → Outcome → Prop}
    (k : ∀ (v : Option Value) (T' : State) (L : List Loc), Stand p l e R s m args below meth c T' (locs ++ L) (cells + kc) (slots + ks) → Q v T'.heap L → OGo p e below (T'.setTop (mkF m (pc + 3) Ls (v.toList ++ rest))) P) :
    OGo p e below (T.setTop (mkF m pc Ls (argsL.reverse ++ .ref a :: rest))) P := by
  obtain ⟨v, vm, ⟨T', L', k', n'⟩, -, X', ⟨L, hQ, l1, y1, z1⟩, st⟩ := X.specialBack hx (y := y) hy1 hown (mvT hZ w1) (mvT hZ w2) (mvT hZ w4) hy hK (g := mkF m pc Ls (argsL.reverse ++ .ref a :: rest)) rfl hsize (Steps.refl _) (a := a) (argsL := argsL) (rest := rest) hlen rfl
    (by show 2 * 0 + _ ≤ _; rw [hW]; omega) hd (fun _ _ => ⟨rfl, eT, hc, hs⟩)
  dsimp only [Pt.U, Pt.locs, Pt.cells, Pt.slots] at X' l1 y1 z1 st hQ
  subst l1 y1 z1
  exact OGo.step (fun _ kk => st.trans kk) (k v T' L X' hQ)
theorem own_special (X : Stand p l e R s m args below meth c T locs cells slots) (hx : p.tables.exec = Jvm.exec) (hZ : Z.Warmed39 s.vm) {own : String} {index : Nat} {y : MethodName} {bytes : ByteArray} {maxL : Nat} (hy1 : y.name = "<init>")
    (hown : s.vm.findClass own = some m.cls) (w1 : (Jvm.Cond.methodLink own index y).before a0 Z = true) (w2 : (Jvm.Cond.instanceMethod y).before a0 Z = true)
    (w4 : (Jvm.Cond.code y bytes maxL none).before a0 Z = true) (w3 : (Jvm.Cond.initialized y.cls).before a0 Z = true) (hy : y.cls ≠ "java/lang/invoke/MethodHandle" ∧ y.cls ≠ "java/lang/invoke/VarHandle") {a : Addr}
    {W : Nat} {rm : Room} {argsL rest : List Value} {Q : Option Value → Heap → List Loc → Prop} (hM : OMet l Z y bytes maxL none [] rm (.ref a :: argsL).toArray h Q) (eT : T.heap = h)
    {pc : Nat} {Ls : Array Slot} (hsize : Ls.size = c.maxLocals) (hlen : ∀ sig, parseMethodDescriptor y.desc = some sig → argsL.length = sig.parameters.length) (hW : (rest.map fun v => v.category).sum = W)
    (hd : decode c.code pc = .ok (.invokespecial index, 3)) (hf : rm.frames + 1 ≤ R.frames) (hl : W + (maxL + 11) + rm.locals ≤ R.locals) (hc : cells + rm.cells ≤ R.cells) (hs : slots + rm.slots ≤ R.slots) {P : State → Outcome → Prop}
    (k : ∀ (v : Option Value) (T' : State) (L : List Loc), Stand p l e R s m args below meth c T' (locs ++ L) (cells + rm.cells) (slots + rm.slots) → Q v T'.heap L → OGo p e below (T'.setTop (mkF m (pc + 3) Ls (v.toList ++ rest))) P) :
    OGo p e below (T.setTop (mkF m pc Ls (argsL.reverse ++ .ref a :: rest))) P := 
  own_specialK X hx hZ hy1 hown w1 w2 w4 hy (backOf (W := W) hM hZ w4 w3 hf hl) eT hsize hlen hW hd hc hs k
/-- an instance method by its contract -/
theorem own_virtualK (X : Stand p l e R s m args below meth c T locs cells slots) (hx : p.tables.exec = Jvm.exec) (hZ : Z.Warmed39 s.vm) {own C : String} {index : Nat} {y z : MethodName}
    (hown : s.vm.findClass own = some m.cls) (w1 : (Jvm.Cond.methodLink own index y).before a0 Z = true) (w2 : (Jvm.Cond.declares y).before a0 Z = true) (hnf : NotFace s y) (w5 : (Jvm.Cond.selects C y z).before a0 Z = true) (w6 : (Jvm.Cond.instanceMethod z).before a0 Z = true)
    (hy : y.cls ≠ "java/lang/invoke/MethodHandle" ∧ y.cls ≠ "java/lang/invoke/VarHandle") {b : Addr} (hb : Exa Z h b C)
    {W : Nat} {kc ks : Nat} {argsL rest : List Value} {Q : Option Value → Heap → List Loc → Prop} (hK : OBack l R p e below s args z 3 W (.ref b :: argsL).toArray h kc ks Q) (eT : T.heap = h)
    {pc : Nat} {Ls : Array Slot} (hsize : Ls.size = c.maxLocals) (hlen : ∀ sig, parseMethodDescriptor y.desc = some sig → argsL.length = sig.parameters.length) (hW : (rest.map fun v => v.category).sum = W)
    (hd : decode c.code pc = .ok (.invokevirtual index, 3)) (hc : cells + kc ≤ R.cells) (hs : slots + ks ≤ R.slots) {P : State → Outcome → Prop}
    (k : ∀ (v : Option Value) (T' : State) (L : List Loc), Stand p l e R s m args below meth c T' (locs ++ L) (cells + kc) (slots + ks) → Q v T'.heap L → OGo p e below (T'.setTop (mkF m (pc + 3) Ls (v.toList ++ rest))) P) :
    OGo p e below (T.setTop (mkF m pc Ls (argsL.reverse ++ .ref b :: rest))) P := by
  obtain ⟨cq, kq, qa, qb, qc⟩ := isOf hZ eT hb
  obtain ⟨v, vm, ⟨T', L', k', n'⟩, -, X', ⟨L, hQ, l1, y1, z1⟩, st⟩ := X.virtualBack hx (y := y) (z := z) hown (mvT hZ w1) (mvT hZ w2) hnf (mvT hZ w5) (mvT hZ w6) hy hK qa qc (g := mkF m pc Ls (argsL.reverse ++ .ref b :: rest)) rfl hsize (Steps.refl _) (argsL := argsL) (rest := rest) hlen rfl
    (by show 2 * 0 + _ ≤ _; rw [hW]; omega) hd (fun _ _ => ⟨rfl, eT, hc, hs⟩)
  dsimp only [Pt.U, Pt.locs, Pt.cells, Pt.slots] at X' l1 y1 z1 st hQ
  subst l1 y1 z1
  exact OGo.step (fun _ kk => st.trans kk) (k v T' L X' hQ)
theorem own_virtual (X : Stand p l e R s m args below meth c T locs cells slots) (hx : p.tables.exec = Jvm.exec) (hZ : Z.Warmed39 s.vm) {own C : String} {index : Nat} {y z : MethodName} {bytes : ByteArray} {maxL : Nat} {ret : Option FieldType}
    (hown : s.vm.findClass own = some m.cls) (w1 : (Jvm.Cond.methodLink own index y).before a0 Z = true) (w2 : (Jvm.Cond.declares y).before a0 Z = true) (hnf : NotFace s y) (w5 : (Jvm.Cond.selects C y z).before a0 Z = true) (w6 : (Jvm.Cond.instanceMethod z).before a0 Z = true)
    (hy : y.cls ≠ "java/lang/invoke/MethodHandle" ∧ y.cls ≠ "java/lang/invoke/VarHandle") (w4 : (Jvm.Cond.code z bytes maxL ret).before a0 Z = true) (w3 : (Jvm.Cond.initialized z.cls).before a0 Z = true) {b : Addr} (hb : Exa Z h b C)
    {W : Nat} {rm : Room} {argsL rest : List Value} {Q : Option Value → Heap → List Loc → Prop} (hM : OMet l Z z bytes maxL ret [] rm (.ref b :: argsL).toArray h Q) (eT : T.heap = h)
    {pc : Nat} {Ls : Array Slot} (hsize : Ls.size = c.maxLocals) (hlen : ∀ sig, parseMethodDescriptor y.desc = some sig → argsL.length = sig.parameters.length) (hW : (rest.map fun v => v.category).sum = W)
    (hd : decode c.code pc = .ok (.invokevirtual index, 3)) (hf : rm.frames + 1 ≤ R.frames) (hl : W + (maxL + 11) + rm.locals ≤ R.locals) (hc : cells + rm.cells ≤ R.cells) (hs : slots + rm.slots ≤ R.slots) {P : State → Outcome → Prop}
    (k : ∀ (v : Option Value) (T' : State) (L : List Loc), Stand p l e R s m args below meth c T' (locs ++ L) (cells + rm.cells) (slots + rm.slots) → Q v T'.heap L → OGo p e below (T'.setTop (mkF m (pc + 3) Ls (v.toList ++ rest))) P) :
    OGo p e below (T.setTop (mkF m pc Ls (argsL.reverse ++ .ref b :: rest))) P := 
  own_virtualK X hx hZ hown w1 w2 hnf w5 w6 hy hb (backOf (W := W) hM hZ w4 w3 hf hl) eT hsize hlen hW hd hc hs k
/-- an instance method that an ancestor declares, by its contract -/
theorem own_virtualUpK (X : Stand p l e R s m args below meth c T locs cells slots) (hx : p.tables.exec = Jvm.exec) (hZ : Z.Warmed39 s.vm) {own C owner : String} {index : Nat} {y z : MethodName}
    (hown : s.vm.findClass own = some m.cls) (w1 : (Jvm.Cond.methodLink own index y).before a0 Z = true) (w7 : (Jvm.Cond.sameMethod y.cls owner y.name y.desc).before a0 Z = true) (w2 : (Jvm.Cond.declares ⟨owner, y.name, y.desc⟩).before a0 Z = true) (w5 : (Jvm.Cond.selects C y z).before a0 Z = true) (w6 : (Jvm.Cond.instanceMethod z).before a0 Z = true)
    (hy : owner ≠ "java/lang/invoke/MethodHandle" ∧ owner ≠ "java/lang/invoke/VarHandle") {b : Addr} (hb : Exa Z h b C)
    {W : Nat} {kc ks : Nat} {argsL rest : List Value} {Q : Option Value → Heap → List Loc → Prop} (hK : OBack l R p e below s args z 3 W (.ref b :: argsL).toArray h kc ks Q) (eT : T.heap = h)
    {pc : Nat} {Ls : Array Slot} (hsize : Ls.size = c.maxLocals) (hlen : ∀ sig, parseMethodDescriptor y.desc = some sig → argsL.length = sig.parameters.length) (hW : (rest.map fun v => v.category).sum = W)
    (hd : decode c.code pc = .ok (.invokevirtual index, 3)) (hc : cells + kc ≤ R.cells) (hs : slots + ks ≤ R.slots) {P : State → Outcome → Prop}
    (k : ∀ (v : Option Value) (T' : State) (L : List Loc), Stand p l e R s m args below meth c T' (locs ++ L) (cells + kc) (slots + ks) → Q v T'.heap L → OGo p e below (T'.setTop (mkF m (pc + 3) Ls (v.toList ++ rest))) P) :
    OGo p e below (T.setTop (mkF m pc Ls (argsL.reverse ++ .ref b :: rest))) P := by
  obtain ⟨cq, kq, qa, qb, qc⟩ := isOf hZ eT hb
  obtain ⟨v, vm, ⟨T', L', k', n'⟩, -, X', ⟨L, hQ, l1, y1, z1⟩, st⟩ := X.virtualBackUp hx (x := y) (y := z) hown (mvT hZ w1) (mvT hZ w7) (mvT hZ w2) hy (mvT hZ w5) (mvT hZ w6) hK qa qc (g := mkF m pc Ls (argsL.reverse ++ .ref b :: rest)) rfl hsize (Steps.refl _) (argsL := argsL) (rest := rest) hlen rfl
    (by show 2 * 0 + _ ≤ _; rw [hW]; omega) hd (fun _ _ => ⟨rfl, eT, hc, hs⟩)
  dsimp only [Pt.U, Pt.locs, Pt.cells, Pt.slots] at X' l1 y1 z1 st hQ
  subst l1 y1 z1
  exact OGo.step (fun _ kk => st.trans kk) (k v T' L X' hQ)
theorem own_virtualUp (X : Stand p l e R s m args below meth c T locs cells slots) (hx : p.tables.exec = Jvm.exec) (hZ : Z.Warmed39 s.vm) {own C owner : String} {index : Nat} {y z : MethodName} {bytes : ByteArray} {maxL : Nat} {ret : Option FieldType}
    (hown : s.vm.findClass own = some m.cls) (w1 : (Jvm.Cond.methodLink own index y).before a0 Z = true) (w7 : (Jvm.Cond.sameMethod y.cls owner y.name y.desc).before a0 Z = true) (w2 : (Jvm.Cond.declares ⟨owner, y.name, y.desc⟩).before a0 Z = true) (w5 : (Jvm.Cond.selects C y z).before a0 Z = true) (w6 : (Jvm.Cond.instanceMethod z).before a0 Z = true)
    (hy : owner ≠ "java/lang/invoke/MethodHandle" ∧ owner ≠ "java/lang/invoke/VarHandle") (w4 : (Jvm.Cond.code z bytes maxL ret).before a0 Z = true) (w3 : (Jvm.Cond.initialized z.cls).before a0 Z = true) {b : Addr} (hb : Exa Z h b C)
    {W : Nat} {rm : Room} {argsL rest : List Value} {Q : Option Value → Heap → List Loc → Prop} (hM : OMet l Z z bytes maxL ret [] rm (.ref b :: argsL).toArray h Q) (eT : T.heap = h)
    {pc : Nat} {Ls : Array Slot} (hsize : Ls.size = c.maxLocals) (hlen : ∀ sig, parseMethodDescriptor y.desc = some sig → argsL.length = sig.parameters.length) (hW : (rest.map fun v => v.category).sum = W)
    (hd : decode c.code pc = .ok (.invokevirtual index, 3)) (hf : rm.frames + 1 ≤ R.frames) (hl : W + (maxL + 11) + rm.locals ≤ R.locals) (hc : cells + rm.cells ≤ R.cells) (hs : slots + rm.slots ≤ R.slots) {P : State → Outcome → Prop}
    (k : ∀ (v : Option Value) (T' : State) (L : List Loc), Stand p l e R s m args below meth c T' (locs ++ L) (cells + rm.cells) (slots + rm.slots) → Q v T'.heap L → OGo p e below (T'.setTop (mkF m (pc + 3) Ls (v.toList ++ rest))) P) :
    OGo p e below (T.setTop (mkF m pc Ls (argsL.reverse ++ .ref b :: rest))) P := 
  own_virtualUpK X hx hZ hown w1 w7 w2 w5 w6 hy hb (backOf (W := W) hM hZ w4 w3 hf hl) eT hsize hlen hW hd hc hs k
theorem own_cat {v : Value} (q : v.isRef = true) : v.category = 1 := by cases v <;> first | rfl | (simp [Value.isRef] at q)
theorem own_narR {v : Value} {t : FieldType} (q : v.isRef = true) (ht : t.isReference = true := by rfl) : narrow t v = v := by cases v <;> first | (simp [Value.isRef] at q; done) | (cases t <;> first | rfl | (cases ht))
theorem own_fitR {v : Value} {t : FieldType} (q : v.isRef = true) (ht : t.isReference = true := by rfl) : fits t v = true := by cases v <;> first | (simp [Value.isRef] at q; done) | (cases t <;> first | rfl | (cases ht))
theorem own_store1 {l l' : Array Slot} {i : Nat} {v : Value} {o : Slot} (hold : l[i]? = some o) (ho : o = .unset ∨ ∃ w, o = .val w ∧ w.category = 1) (hv : v.category = 1) (hl' : l.setIfInBounds i (.val v) = l' := by rfl) : storeLocals l i v = some l' := by
  rw [XS.store1 hold ho hv, hl']
end Own
theorem own_eqv {args : Array Value} {s : State} {a b : Term} {y : Value} (h : (Jvm.Cond.eq a b).value args s none s [] = some true) (hb : b.eval args s none [] s = some y) : a.eval args s none [] s = some y := by
  cases ha : a.eval args s none [] s with
  | none => simp [Cond.value, ha] at h
  | some x => cases x <;> cases y <;> simp_all [Cond.value]
theorem own_len {args : Array Value} {s : State} {t : Term} {a : Addr} {cl : Cell} {ty : FieldType} {n : Int32} (ev : t.eval args s none [] s = some (.ref a)) (A : Arr s s.heap a cl ty) (h : (Term.length t).eval args s none [] s = some (.int n)) : cl.slots.size < 2 ^ 31 ∧ cl.slots.size.toInt32 = n := by
  have ha : s.arrayAt? a = some cl := Arr.fin (State.WarmedH.refl s).alike A
  by_cases q : cl.slots.size < 2 ^ 31
  · rw [len_f ev ha q] at h
    exact ⟨q, Value.int.inj (Option.some.inj h)⟩
  · simp [Term.eval, ev, ha] at h
    omega
theorem own_elem {args : Array Value} {s : State} {t : Term} {a : Addr} {cl : Cell} {ty : FieldType} {j : Int32} {v : Value} (ev : t.eval args s none [] s = some (.ref a)) (A : Arr s s.heap a cl ty) (h : (Term.elem t (Term.int j)).eval args s none [] s = some v) (hn : ¬ j < 0 := by decide) : cl.slots[j.toNatClampNeg]? = some v := by
  have ha : s.arrayAt? a = some cl := Arr.fin (State.WarmedH.refl s).alike A
  rw [← elem_f ev (Term.int_eval j) ha hn]; exact h

open Jvm.Free.Fl
open Native.java_lang_Math.nans (pick64)
theorem own_nat {n : Nat} (h : n < 2147483648) : (Int32.ofNat n).toInt = n := Int32.toInt_ofNat_of_lt h
theorem own_ofInt {x : Int32} {n : Nat} (h : n < 2147483648) (e : x.toInt = n) : x = Int32.ofNat n := Int32.toInt_inj.mp (by rw [e, own_nat h])
theorem own_field (y : Int32) : ∃ k : Nat, k < 32 ∧ (y &&& 31) - 8 = Int32.ofNat k - 8 := by
  have e := Jvm.Kit.i32_mask y 31 (k := 5) (by decide) (by decide)
  exact ⟨(y.toInt % 2 ^ 5).toNat, by omega, by rw [own_ofInt (x := y &&& 31) (n := (y.toInt % 2 ^ 5).toNat) (by omega) (by rw [e]; omega)]⟩
def own_ab (k : Nat) : UInt64 := FP.ddiv (FP.i2d (Int32.ofNat k - 8)) (4625196817309499392 : UInt64)
def own_mn (x : UInt64) : UInt64 := pick64 false FP.dconst1 x
def own_un (x : UInt64) : UInt64 := pick64 true FP.dconst0 (own_mn x)
def own_mi (x : Int32) : Int32 := if x < 16 then x else 16
def own_cl (x : Int32) : Int32 := if 0 < own_mi x then own_mi x else 0
theorem own_nn_dec {x : UInt64} (h : x &&& 0x7fffffffffffffff ≤ 0x7ff0000000000000) : NoNaN64 x := h
theorem own_ab_nn : ∀ k : Nat, k < 32 → own_ab k &&& 0x7fffffffffffffff ≤ 0x7ff0000000000000 ∧ own_mn (own_ab k) &&& 0x7fffffffffffffff ≤ 0x7ff0000000000000 := by decide +kernel
theorem own_lt_tab : ∀ a : Nat, a < 32 → ∀ b : Nat, b < 32 → decide (cmpValue (FP.dcmp (own_un (own_ab a)) (own_un (own_ab b))) .g < 0) = decide (own_cl (Int32.ofNat a - 8) < own_cl (Int32.ofNat b - 8)) := by decide +kernel
theorem own_gt_tab : ∀ a : Nat, a < 32 → ∀ b : Nat, b < 32 → decide (0 < cmpValue (FP.dcmp (own_un (own_ab a)) (own_un (own_ab b))) .l) = decide (own_cl (Int32.ofNat b - 8) < own_cl (Int32.ofNat a - 8)) := by decide +kernel
theorem own_maxB {p : Program} {l : Launch} {e : Env} {R : Room} {s : State} {args : Array Value} {below : List Frame} {W : Nat} {Z : State} {a0 : Array Value} {h : Heap} {a b : UInt64} (hZ : Z.Warmed39 s.vm) (w : (Jvm.Cond.code ⟨"java/lang/Math", "max", "(DD)D"⟩ jdk_29_method_68_code 4 (some .double)).before a0 Z = true) (hf : 1 ≤ R.frames) (hl : W + 15 ≤ R.locals) (ha : NoNaN64 a) (hb : NoNaN64 b) :
    OBack l R p e below s args ⟨"java/lang/Math", "max", "(DD)D"⟩ 3 W #[.double a, .double b] h 0 0 (fun v h' L => v = some (.double (pick64 true a b)) ∧ L = [] ∧ h' = h) :=
  Back.mono (Jvm.Free.Fl.Abs.maxD_pays a b (mvT hZ w) hf hl) (fun A x q => ⟨q.2.2.1, q.2.2.2, q.1, ha, hb⟩) (fun A x v B q r => by obtain ⟨r1, rfl⟩ := r; exact ⟨[], ⟨r1, rfl, q.2.1⟩, (List.append_nil _).symm, rfl, rfl⟩)
theorem own_minB {p : Program} {l : Launch} {e : Env} {R : Room} {s : State} {args : Array Value} {below : List Frame} {W : Nat} {Z : State} {a0 : Array Value} {h : Heap} {a b : UInt64} (hZ : Z.Warmed39 s.vm) (w : (Jvm.Cond.code ⟨"java/lang/Math", "min", "(DD)D"⟩ jdk_29_method_72_code 4 (some .double)).before a0 Z = true) (hf : 1 ≤ R.frames) (hl : W + 15 ≤ R.locals) (ha : NoNaN64 a) (hb : NoNaN64 b) :
    OBack l R p e below s args ⟨"java/lang/Math", "min", "(DD)D"⟩ 3 W #[.double a, .double b] h 0 0 (fun v h' L => v = some (.double (pick64 false a b)) ∧ L = [] ∧ h' = h) :=
  Back.mono (Jvm.Free.Fl.Abs.minD_pays a b (mvT hZ w) hf hl) (fun A x q => ⟨q.2.2.1, q.2.2.2, q.1, ha, hb⟩) (fun A x v B q r => by obtain ⟨r1, rfl⟩ := r; exact ⟨[], ⟨r1, rfl, q.2.1⟩, (List.append_nil _).symm, rfl, rfl⟩)


theorem own_one : Jvm.Free.Fl.NoNaN64 FP.dconst1 := own_nn_dec (by decide +kernel)
theorem own_zero : Jvm.Free.Fl.NoNaN64 FP.dconst0 := own_nn_dec (by decide +kernel)

theorem own_pd0 : parseMethodDescriptor "(DD)D" = some ⟨[.double, .double], some .double⟩ := by decide +kernel
theorem own_pd1 : parseMethodDescriptor "()V" = some ⟨[], none⟩ := by decide +kernel
theorem own_pd2 : parseMethodDescriptor "(D)D" = some ⟨[.double], some .double⟩ := by decide +kernel
theorem own_pd3 : parseMethodDescriptor "(II)I" = some ⟨[.int, .int], some .int⟩ := by decide +kernel
theorem own_pd4 : parseMethodDescriptor "(I)D" = some ⟨[.int], some .double⟩ := by decide +kernel
theorem own_pd5 : parseMethodDescriptor "(DDDD)V" = some ⟨[.double, .double, .double, .double], none⟩ := by decide +kernel
theorem own_pd6 : parseMethodDescriptor "(I)I" = some ⟨[.int], some .int⟩ := by decide +kernel
theorem own_pd7 : parseMethodDescriptor "(Lcom/example/haze_to_match/hazetomatch/UnitBounds;)Z" = some ⟨[(.object "com/example/haze_to_match/hazetomatch/UnitBounds")], some .boolean⟩ := by decide +kernel
theorem own_pn0 : plainName "com/example/haze_to_match/hazetomatch/UnitBoundsIsBelowPinLaw" = true := by first | (simp [plainName, overriddenIn]; done) | decide +kernel
theorem own_pn1 : plainName "com/example/haze_to_match/hazetomatch/UnitBounds" = true := by first | (simp [plainName, overriddenIn]; done) | decide +kernel
theorem own_pn2 : plainName "java/lang/Record" = true := by first | (simp [plainName, overriddenIn]; done) | decide +kernel
theorem own_d_method_2_code_0 : decode method_2_code 0 = .ok (.iload_n 0, 1) := by decide +kernel
theorem own_d_method_2_code_1 : decode method_2_code 1 = .ok (.iload_n 1, 1) := by decide +kernel
theorem own_d_method_2_code_2 : decode method_2_code 2 = .ok (.iushr, 1) := by decide +kernel
theorem own_d_method_2_code_3 : decode method_2_code 3 = .ok (.bipush 31, 2) := by decide +kernel
theorem own_d_method_2_code_5 : decode method_2_code 5 = .ok (.iand, 1) := by decide +kernel
theorem own_d_method_2_code_6 : decode method_2_code 6 = .ok (.bipush 8, 2) := by decide +kernel
theorem own_d_method_2_code_8 : decode method_2_code 8 = .ok (.isub, 1) := by decide +kernel
theorem own_d_method_2_code_9 : decode method_2_code 9 = .ok (.ireturn, 1) := by decide +kernel
theorem own_d_method_3_code_0 : decode method_3_code 0 = .ok (.iload_n 0, 1) := by decide +kernel
theorem own_d_method_3_code_1 : decode method_3_code 1 = .ok (.i2d, 1) := by decide +kernel
theorem own_d_method_3_code_2 : decode method_3_code 2 = .ok (.ldc2_w 7, 3) := by decide +kernel
theorem own_d_method_3_code_5 : decode method_3_code 5 = .ok (.ddiv, 1) := by decide +kernel
theorem own_d_method_3_code_6 : decode method_3_code 6 = .ok (.dreturn, 1) := by decide +kernel
theorem own_d_prog_70_method_8_code_0 : decode prog_70_method_8_code 0 = .ok (.dconst 0, 1) := by decide +kernel
theorem own_d_prog_70_method_8_code_1 : decode prog_70_method_8_code 1 = .ok (.dconst 1, 1) := by decide +kernel
theorem own_d_prog_70_method_8_code_2 : decode prog_70_method_8_code 2 = .ok (.dload_n 0, 1) := by decide +kernel
theorem own_d_prog_70_method_8_code_3 : decode prog_70_method_8_code 3 = .ok (.invokestatic 50, 3) := by decide +kernel
theorem own_d_prog_70_method_8_code_6 : decode prog_70_method_8_code 6 = .ok (.invokestatic 54, 3) := by decide +kernel
theorem own_d_prog_70_method_8_code_9 : decode prog_70_method_8_code 9 = .ok (.dreturn, 1) := by decide +kernel
theorem own_d_jdk_30_method_1_code_0 : decode jdk_30_method_1_code 0 = .ok (.aload_n 0, 1) := by decide +kernel
theorem own_d_jdk_30_method_1_code_1 : decode jdk_30_method_1_code 1 = .ok (.invokespecial 1, 3) := by decide +kernel
theorem own_d_jdk_30_method_1_code_4 : decode jdk_30_method_1_code 4 = .ok (.return_, 1) := by decide +kernel
theorem own_d_prog_70_method_1_code_0 : decode prog_70_method_1_code 0 = .ok (.aload_n 0, 1) := by decide +kernel
theorem own_d_prog_70_method_1_code_1 : decode prog_70_method_1_code 1 = .ok (.invokespecial 1, 3) := by decide +kernel
theorem own_d_prog_70_method_1_code_4 : decode prog_70_method_1_code 4 = .ok (.dload_n 1, 1) := by decide +kernel
theorem own_d_prog_70_method_1_code_5 : decode prog_70_method_1_code 5 = .ok (.invokestatic 7, 3) := by decide +kernel
theorem own_d_prog_70_method_1_code_8 : decode prog_70_method_1_code 8 = .ok (.dstore_n 1, 1) := by decide +kernel
theorem own_d_prog_70_method_1_code_9 : decode prog_70_method_1_code 9 = .ok (.dload_n 3, 1) := by decide +kernel
theorem own_d_prog_70_method_1_code_10 : decode prog_70_method_1_code 10 = .ok (.invokestatic 7, 3) := by decide +kernel
theorem own_d_prog_70_method_1_code_13 : decode prog_70_method_1_code 13 = .ok (.dstore_n 3, 1) := by decide +kernel
theorem own_d_prog_70_method_1_code_14 : decode prog_70_method_1_code 14 = .ok (.dload 5, 2) := by decide +kernel
theorem own_d_prog_70_method_1_code_16 : decode prog_70_method_1_code 16 = .ok (.invokestatic 7, 3) := by decide +kernel
theorem own_d_prog_70_method_1_code_19 : decode prog_70_method_1_code 19 = .ok (.dstore 5, 2) := by decide +kernel
theorem own_d_prog_70_method_1_code_21 : decode prog_70_method_1_code 21 = .ok (.dload 7, 2) := by decide +kernel
theorem own_d_prog_70_method_1_code_23 : decode prog_70_method_1_code 23 = .ok (.invokestatic 7, 3) := by decide +kernel
theorem own_d_prog_70_method_1_code_26 : decode prog_70_method_1_code 26 = .ok (.dstore 7, 2) := by decide +kernel
theorem own_d_prog_70_method_1_code_28 : decode prog_70_method_1_code 28 = .ok (.aload_n 0, 1) := by decide +kernel
theorem own_d_prog_70_method_1_code_29 : decode prog_70_method_1_code 29 = .ok (.dload_n 1, 1) := by decide +kernel
theorem own_d_prog_70_method_1_code_30 : decode prog_70_method_1_code 30 = .ok (.putfield 13, 3) := by decide +kernel
theorem own_d_prog_70_method_1_code_33 : decode prog_70_method_1_code 33 = .ok (.aload_n 0, 1) := by decide +kernel
theorem own_d_prog_70_method_1_code_34 : decode prog_70_method_1_code 34 = .ok (.dload_n 3, 1) := by decide +kernel
theorem own_d_prog_70_method_1_code_35 : decode prog_70_method_1_code 35 = .ok (.putfield 17, 3) := by decide +kernel
theorem own_d_prog_70_method_1_code_38 : decode prog_70_method_1_code 38 = .ok (.aload_n 0, 1) := by decide +kernel
theorem own_d_prog_70_method_1_code_39 : decode prog_70_method_1_code 39 = .ok (.dload 5, 2) := by decide +kernel
theorem own_d_prog_70_method_1_code_41 : decode prog_70_method_1_code 41 = .ok (.putfield 20, 3) := by decide +kernel
theorem own_d_prog_70_method_1_code_44 : decode prog_70_method_1_code 44 = .ok (.aload_n 0, 1) := by decide +kernel
theorem own_d_prog_70_method_1_code_45 : decode prog_70_method_1_code 45 = .ok (.dload 7, 2) := by decide +kernel
theorem own_d_prog_70_method_1_code_47 : decode prog_70_method_1_code 47 = .ok (.putfield 23, 3) := by decide +kernel
theorem own_d_prog_70_method_1_code_50 : decode prog_70_method_1_code 50 = .ok (.return_, 1) := by decide +kernel
theorem own_d_jdk_29_method_69_code_0 : decode jdk_29_method_69_code 0 = .ok (.iload_n 0, 1) := by decide +kernel
theorem own_d_jdk_29_method_69_code_1 : decode jdk_29_method_69_code 1 = .ok (.iload_n 1, 1) := by decide +kernel
theorem own_d_jdk_29_method_69_code_2 : decode jdk_29_method_69_code 2 = .ok (.if_icmp .gt 7, 3) := by decide +kernel
theorem own_d_jdk_29_method_69_code_9 : decode jdk_29_method_69_code 9 = .ok (.iload_n 1, 1) := by decide +kernel
theorem own_d_jdk_29_method_69_code_10 : decode jdk_29_method_69_code 10 = .ok (.ireturn, 1) := by decide +kernel
theorem own_d_jdk_29_method_69_code_5 : decode jdk_29_method_69_code 5 = .ok (.iload_n 0, 1) := by decide +kernel
theorem own_d_jdk_29_method_69_code_6 : decode jdk_29_method_69_code 6 = .ok (.goto 4, 3) := by decide +kernel
theorem own_d_jdk_29_method_65_code_0 : decode jdk_29_method_65_code 0 = .ok (.iload_n 0, 1) := by decide +kernel
theorem own_d_jdk_29_method_65_code_1 : decode jdk_29_method_65_code 1 = .ok (.iload_n 1, 1) := by decide +kernel
theorem own_d_jdk_29_method_65_code_2 : decode jdk_29_method_65_code 2 = .ok (.if_icmp .lt 7, 3) := by decide +kernel
theorem own_d_jdk_29_method_65_code_9 : decode jdk_29_method_65_code 9 = .ok (.iload_n 1, 1) := by decide +kernel
theorem own_d_jdk_29_method_65_code_10 : decode jdk_29_method_65_code 10 = .ok (.ireturn, 1) := by decide +kernel
theorem own_d_jdk_29_method_65_code_5 : decode jdk_29_method_65_code 5 = .ok (.iload_n 0, 1) := by decide +kernel
theorem own_d_jdk_29_method_65_code_6 : decode jdk_29_method_65_code 6 = .ok (.goto 4, 3) := by decide +kernel
theorem own_d_method_4_code_0 : decode method_4_code 0 = .ok (.iconst 0, 1) := by decide +kernel
theorem own_d_method_4_code_1 : decode method_4_code 1 = .ok (.bipush 16, 2) := by decide +kernel
theorem own_d_method_4_code_3 : decode method_4_code 3 = .ok (.iload_n 0, 1) := by decide +kernel
theorem own_d_method_4_code_4 : decode method_4_code 4 = .ok (.invokestatic 9, 3) := by decide +kernel
theorem own_d_method_4_code_7 : decode method_4_code 7 = .ok (.invokestatic 15, 3) := by decide +kernel
theorem own_d_method_4_code_10 : decode method_4_code 10 = .ok (.ireturn, 1) := by decide +kernel
theorem own_d_prog_70_method_6_code_0 : decode prog_70_method_6_code 0 = .ok (.aload_n 0, 1) := by decide +kernel
theorem own_d_prog_70_method_6_code_1 : decode prog_70_method_6_code 1 = .ok (.getfield 17, 3) := by decide +kernel
theorem own_d_prog_70_method_6_code_4 : decode prog_70_method_6_code 4 = .ok (.aload_n 1, 1) := by decide +kernel
theorem own_d_prog_70_method_6_code_5 : decode prog_70_method_6_code 5 = .ok (.getfield 13, 3) := by decide +kernel
theorem own_d_prog_70_method_6_code_8 : decode prog_70_method_6_code 8 = .ok (.dcmp .g, 1) := by decide +kernel
theorem own_d_prog_70_method_6_code_9 : decode prog_70_method_6_code 9 = .ok (.ifCond .lt 15, 3) := by decide +kernel
theorem own_d_prog_70_method_6_code_24 : decode prog_70_method_6_code 24 = .ok (.iconst 1, 1) := by decide +kernel
theorem own_d_prog_70_method_6_code_25 : decode prog_70_method_6_code 25 = .ok (.goto 4, 3) := by decide +kernel
theorem own_d_prog_70_method_6_code_29 : decode prog_70_method_6_code 29 = .ok (.ireturn, 1) := by decide +kernel
theorem own_d_prog_70_method_6_code_12 : decode prog_70_method_6_code 12 = .ok (.aload_n 0, 1) := by decide +kernel
theorem own_d_prog_70_method_6_code_13 : decode prog_70_method_6_code 13 = .ok (.getfield 20, 3) := by decide +kernel
theorem own_d_prog_70_method_6_code_16 : decode prog_70_method_6_code 16 = .ok (.aload_n 1, 1) := by decide +kernel
theorem own_d_prog_70_method_6_code_17 : decode prog_70_method_6_code 17 = .ok (.getfield 23, 3) := by decide +kernel
theorem own_d_prog_70_method_6_code_20 : decode prog_70_method_6_code 20 = .ok (.dcmp .l, 1) := by decide +kernel
theorem own_d_prog_70_method_6_code_21 : decode prog_70_method_6_code 21 = .ok (.ifCond .le 7, 3) := by decide +kernel
theorem own_d_prog_70_method_6_code_28 : decode prog_70_method_6_code 28 = .ok (.iconst 0, 1) := by decide +kernel
set_option maxRecDepth 65536 in
set_option maxHeartbeats 40000000 in
theorem own_rm1 (l : Launch) (Z : State) (a0 : Array Value) (hw : ∀ d ∈ tables_1, d.before a0 Z = true) (ws : List Jvm.Cond) (p1 p2 : Int32) (h0 : Heap) (n0 : Nat) (Z0 : n0 ≤ h0.size)  :
    OMet l Z (⟨"com/example/haze_to_match/hazetomatch/UnitBoundsIsBelowPinLaw", "field", "(II)I"⟩ : MethodName) method_2_code 2 (some .int) ws ({ frames := 0, cells := 0, slots := 0, locals := 0 } : Room) #[(.int p1), (.int p2)] h0 (fun v h L => v = some (.int (((p1.toUInt32 >>> (p2 &&& 31).toUInt32).toInt32 &&& 31) - 8)) ∧ Fr n0 L ∧ h = h0) := by
  refine OMet.body (plainFor_of_name own_pn0) ?_
  intro p e s m below meth c s₁ hx hby hml hown hnm hret hlk hZ X0 e0
  refine OGo.step (fun _ kk => castTop (show entryFrame m #[(.int p1), (.int p2)] 2 = (mkF m 0 #[.val (.int p1), .val (.int p2)] []) from by first | (simp [entryFrame, mkF, argsToLocals, Value.category]; done) | rfl) kk) ?_
  show OGo p e below (s₁.setTop (mkF m 0 #[.val (.int p1), .val (.int p2)] [])) (OEnd s (fun v h L => v = some (.int (((p1.toUInt32 >>> (p2 &&& 31).toUInt32).toInt32 &&& 31) - 8)) ∧ Fr n0 L ∧ h = h0) ({ frames := 0, cells := 0, slots := 0, locals := 0 } : Room).cells ({ frames := 0, cells := 0, slots := 0, locals := 0 } : Room).slots)
  have N0 := Fr.nil n0
  refine OGo.step (fun _ kk => XS.iloadN X0.here hx rfl (hb hby own_d_method_2_code_0) rfl kk) ?_
  show OGo p e below (s₁.setTop (mkF m 1 #[.val (.int p1), .val (.int p2)] [(.int p1)])) (OEnd s (fun v h L => v = some (.int (((p1.toUInt32 >>> (p2 &&& 31).toUInt32).toInt32 &&& 31) - 8)) ∧ Fr n0 L ∧ h = h0) ({ frames := 0, cells := 0, slots := 0, locals := 0 } : Room).cells ({ frames := 0, cells := 0, slots := 0, locals := 0 } : Room).slots)
  refine OGo.step (fun _ kk => XS.iloadN X0.here hx rfl (hb hby own_d_method_2_code_1) rfl kk) ?_
  show OGo p e below (s₁.setTop (mkF m 2 #[.val (.int p1), .val (.int p2)] [(.int p2), (.int p1)])) (OEnd s (fun v h L => v = some (.int (((p1.toUInt32 >>> (p2 &&& 31).toUInt32).toInt32 &&& 31) - 8)) ∧ Fr n0 L ∧ h = h0) ({ frames := 0, cells := 0, slots := 0, locals := 0 } : Room).cells ({ frames := 0, cells := 0, slots := 0, locals := 0 } : Room).slots)
  refine OGo.step (fun _ kk => XS.iushr X0.here hx rfl (hb hby own_d_method_2_code_2) rfl kk) ?_
  show OGo p e below (s₁.setTop (mkF m 3 #[.val (.int p1), .val (.int p2)] [(.int ((p1.toUInt32 >>> (p2 &&& 31).toUInt32).toInt32))])) (OEnd s (fun v h L => v = some (.int (((p1.toUInt32 >>> (p2 &&& 31).toUInt32).toInt32 &&& 31) - 8)) ∧ Fr n0 L ∧ h = h0) ({ frames := 0, cells := 0, slots := 0, locals := 0 } : Room).cells ({ frames := 0, cells := 0, slots := 0, locals := 0 } : Room).slots)
  refine OGo.step (fun _ kk => XS.bipush X0.here hx rfl (hb hby own_d_method_2_code_3) kk) ?_
  show OGo p e below (s₁.setTop (mkF m 5 #[.val (.int p1), .val (.int p2)] [(.int (31 : Int32)), (.int ((p1.toUInt32 >>> (p2 &&& 31).toUInt32).toInt32))])) (OEnd s (fun v h L => v = some (.int (((p1.toUInt32 >>> (p2 &&& 31).toUInt32).toInt32 &&& 31) - 8)) ∧ Fr n0 L ∧ h = h0) ({ frames := 0, cells := 0, slots := 0, locals := 0 } : Room).cells ({ frames := 0, cells := 0, slots := 0, locals := 0 } : Room).slots)
  refine OGo.step (fun _ kk => XS.iand X0.here hx rfl (hb hby own_d_method_2_code_5) rfl kk) ?_
  show OGo p e below (s₁.setTop (mkF m 6 #[.val (.int p1), .val (.int p2)] [(.int (((p1.toUInt32 >>> (p2 &&& 31).toUInt32).toInt32) &&& (31 : Int32)))])) (OEnd s (fun v h L => v = some (.int (((p1.toUInt32 >>> (p2 &&& 31).toUInt32).toInt32 &&& 31) - 8)) ∧ Fr n0 L ∧ h = h0) ({ frames := 0, cells := 0, slots := 0, locals := 0 } : Room).cells ({ frames := 0, cells := 0, slots := 0, locals := 0 } : Room).slots)
  refine OGo.step (fun _ kk => XS.bipush X0.here hx rfl (hb hby own_d_method_2_code_6) kk) ?_
  show OGo p e below (s₁.setTop (mkF m 8 #[.val (.int p1), .val (.int p2)] [(.int (8 : Int32)), (.int (((p1.toUInt32 >>> (p2 &&& 31).toUInt32).toInt32) &&& (31 : Int32)))])) (OEnd s (fun v h L => v = some (.int (((p1.toUInt32 >>> (p2 &&& 31).toUInt32).toInt32 &&& 31) - 8)) ∧ Fr n0 L ∧ h = h0) ({ frames := 0, cells := 0, slots := 0, locals := 0 } : Room).cells ({ frames := 0, cells := 0, slots := 0, locals := 0 } : Room).slots)
  refine OGo.step (fun _ kk => XS.isub X0.here hx rfl (hb hby own_d_method_2_code_8) rfl kk) ?_
  show OGo p e below (s₁.setTop (mkF m 9 #[.val (.int p1), .val (.int p2)] [(.int ((((p1.toUInt32 >>> (p2 &&& 31).toUInt32).toInt32) &&& (31 : Int32)) - (8 : Int32)))])) (OEnd s (fun v h L => v = some (.int (((p1.toUInt32 >>> (p2 &&& 31).toUInt32).toInt32 &&& 31) - 8)) ∧ Fr n0 L ∧ h = h0) ({ frames := 0, cells := 0, slots := 0, locals := 0 } : Room).cells ({ frames := 0, cells := 0, slots := 0, locals := 0 } : Room).slots)
  exact own_ret X0 hx hlk hret rfl (Or.inl ⟨rfl, Or.inl rfl, _, rfl⟩) (hb hby own_d_method_2_code_9) ⟨rfl, N0, e0⟩ (by decide) (by decide)

set_option maxRecDepth 65536 in
set_option maxHeartbeats 40000000 in
theorem own_rm3 (l : Launch) (Z : State) (a0 : Array Value) (hw : ∀ d ∈ tables_1, d.before a0 Z = true) (ws : List Jvm.Cond) (k : Nat) (h0 : Heap) (n0 : Nat) (Z0 : n0 ≤ h0.size) (hk : k < 32) :
    OMet l Z (⟨"com/example/haze_to_match/hazetomatch/UnitBoundsIsBelowPinLaw", "asBound", "(I)D"⟩ : MethodName) method_3_code 1 (some .double) ws ({ frames := 0, cells := 0, slots := 0, locals := 0 } : Room) #[(.int (Int32.ofNat k - 8))] h0 (fun v h L => v = some (.double (own_ab k)) ∧ Fr n0 L ∧ h = h0) := by
  refine OMet.body (plainFor_of_name own_pn0) ?_
  intro p e s m below meth c s₁ hx hby hml hown hnm hret hlk hZ X0 e0
  refine OGo.step (fun _ kk => castTop (show entryFrame m #[(.int (Int32.ofNat k - 8))] 1 = (mkF m 0 #[.val (.int (Int32.ofNat k - 8))] []) from by first | (simp [entryFrame, mkF, argsToLocals, Value.category]; done) | rfl) kk) ?_
  show OGo p e below (s₁.setTop (mkF m 0 #[.val (.int (Int32.ofNat k - 8))] [])) (OEnd s (fun v h L => v = some (.double (own_ab k)) ∧ Fr n0 L ∧ h = h0) ({ frames := 0, cells := 0, slots := 0, locals := 0 } : Room).cells ({ frames := 0, cells := 0, slots := 0, locals := 0 } : Room).slots)
  have N0 := Fr.nil n0
  have hnn := own_nn_dec (own_ab_nn k hk).1
  refine OGo.step (fun _ kk => XS.iloadN X0.here hx rfl (hb hby own_d_method_3_code_0) rfl kk) ?_
  show OGo p e below (s₁.setTop (mkF m 1 #[.val (.int (Int32.ofNat k - 8))] [(.int (Int32.ofNat k - 8))])) (OEnd s (fun v h L => v = some (.double (own_ab k)) ∧ Fr n0 L ∧ h = h0) ({ frames := 0, cells := 0, slots := 0, locals := 0 } : Room).cells ({ frames := 0, cells := 0, slots := 0, locals := 0 } : Room).slots)
  refine OGo.step (fun _ kk => XS.i2dS X0.here hx rfl (hb hby own_d_method_3_code_1) rfl rfl kk) ?_
  show OGo p e below (s₁.setTop (mkF m 2 #[.val (.int (Int32.ofNat k - 8))] [(.double (FP.i2d (Int32.ofNat k - 8)))])) (OEnd s (fun v h L => v = some (.double (own_ab k)) ∧ Fr n0 L ∧ h = h0) ({ frames := 0, cells := 0, slots := 0, locals := 0 } : Room).cells ({ frames := 0, cells := 0, slots := 0, locals := 0 } : Room).slots)
  refine OGo.step (fun _ kk => X0.ldc2DoubleC hx hown (mvT hZ (hw _ (List.mem_of_getElem? (i := 10) rfl))) (g := (mkF m 2 #[.val (.int (Int32.ofNat k - 8))] [(.double (FP.i2d (Int32.ofNat k - 8)))])) rfl (hb hby own_d_method_3_code_2) _ kk) ?_
  show OGo p e below (s₁.setTop (mkF m 5 #[.val (.int (Int32.ofNat k - 8))] [(.double (4625196817309499392 : UInt64)), (.double (FP.i2d (Int32.ofNat k - 8)))])) (OEnd s (fun v h L => v = some (.double (own_ab k)) ∧ Fr n0 L ∧ h = h0) ({ frames := 0, cells := 0, slots := 0, locals := 0 } : Room).cells ({ frames := 0, cells := 0, slots := 0, locals := 0 } : Room).slots)
  refine OGo.step (fun _ kk => XS.ddivS X0.here hx rfl (hb hby own_d_method_3_code_5) rfl hnn rfl kk) ?_
  show OGo p e below (s₁.setTop (mkF m 6 #[.val (.int (Int32.ofNat k - 8))] [(.double (own_ab k))])) (OEnd s (fun v h L => v = some (.double (own_ab k)) ∧ Fr n0 L ∧ h = h0) ({ frames := 0, cells := 0, slots := 0, locals := 0 } : Room).cells ({ frames := 0, cells := 0, slots := 0, locals := 0 } : Room).slots)
  exact own_ret X0 hx hlk hret rfl (Or.inr (Or.inr (Or.inl ⟨rfl, rfl, _, rfl⟩))) (hb hby own_d_method_3_code_6) ⟨rfl, N0, e0⟩ (by decide) (by decide)

set_option maxRecDepth 65536 in
set_option maxHeartbeats 40000000 in
theorem own_rm8 (l : Launch) (Z : State) (a0 : Array Value) (hw : ∀ d ∈ tables_1, d.before a0 Z = true) (ws : List Jvm.Cond) (x1 : UInt64) (h0 : Heap) (n0 : Nat) (Z0 : n0 ≤ h0.size) (hx1 : NoNaN64 x1) (hx2 : NoNaN64 (own_mn x1)) :
    OMet l Z (⟨"com/example/haze_to_match/hazetomatch/UnitBounds", "unit", "(D)D"⟩ : MethodName) prog_70_method_8_code 2 (some .double) ws ({ frames := 1, cells := 0, slots := 0, locals := 17 } : Room) #[(.double x1)] h0 (fun v h L => v = some (.double (own_un x1)) ∧ Fr n0 L ∧ h = h0) := by
  refine OMet.body (plainFor_of_name own_pn1) ?_
  intro p e s m below meth c s₁ hx hby hml hown hnm hret hlk hZ X0 e0
  refine OGo.step (fun _ kk => castTop (show entryFrame m #[(.double x1)] 2 = (mkF m 0 #[.val (.double x1), .second] []) from by first | (simp [entryFrame, mkF, argsToLocals, Value.category]; done) | rfl) kk) ?_
  show OGo p e below (s₁.setTop (mkF m 0 #[.val (.double x1), .second] [])) (OEnd s (fun v h L => v = some (.double (own_un x1)) ∧ Fr n0 L ∧ h = h0) ({ frames := 1, cells := 0, slots := 0, locals := 17 } : Room).cells ({ frames := 1, cells := 0, slots := 0, locals := 17 } : Room).slots)
  refine OGo.step (fun _ kk => XS.dconst0 X0.here hx rfl (hb hby own_d_prog_70_method_8_code_0) rfl kk) ?_
  show OGo p e below (s₁.setTop (mkF m 1 #[.val (.double x1), .second] [(.double FP.dconst0)])) (OEnd s (fun v h L => v = some (.double (own_un x1)) ∧ Fr n0 L ∧ h = h0) ({ frames := 1, cells := 0, slots := 0, locals := 17 } : Room).cells ({ frames := 1, cells := 0, slots := 0, locals := 17 } : Room).slots)
  refine OGo.step (fun _ kk => XS.dconst1 X0.here hx rfl (hb hby own_d_prog_70_method_8_code_1) rfl kk) ?_
  show OGo p e below (s₁.setTop (mkF m 2 #[.val (.double x1), .second] [(.double FP.dconst1), (.double FP.dconst0)])) (OEnd s (fun v h L => v = some (.double (own_un x1)) ∧ Fr n0 L ∧ h = h0) ({ frames := 1, cells := 0, slots := 0, locals := 17 } : Room).cells ({ frames := 1, cells := 0, slots := 0, locals := 17 } : Room).slots)
  refine OGo.step (fun _ kk => XS.dloadN X0.here hx rfl (hb hby own_d_prog_70_method_8_code_2) rfl kk) ?_
  show OGo p e below (s₁.setTop (mkF m 3 #[.val (.double x1), .second] [(.double x1), (.double FP.dconst1), (.double FP.dconst0)])) (OEnd s (fun v h L => v = some (.double (own_un x1)) ∧ Fr n0 L ∧ h = h0) ({ frames := 1, cells := 0, slots := 0, locals := 17 } : Room).cells ({ frames := 1, cells := 0, slots := 0, locals := 17 } : Room).slots)
  refine own_callSK X0 hx hZ (y := (⟨"java/lang/Math", "min", "(DD)D"⟩ : MethodName)) hown (hw _ (List.mem_of_getElem? (i := 25) rfl)) (hw _ (List.mem_of_getElem? (i := 26) rfl)) (hw _ (List.mem_of_getElem? (i := 27) rfl)) (hw _ (List.mem_of_getElem? (i := 28) rfl)) (by decide) (W := 2) (own_minB (W := 2) hZ (hw _ (List.mem_of_getElem? (i := 28) rfl)) (by decide) (by decide) own_one hx1) e0 (pc := 3) (Ls := #[.val (.double x1), .second]) (argsL := [(.double FP.dconst1), (.double x1)]) (rest := [(.double FP.dconst0)]) (by rw [hml]; rfl) (lenOf own_pd0 rfl) rfl (hb hby own_d_prog_70_method_8_code_3) (by decide) (by decide) ?_
  intro v1 T1 L1 X1 hQ1
  obtain ⟨rfl, l1, e1⟩ := hQ1
  show OGo p e below (T1.setTop (mkF m 6 #[.val (.double x1), .second] [(.double (own_mn x1)), (.double FP.dconst0)])) (OEnd s (fun v h L => v = some (.double (own_un x1)) ∧ Fr n0 L ∧ h = h0) ({ frames := 1, cells := 0, slots := 0, locals := 17 } : Room).cells ({ frames := 1, cells := 0, slots := 0, locals := 17 } : Room).slots)
  subst l1
  refine own_callSK X1 hx hZ (y := (⟨"java/lang/Math", "max", "(DD)D"⟩ : MethodName)) hown (hw _ (List.mem_of_getElem? (i := 29) rfl)) (hw _ (List.mem_of_getElem? (i := 30) rfl)) (hw _ (List.mem_of_getElem? (i := 27) rfl)) (hw _ (List.mem_of_getElem? (i := 31) rfl)) (by decide) (W := 0) (own_maxB (W := 0) hZ (hw _ (List.mem_of_getElem? (i := 31) rfl)) (by decide) (by decide) own_zero hx2) e1 (pc := 6) (Ls := #[.val (.double x1), .second]) (argsL := [(.double FP.dconst0), (.double (own_mn x1))]) (rest := []) (by rw [hml]; rfl) (lenOf own_pd0 rfl) rfl (hb hby own_d_prog_70_method_8_code_6) (by decide) (by decide) ?_
  intro v2 T2 L2 X2 hQ2
  obtain ⟨rfl, l2, e2⟩ := hQ2
  show OGo p e below (T2.setTop (mkF m 9 #[.val (.double x1), .second] [(.double (own_un x1))])) (OEnd s (fun v h L => v = some (.double (own_un x1)) ∧ Fr n0 L ∧ h = h0) ({ frames := 1, cells := 0, slots := 0, locals := 17 } : Room).cells ({ frames := 1, cells := 0, slots := 0, locals := 17 } : Room).slots)
  subst l2
  exact own_ret X2 hx hlk hret rfl (Or.inr (Or.inr (Or.inl ⟨rfl, rfl, _, rfl⟩))) (hb hby own_d_prog_70_method_8_code_9) ⟨rfl, Fr.nil n0, e2⟩ (by decide) (by decide)

set_option maxRecDepth 65536 in
set_option maxHeartbeats 40000000 in
theorem own_rm2 (l : Launch) (Z : State) (a0 : Array Value) (hw : ∀ d ∈ tables_1, d.before a0 Z = true) (ws : List Jvm.Cond) (a1 : Addr) (h0 : Heap) (n0 : Nat) (Z0 : n0 ≤ h0.size)  :
    OMet l Z (⟨"java/lang/Record", "<init>", "()V"⟩ : MethodName) jdk_30_method_1_code 1 none ws ({ frames := 1, cells := 0, slots := 0, locals := 12 } : Room) #[(.ref a1)] h0 (fun v h L => v = none ∧ Fr n0 L ∧ h = h0) := by
  refine OMet.body (plainFor_of_name own_pn2) ?_
  intro p e s m below meth c s₁ hx hby hml hown hnm hret hlk hZ X0 e0
  refine OGo.step (fun _ kk => castTop (show entryFrame m #[(.ref a1)] 1 = (mkF m 0 #[.val (.ref a1)] []) from by first | (simp [entryFrame, mkF, argsToLocals, Value.category]; done) | rfl) kk) ?_
  show OGo p e below (s₁.setTop (mkF m 0 #[.val (.ref a1)] [])) (OEnd s (fun v h L => v = none ∧ Fr n0 L ∧ h = h0) ({ frames := 1, cells := 0, slots := 0, locals := 12 } : Room).cells ({ frames := 1, cells := 0, slots := 0, locals := 12 } : Room).slots)
  have N0 := Fr.nil n0
  refine OGo.step (fun _ kk => XS.aloadN X0.here hx rfl (hb hby own_d_jdk_30_method_1_code_0) rfl rfl kk) ?_
  show OGo p e below (s₁.setTop (mkF m 1 #[.val (.ref a1)] [(.ref a1)])) (OEnd s (fun v h L => v = none ∧ Fr n0 L ∧ h = h0) ({ frames := 1, cells := 0, slots := 0, locals := 12 } : Room).cells ({ frames := 1, cells := 0, slots := 0, locals := 12 } : Room).slots)
  obtain ⟨T3, X3, e3, st3⟩ := initO X0 hx hZ hown (hw _ (List.mem_of_getElem? (i := 19) rfl)) (hw _ (List.mem_of_getElem? (i := 20) rfl)) (hw _ (List.mem_of_getElem? (i := 21) rfl)) e0 (g := (mkF m 1 #[.val (.ref a1)] [(.ref a1)])) rfl (by rw [hml]; rfl) rfl (hb hby own_d_jdk_30_method_1_code_1) (by decide) (W := 0) (by show 2 * 0 + _ ≤ _; exact Nat.le_of_eq rfl) (by decide)
  refine OGo.step st3 ?_
  show OGo p e below (T3.setTop (mkF m 4 #[.val (.ref a1)] [])) (OEnd s (fun v h L => v = none ∧ Fr n0 L ∧ h = h0) ({ frames := 1, cells := 0, slots := 0, locals := 12 } : Room).cells ({ frames := 1, cells := 0, slots := 0, locals := 12 } : Room).slots)
  exact own_ret0 X3 hx hlk hret (hb hby own_d_jdk_30_method_1_code_4) ⟨rfl, N0, e3⟩ (by decide) (by decide)

set_option maxRecDepth 65536 in
set_option maxHeartbeats 40000000 in
theorem own_rm0i (l : Launch) (Z : State) (a0 : Array Value) (hw : ∀ d ∈ tables_1, d.before a0 Z = true) (ws : List Jvm.Cond) (a1 : Addr) (x1 x2 x3 x4 : UInt64) (u1 u2 u3 u4 : Value) (h0 : Heap) (n0 : Nat) (Z0 : n0 ≤ h0.size) (hx1 : NoNaN64 x1) (hy1 : NoNaN64 (own_mn x1)) (hx2 : NoNaN64 x2) (hy2 : NoNaN64 (own_mn x2)) (hx3 : NoNaN64 x3) (hy3 : NoNaN64 (own_mn x3)) (hx4 : NoNaN64 x4) (hy4 : NoNaN64 (own_mn x4)) (E1 : Exa Z h0 a1 "com/example/haze_to_match/hazetomatch/UnitBounds") (F_low : Fld Z h0 a1 "com/example/haze_to_match/hazetomatch/UnitBounds" "low" "D" u1) (F_high : Fld Z h0 a1 "com/example/haze_to_match/hazetomatch/UnitBounds" "high" "D" u2) (F_complementLow : Fld Z h0 a1 "com/example/haze_to_match/hazetomatch/UnitBounds" "complementLow" "D" u3) (F_complementHigh : Fld Z h0 a1 "com/example/haze_to_match/hazetomatch/UnitBounds" "complementHigh" "D" u4) (g1 : n0 ≤ a1) :
    OMet l Z (⟨"com/example/haze_to_match/hazetomatch/UnitBounds", "<init>", "(DDDD)V"⟩ : MethodName) prog_70_method_1_code 9 none ws ({ frames := 2, cells := 0, slots := 0, locals := 30 } : Room) #[(.ref a1), (.double x1), (.double x2), (.double x3), (.double x4)] h0 (fun v h L => v = none ∧ Fr n0 L ∧ Keep h0 h [a1] ∧ Exa Z h a1 "com/example/haze_to_match/hazetomatch/UnitBounds" ∧ Fld Z h a1 "com/example/haze_to_match/hazetomatch/UnitBounds" "low" "D" (.double (own_un x1)) ∧ Fld Z h a1 "com/example/haze_to_match/hazetomatch/UnitBounds" "high" "D" (.double (own_un x2)) ∧ Fld Z h a1 "com/example/haze_to_match/hazetomatch/UnitBounds" "complementLow" "D" (.double (own_un x3)) ∧ Fld Z h a1 "com/example/haze_to_match/hazetomatch/UnitBounds" "complementHigh" "D" (.double (own_un x4))) := by
  refine OMet.body (plainFor_of_name own_pn1) ?_
  intro p e s m below meth c s₁ hx hby hml hown hnm hret hlk hZ X0 e0
  refine OGo.step (fun _ kk => castTop (show entryFrame m #[(.ref a1), (.double x1), (.double x2), (.double x3), (.double x4)] 9 = (mkF m 0 #[.val (.ref a1), .val (.double x1), .second, .val (.double x2), .second, .val (.double x3), .second, .val (.double x4), .second] []) from by first | (simp [entryFrame, mkF, argsToLocals, Value.category]; done) | rfl) kk) ?_
  show OGo p e below (s₁.setTop (mkF m 0 #[.val (.ref a1), .val (.double x1), .second, .val (.double x2), .second, .val (.double x3), .second, .val (.double x4), .second] [])) (OEnd s (fun v h L => v = none ∧ Fr n0 L ∧ Keep h0 h [a1] ∧ Exa Z h a1 "com/example/haze_to_match/hazetomatch/UnitBounds" ∧ Fld Z h a1 "com/example/haze_to_match/hazetomatch/UnitBounds" "low" "D" (.double (own_un x1)) ∧ Fld Z h a1 "com/example/haze_to_match/hazetomatch/UnitBounds" "high" "D" (.double (own_un x2)) ∧ Fld Z h a1 "com/example/haze_to_match/hazetomatch/UnitBounds" "complementLow" "D" (.double (own_un x3)) ∧ Fld Z h a1 "com/example/haze_to_match/hazetomatch/UnitBounds" "complementHigh" "D" (.double (own_un x4))) ({ frames := 2, cells := 0, slots := 0, locals := 30 } : Room).cells ({ frames := 2, cells := 0, slots := 0, locals := 30 } : Room).slots)
  refine OGo.step (fun _ kk => XS.aloadN X0.here hx rfl (hb hby own_d_prog_70_method_1_code_0) rfl rfl kk) ?_
  show OGo p e below (s₁.setTop (mkF m 1 #[.val (.ref a1), .val (.double x1), .second, .val (.double x2), .second, .val (.double x3), .second, .val (.double x4), .second] [(.ref a1)])) (OEnd s (fun v h L => v = none ∧ Fr n0 L ∧ Keep h0 h [a1] ∧ Exa Z h a1 "com/example/haze_to_match/hazetomatch/UnitBounds" ∧ Fld Z h a1 "com/example/haze_to_match/hazetomatch/UnitBounds" "low" "D" (.double (own_un x1)) ∧ Fld Z h a1 "com/example/haze_to_match/hazetomatch/UnitBounds" "high" "D" (.double (own_un x2)) ∧ Fld Z h a1 "com/example/haze_to_match/hazetomatch/UnitBounds" "complementLow" "D" (.double (own_un x3)) ∧ Fld Z h a1 "com/example/haze_to_match/hazetomatch/UnitBounds" "complementHigh" "D" (.double (own_un x4))) ({ frames := 2, cells := 0, slots := 0, locals := 30 } : Room).cells ({ frames := 2, cells := 0, slots := 0, locals := 30 } : Room).slots)
  refine own_special X0 hx hZ (y := (⟨"java/lang/Record", "<init>", "()V"⟩ : MethodName)) rfl hown (hw _ (List.mem_of_getElem? (i := 14) rfl)) (hw _ (List.mem_of_getElem? (i := 15) rfl)) (hw _ (List.mem_of_getElem? (i := 18) rfl)) (hw _ (List.mem_of_getElem? (i := 17) rfl)) (by decide) (a := a1) (W := 0) (own_rm2 l Z a0 hw [] a1 h0 n0 Z0) e0  (pc := 1) (Ls := #[.val (.ref a1), .val (.double x1), .second, .val (.double x2), .second, .val (.double x3), .second, .val (.double x4), .second]) (argsL := []) (rest := []) (by rw [hml]; rfl) (lenOf own_pd1 rfl) rfl (hb hby own_d_prog_70_method_1_code_1) (by decide) (by decide) (by decide) (by decide) ?_
  intro v4 T4 L4 X4 hQ4
  obtain ⟨rfl, N4, e4⟩ := hQ4
  show OGo p e below (T4.setTop (mkF m 4 #[.val (.ref a1), .val (.double x1), .second, .val (.double x2), .second, .val (.double x3), .second, .val (.double x4), .second] [])) (OEnd s (fun v h L => v = none ∧ Fr n0 L ∧ Keep h0 h [a1] ∧ Exa Z h a1 "com/example/haze_to_match/hazetomatch/UnitBounds" ∧ Fld Z h a1 "com/example/haze_to_match/hazetomatch/UnitBounds" "low" "D" (.double (own_un x1)) ∧ Fld Z h a1 "com/example/haze_to_match/hazetomatch/UnitBounds" "high" "D" (.double (own_un x2)) ∧ Fld Z h a1 "com/example/haze_to_match/hazetomatch/UnitBounds" "complementLow" "D" (.double (own_un x3)) ∧ Fld Z h a1 "com/example/haze_to_match/hazetomatch/UnitBounds" "complementHigh" "D" (.double (own_un x4))) ({ frames := 2, cells := 0, slots := 0, locals := 30 } : Room).cells ({ frames := 2, cells := 0, slots := 0, locals := 30 } : Room).slots)
  have Nc4 := Fr.app (Fr.nil n0) N4
  refine OGo.step (fun _ kk => XS.dloadN X4.here hx rfl (hb hby own_d_prog_70_method_1_code_4) rfl kk) ?_
  show OGo p e below (T4.setTop (mkF m 5 #[.val (.ref a1), .val (.double x1), .second, .val (.double x2), .second, .val (.double x3), .second, .val (.double x4), .second] [(.double x1)])) (OEnd s (fun v h L => v = none ∧ Fr n0 L ∧ Keep h0 h [a1] ∧ Exa Z h a1 "com/example/haze_to_match/hazetomatch/UnitBounds" ∧ Fld Z h a1 "com/example/haze_to_match/hazetomatch/UnitBounds" "low" "D" (.double (own_un x1)) ∧ Fld Z h a1 "com/example/haze_to_match/hazetomatch/UnitBounds" "high" "D" (.double (own_un x2)) ∧ Fld Z h a1 "com/example/haze_to_match/hazetomatch/UnitBounds" "complementLow" "D" (.double (own_un x3)) ∧ Fld Z h a1 "com/example/haze_to_match/hazetomatch/UnitBounds" "complementHigh" "D" (.double (own_un x4))) ({ frames := 2, cells := 0, slots := 0, locals := 30 } : Room).cells ({ frames := 2, cells := 0, slots := 0, locals := 30 } : Room).slots)
  refine own_callS X4 hx hZ (y := (⟨"com/example/haze_to_match/hazetomatch/UnitBounds", "unit", "(D)D"⟩ : MethodName)) hown (hw _ (List.mem_of_getElem? (i := 22) rfl)) (hw _ (List.mem_of_getElem? (i := 23) rfl)) (hw _ (List.mem_of_getElem? (i := 6) rfl)) (hw _ (List.mem_of_getElem? (i := 24) rfl)) (by decide) (W := 0) (own_rm8 l Z a0 hw [] x1 h0 n0 Z0 hx1 hy1) e4  (pc := 5) (Ls := #[.val (.ref a1), .val (.double x1), .second, .val (.double x2), .second, .val (.double x3), .second, .val (.double x4), .second]) (argsL := [(.double x1)]) (rest := []) (by rw [hml]; rfl) (lenOf own_pd2 rfl) rfl (hb hby own_d_prog_70_method_1_code_5) (by decide) (by decide) (by decide) (by decide) ?_
  intro v5 T5 L5 X5 hQ5
  obtain ⟨rfl, N5, e5⟩ := hQ5
  show OGo p e below (T5.setTop (mkF m 8 #[.val (.ref a1), .val (.double x1), .second, .val (.double x2), .second, .val (.double x3), .second, .val (.double x4), .second] [(.double (own_un x1))])) (OEnd s (fun v h L => v = none ∧ Fr n0 L ∧ Keep h0 h [a1] ∧ Exa Z h a1 "com/example/haze_to_match/hazetomatch/UnitBounds" ∧ Fld Z h a1 "com/example/haze_to_match/hazetomatch/UnitBounds" "low" "D" (.double (own_un x1)) ∧ Fld Z h a1 "com/example/haze_to_match/hazetomatch/UnitBounds" "high" "D" (.double (own_un x2)) ∧ Fld Z h a1 "com/example/haze_to_match/hazetomatch/UnitBounds" "complementLow" "D" (.double (own_un x3)) ∧ Fld Z h a1 "com/example/haze_to_match/hazetomatch/UnitBounds" "complementHigh" "D" (.double (own_un x4))) ({ frames := 2, cells := 0, slots := 0, locals := 30 } : Room).cells ({ frames := 2, cells := 0, slots := 0, locals := 30 } : Room).slots)
  have Nc5 := Fr.app Nc4 N5
  refine OGo.step (fun _ kk => XS.dstoreN X5.here hx rfl (hb hby own_d_prog_70_method_1_code_8) rfl (l' := #[.val (.ref a1), .val (.double (own_un x1)), .second, .val (.double x2), .second, .val (.double x3), .second, .val (.double x4), .second]) rfl kk) ?_
  show OGo p e below (T5.setTop (mkF m 9 #[.val (.ref a1), .val (.double (own_un x1)), .second, .val (.double x2), .second, .val (.double x3), .second, .val (.double x4), .second] [])) (OEnd s (fun v h L => v = none ∧ Fr n0 L ∧ Keep h0 h [a1] ∧ Exa Z h a1 "com/example/haze_to_match/hazetomatch/UnitBounds" ∧ Fld Z h a1 "com/example/haze_to_match/hazetomatch/UnitBounds" "low" "D" (.double (own_un x1)) ∧ Fld Z h a1 "com/example/haze_to_match/hazetomatch/UnitBounds" "high" "D" (.double (own_un x2)) ∧ Fld Z h a1 "com/example/haze_to_match/hazetomatch/UnitBounds" "complementLow" "D" (.double (own_un x3)) ∧ Fld Z h a1 "com/example/haze_to_match/hazetomatch/UnitBounds" "complementHigh" "D" (.double (own_un x4))) ({ frames := 2, cells := 0, slots := 0, locals := 30 } : Room).cells ({ frames := 2, cells := 0, slots := 0, locals := 30 } : Room).slots)
  refine OGo.step (fun _ kk => XS.dloadN X5.here hx rfl (hb hby own_d_prog_70_method_1_code_9) rfl kk) ?_
  show OGo p e below (T5.setTop (mkF m 10 #[.val (.ref a1), .val (.double (own_un x1)), .second, .val (.double x2), .second, .val (.double x3), .second, .val (.double x4), .second] [(.double x2)])) (OEnd s (fun v h L => v = none ∧ Fr n0 L ∧ Keep h0 h [a1] ∧ Exa Z h a1 "com/example/haze_to_match/hazetomatch/UnitBounds" ∧ Fld Z h a1 "com/example/haze_to_match/hazetomatch/UnitBounds" "low" "D" (.double (own_un x1)) ∧ Fld Z h a1 "com/example/haze_to_match/hazetomatch/UnitBounds" "high" "D" (.double (own_un x2)) ∧ Fld Z h a1 "com/example/haze_to_match/hazetomatch/UnitBounds" "complementLow" "D" (.double (own_un x3)) ∧ Fld Z h a1 "com/example/haze_to_match/hazetomatch/UnitBounds" "complementHigh" "D" (.double (own_un x4))) ({ frames := 2, cells := 0, slots := 0, locals := 30 } : Room).cells ({ frames := 2, cells := 0, slots := 0, locals := 30 } : Room).slots)
  refine own_callS X5 hx hZ (y := (⟨"com/example/haze_to_match/hazetomatch/UnitBounds", "unit", "(D)D"⟩ : MethodName)) hown (hw _ (List.mem_of_getElem? (i := 22) rfl)) (hw _ (List.mem_of_getElem? (i := 23) rfl)) (hw _ (List.mem_of_getElem? (i := 6) rfl)) (hw _ (List.mem_of_getElem? (i := 24) rfl)) (by decide) (W := 0) (own_rm8 l Z a0 hw [] x2 h0 n0 Z0 hx2 hy2) e5  (pc := 10) (Ls := #[.val (.ref a1), .val (.double (own_un x1)), .second, .val (.double x2), .second, .val (.double x3), .second, .val (.double x4), .second]) (argsL := [(.double x2)]) (rest := []) (by rw [hml]; rfl) (lenOf own_pd2 rfl) rfl (hb hby own_d_prog_70_method_1_code_10) (by decide) (by decide) (by decide) (by decide) ?_
  intro v6 T6 L6 X6 hQ6
  obtain ⟨rfl, N6, e6⟩ := hQ6
  show OGo p e below (T6.setTop (mkF m 13 #[.val (.ref a1), .val (.double (own_un x1)), .second, .val (.double x2), .second, .val (.double x3), .second, .val (.double x4), .second] [(.double (own_un x2))])) (OEnd s (fun v h L => v = none ∧ Fr n0 L ∧ Keep h0 h [a1] ∧ Exa Z h a1 "com/example/haze_to_match/hazetomatch/UnitBounds" ∧ Fld Z h a1 "com/example/haze_to_match/hazetomatch/UnitBounds" "low" "D" (.double (own_un x1)) ∧ Fld Z h a1 "com/example/haze_to_match/hazetomatch/UnitBounds" "high" "D" (.double (own_un x2)) ∧ Fld Z h a1 "com/example/haze_to_match/hazetomatch/UnitBounds" "complementLow" "D" (.double (own_un x3)) ∧ Fld Z h a1 "com/example/haze_to_match/hazetomatch/UnitBounds" "complementHigh" "D" (.double (own_un x4))) ({ frames := 2, cells := 0, slots := 0, locals := 30 } : Room).cells ({ frames := 2, cells := 0, slots := 0, locals := 30 } : Room).slots)
  have Nc6 := Fr.app Nc5 N6
  refine OGo.step (fun _ kk => XS.dstoreN X6.here hx rfl (hb hby own_d_prog_70_method_1_code_13) rfl (l' := #[.val (.ref a1), .val (.double (own_un x1)), .second, .val (.double (own_un x2)), .second, .val (.double x3), .second, .val (.double x4), .second]) rfl kk) ?_
  show OGo p e below (T6.setTop (mkF m 14 #[.val (.ref a1), .val (.double (own_un x1)), .second, .val (.double (own_un x2)), .second, .val (.double x3), .second, .val (.double x4), .second] [])) (OEnd s (fun v h L => v = none ∧ Fr n0 L ∧ Keep h0 h [a1] ∧ Exa Z h a1 "com/example/haze_to_match/hazetomatch/UnitBounds" ∧ Fld Z h a1 "com/example/haze_to_match/hazetomatch/UnitBounds" "low" "D" (.double (own_un x1)) ∧ Fld Z h a1 "com/example/haze_to_match/hazetomatch/UnitBounds" "high" "D" (.double (own_un x2)) ∧ Fld Z h a1 "com/example/haze_to_match/hazetomatch/UnitBounds" "complementLow" "D" (.double (own_un x3)) ∧ Fld Z h a1 "com/example/haze_to_match/hazetomatch/UnitBounds" "complementHigh" "D" (.double (own_un x4))) ({ frames := 2, cells := 0, slots := 0, locals := 30 } : Room).cells ({ frames := 2, cells := 0, slots := 0, locals := 30 } : Room).slots)
  refine OGo.step (fun _ kk => XS.dload X6.here hx rfl (hb hby own_d_prog_70_method_1_code_14) rfl kk) ?_
  show OGo p e below (T6.setTop (mkF m 16 #[.val (.ref a1), .val (.double (own_un x1)), .second, .val (.double (own_un x2)), .second, .val (.double x3), .second, .val (.double x4), .second] [(.double x3)])) (OEnd s (fun v h L => v = none ∧ Fr n0 L ∧ Keep h0 h [a1] ∧ Exa Z h a1 "com/example/haze_to_match/hazetomatch/UnitBounds" ∧ Fld Z h a1 "com/example/haze_to_match/hazetomatch/UnitBounds" "low" "D" (.double (own_un x1)) ∧ Fld Z h a1 "com/example/haze_to_match/hazetomatch/UnitBounds" "high" "D" (.double (own_un x2)) ∧ Fld Z h a1 "com/example/haze_to_match/hazetomatch/UnitBounds" "complementLow" "D" (.double (own_un x3)) ∧ Fld Z h a1 "com/example/haze_to_match/hazetomatch/UnitBounds" "complementHigh" "D" (.double (own_un x4))) ({ frames := 2, cells := 0, slots := 0, locals := 30 } : Room).cells ({ frames := 2, cells := 0, slots := 0, locals := 30 } : Room).slots)
  refine own_callS X6 hx hZ (y := (⟨"com/example/haze_to_match/hazetomatch/UnitBounds", "unit", "(D)D"⟩ : MethodName)) hown (hw _ (List.mem_of_getElem? (i := 22) rfl)) (hw _ (List.mem_of_getElem? (i := 23) rfl)) (hw _ (List.mem_of_getElem? (i := 6) rfl)) (hw _ (List.mem_of_getElem? (i := 24) rfl)) (by decide) (W := 0) (own_rm8 l Z a0 hw [] x3 h0 n0 Z0 hx3 hy3) e6  (pc := 16) (Ls := #[.val (.ref a1), .val (.double (own_un x1)), .second, .val (.double (own_un x2)), .second, .val (.double x3), .second, .val (.double x4), .second]) (argsL := [(.double x3)]) (rest := []) (by rw [hml]; rfl) (lenOf own_pd2 rfl) rfl (hb hby own_d_prog_70_method_1_code_16) (by decide) (by decide) (by decide) (by decide) ?_
  intro v7 T7 L7 X7 hQ7
  obtain ⟨rfl, N7, e7⟩ := hQ7
  show OGo p e below (T7.setTop (mkF m 19 #[.val (.ref a1), .val (.double (own_un x1)), .second, .val (.double (own_un x2)), .second, .val (.double x3), .second, .val (.double x4), .second] [(.double (own_un x3))])) (OEnd s (fun v h L => v = none ∧ Fr n0 L ∧ Keep h0 h [a1] ∧ Exa Z h a1 "com/example/haze_to_match/hazetomatch/UnitBounds" ∧ Fld Z h a1 "com/example/haze_to_match/hazetomatch/UnitBounds" "low" "D" (.double (own_un x1)) ∧ Fld Z h a1 "com/example/haze_to_match/hazetomatch/UnitBounds" "high" "D" (.double (own_un x2)) ∧ Fld Z h a1 "com/example/haze_to_match/hazetomatch/UnitBounds" "complementLow" "D" (.double (own_un x3)) ∧ Fld Z h a1 "com/example/haze_to_match/hazetomatch/UnitBounds" "complementHigh" "D" (.double (own_un x4))) ({ frames := 2, cells := 0, slots := 0, locals := 30 } : Room).cells ({ frames := 2, cells := 0, slots := 0, locals := 30 } : Room).slots)
  have Nc7 := Fr.app Nc6 N7
  refine OGo.step (fun _ kk => XS.dstore X7.here hx rfl (hb hby own_d_prog_70_method_1_code_19) rfl (l' := #[.val (.ref a1), .val (.double (own_un x1)), .second, .val (.double (own_un x2)), .second, .val (.double (own_un x3)), .second, .val (.double x4), .second]) rfl kk) ?_
  show OGo p e below (T7.setTop (mkF m 21 #[.val (.ref a1), .val (.double (own_un x1)), .second, .val (.double (own_un x2)), .second, .val (.double (own_un x3)), .second, .val (.double x4), .second] [])) (OEnd s (fun v h L => v = none ∧ Fr n0 L ∧ Keep h0 h [a1] ∧ Exa Z h a1 "com/example/haze_to_match/hazetomatch/UnitBounds" ∧ Fld Z h a1 "com/example/haze_to_match/hazetomatch/UnitBounds" "low" "D" (.double (own_un x1)) ∧ Fld Z h a1 "com/example/haze_to_match/hazetomatch/UnitBounds" "high" "D" (.double (own_un x2)) ∧ Fld Z h a1 "com/example/haze_to_match/hazetomatch/UnitBounds" "complementLow" "D" (.double (own_un x3)) ∧ Fld Z h a1 "com/example/haze_to_match/hazetomatch/UnitBounds" "complementHigh" "D" (.double (own_un x4))) ({ frames := 2, cells := 0, slots := 0, locals := 30 } : Room).cells ({ frames := 2, cells := 0, slots := 0, locals := 30 } : Room).slots)
  refine OGo.step (fun _ kk => XS.dload X7.here hx rfl (hb hby own_d_prog_70_method_1_code_21) rfl kk) ?_
  show OGo p e below (T7.setTop (mkF m 23 #[.val (.ref a1), .val (.double (own_un x1)), .second, .val (.double (own_un x2)), .second, .val (.double (own_un x3)), .second, .val (.double x4), .second] [(.double x4)])) (OEnd s (fun v h L => v = none ∧ Fr n0 L ∧ Keep h0 h [a1] ∧ Exa Z h a1 "com/example/haze_to_match/hazetomatch/UnitBounds" ∧ Fld Z h a1 "com/example/haze_to_match/hazetomatch/UnitBounds" "low" "D" (.double (own_un x1)) ∧ Fld Z h a1 "com/example/haze_to_match/hazetomatch/UnitBounds" "high" "D" (.double (own_un x2)) ∧ Fld Z h a1 "com/example/haze_to_match/hazetomatch/UnitBounds" "complementLow" "D" (.double (own_un x3)) ∧ Fld Z h a1 "com/example/haze_to_match/hazetomatch/UnitBounds" "complementHigh" "D" (.double (own_un x4))) ({ frames := 2, cells := 0, slots := 0, locals := 30 } : Room).cells ({ frames := 2, cells := 0, slots := 0, locals := 30 } : Room).slots)
  refine own_callS X7 hx hZ (y := (⟨"com/example/haze_to_match/hazetomatch/UnitBounds", "unit", "(D)D"⟩ : MethodName)) hown (hw _ (List.mem_of_getElem? (i := 22) rfl)) (hw _ (List.mem_of_getElem? (i := 23) rfl)) (hw _ (List.mem_of_getElem? (i := 6) rfl)) (hw _ (List.mem_of_getElem? (i := 24) rfl)) (by decide) (W := 0) (own_rm8 l Z a0 hw [] x4 h0 n0 Z0 hx4 hy4) e7  (pc := 23) (Ls := #[.val (.ref a1), .val (.double (own_un x1)), .second, .val (.double (own_un x2)), .second, .val (.double (own_un x3)), .second, .val (.double x4), .second]) (argsL := [(.double x4)]) (rest := []) (by rw [hml]; rfl) (lenOf own_pd2 rfl) rfl (hb hby own_d_prog_70_method_1_code_23) (by decide) (by decide) (by decide) (by decide) ?_
  intro v8 T8 L8 X8 hQ8
  obtain ⟨rfl, N8, e8⟩ := hQ8
  show OGo p e below (T8.setTop (mkF m 26 #[.val (.ref a1), .val (.double (own_un x1)), .second, .val (.double (own_un x2)), .second, .val (.double (own_un x3)), .second, .val (.double x4), .second] [(.double (own_un x4))])) (OEnd s (fun v h L => v = none ∧ Fr n0 L ∧ Keep h0 h [a1] ∧ Exa Z h a1 "com/example/haze_to_match/hazetomatch/UnitBounds" ∧ Fld Z h a1 "com/example/haze_to_match/hazetomatch/UnitBounds" "low" "D" (.double (own_un x1)) ∧ Fld Z h a1 "com/example/haze_to_match/hazetomatch/UnitBounds" "high" "D" (.double (own_un x2)) ∧ Fld Z h a1 "com/example/haze_to_match/hazetomatch/UnitBounds" "complementLow" "D" (.double (own_un x3)) ∧ Fld Z h a1 "com/example/haze_to_match/hazetomatch/UnitBounds" "complementHigh" "D" (.double (own_un x4))) ({ frames := 2, cells := 0, slots := 0, locals := 30 } : Room).cells ({ frames := 2, cells := 0, slots := 0, locals := 30 } : Room).slots)
  have Nc8 := Fr.app Nc7 N8
  refine OGo.step (fun _ kk => XS.dstore X8.here hx rfl (hb hby own_d_prog_70_method_1_code_26) rfl (l' := #[.val (.ref a1), .val (.double (own_un x1)), .second, .val (.double (own_un x2)), .second, .val (.double (own_un x3)), .second, .val (.double (own_un x4)), .second]) rfl kk) ?_
  show OGo p e below (T8.setTop (mkF m 28 #[.val (.ref a1), .val (.double (own_un x1)), .second, .val (.double (own_un x2)), .second, .val (.double (own_un x3)), .second, .val (.double (own_un x4)), .second] [])) (OEnd s (fun v h L => v = none ∧ Fr n0 L ∧ Keep h0 h [a1] ∧ Exa Z h a1 "com/example/haze_to_match/hazetomatch/UnitBounds" ∧ Fld Z h a1 "com/example/haze_to_match/hazetomatch/UnitBounds" "low" "D" (.double (own_un x1)) ∧ Fld Z h a1 "com/example/haze_to_match/hazetomatch/UnitBounds" "high" "D" (.double (own_un x2)) ∧ Fld Z h a1 "com/example/haze_to_match/hazetomatch/UnitBounds" "complementLow" "D" (.double (own_un x3)) ∧ Fld Z h a1 "com/example/haze_to_match/hazetomatch/UnitBounds" "complementHigh" "D" (.double (own_un x4))) ({ frames := 2, cells := 0, slots := 0, locals := 30 } : Room).cells ({ frames := 2, cells := 0, slots := 0, locals := 30 } : Room).slots)
  refine OGo.step (fun _ kk => XS.aloadN X8.here hx rfl (hb hby own_d_prog_70_method_1_code_28) rfl rfl kk) ?_
  show OGo p e below (T8.setTop (mkF m 29 #[.val (.ref a1), .val (.double (own_un x1)), .second, .val (.double (own_un x2)), .second, .val (.double (own_un x3)), .second, .val (.double (own_un x4)), .second] [(.ref a1)])) (OEnd s (fun v h L => v = none ∧ Fr n0 L ∧ Keep h0 h [a1] ∧ Exa Z h a1 "com/example/haze_to_match/hazetomatch/UnitBounds" ∧ Fld Z h a1 "com/example/haze_to_match/hazetomatch/UnitBounds" "low" "D" (.double (own_un x1)) ∧ Fld Z h a1 "com/example/haze_to_match/hazetomatch/UnitBounds" "high" "D" (.double (own_un x2)) ∧ Fld Z h a1 "com/example/haze_to_match/hazetomatch/UnitBounds" "complementLow" "D" (.double (own_un x3)) ∧ Fld Z h a1 "com/example/haze_to_match/hazetomatch/UnitBounds" "complementHigh" "D" (.double (own_un x4))) ({ frames := 2, cells := 0, slots := 0, locals := 30 } : Room).cells ({ frames := 2, cells := 0, slots := 0, locals := 30 } : Room).slots)
  refine OGo.step (fun _ kk => XS.dloadN X8.here hx rfl (hb hby own_d_prog_70_method_1_code_29) rfl kk) ?_
  show OGo p e below (T8.setTop (mkF m 30 #[.val (.ref a1), .val (.double (own_un x1)), .second, .val (.double (own_un x2)), .second, .val (.double (own_un x3)), .second, .val (.double (own_un x4)), .second] [(.double (own_un x1)), (.ref a1)])) (OEnd s (fun v h L => v = none ∧ Fr n0 L ∧ Keep h0 h [a1] ∧ Exa Z h a1 "com/example/haze_to_match/hazetomatch/UnitBounds" ∧ Fld Z h a1 "com/example/haze_to_match/hazetomatch/UnitBounds" "low" "D" (.double (own_un x1)) ∧ Fld Z h a1 "com/example/haze_to_match/hazetomatch/UnitBounds" "high" "D" (.double (own_un x2)) ∧ Fld Z h a1 "com/example/haze_to_match/hazetomatch/UnitBounds" "complementLow" "D" (.double (own_un x3)) ∧ Fld Z h a1 "com/example/haze_to_match/hazetomatch/UnitBounds" "complementHigh" "D" (.double (own_un x4))) ({ frames := 2, cells := 0, slots := 0, locals := 30 } : Room).cells ({ frames := 2, cells := 0, slots := 0, locals := 30 } : Room).slots)
  obtain ⟨T9, h9, X9, e9, W9, st9⟩ := putF X8 hx hZ hown (host := "") (Or.inl (hw _ (List.mem_of_getElem? (i := 32) rfl))) Via.refl e8 F_low E1 (Or.inr ⟨(hw _ (List.mem_of_getElem? (i := 33) rfl)), rfl, hnm⟩) (hw _ (List.mem_of_getElem? (i := 5) rfl)) (ty := .double) (by decide) rfl rfl (g := (mkF m 30 #[.val (.ref a1), .val (.double (own_un x1)), .second, .val (.double (own_un x2)), .second, .val (.double (own_un x3)), .second, .val (.double (own_un x4)), .second] [(.double (own_un x1)), (.ref a1)])) rfl rfl (hb hby own_d_prog_70_method_1_code_30)
  refine OGo.step st9 ?_
  show OGo p e below (T9.setTop (mkF m 33 #[.val (.ref a1), .val (.double (own_un x1)), .second, .val (.double (own_un x2)), .second, .val (.double (own_un x3)), .second, .val (.double (own_un x4)), .second] [])) (OEnd s (fun v h L => v = none ∧ Fr n0 L ∧ Keep h0 h [a1] ∧ Exa Z h a1 "com/example/haze_to_match/hazetomatch/UnitBounds" ∧ Fld Z h a1 "com/example/haze_to_match/hazetomatch/UnitBounds" "low" "D" (.double (own_un x1)) ∧ Fld Z h a1 "com/example/haze_to_match/hazetomatch/UnitBounds" "high" "D" (.double (own_un x2)) ∧ Fld Z h a1 "com/example/haze_to_match/hazetomatch/UnitBounds" "complementLow" "D" (.double (own_un x3)) ∧ Fld Z h a1 "com/example/haze_to_match/hazetomatch/UnitBounds" "complementHigh" "D" (.double (own_un x4))) ({ frames := 2, cells := 0, slots := 0, locals := 30 } : Room).cells ({ frames := 2, cells := 0, slots := 0, locals := 30 } : Room).slots)
  have Fw9 := F_low.same W9
  have Nf9 := Fr.snoc X9 Nc8 g1
  have sz9 : n0 ≤ h9.size := by rw [W9.size]; exact Z0
  refine OGo.step (fun _ kk => XS.aloadN X9.here hx rfl (hb hby own_d_prog_70_method_1_code_33) rfl rfl kk) ?_
  show OGo p e below (T9.setTop (mkF m 34 #[.val (.ref a1), .val (.double (own_un x1)), .second, .val (.double (own_un x2)), .second, .val (.double (own_un x3)), .second, .val (.double (own_un x4)), .second] [(.ref a1)])) (OEnd s (fun v h L => v = none ∧ Fr n0 L ∧ Keep h0 h [a1] ∧ Exa Z h a1 "com/example/haze_to_match/hazetomatch/UnitBounds" ∧ Fld Z h a1 "com/example/haze_to_match/hazetomatch/UnitBounds" "low" "D" (.double (own_un x1)) ∧ Fld Z h a1 "com/example/haze_to_match/hazetomatch/UnitBounds" "high" "D" (.double (own_un x2)) ∧ Fld Z h a1 "com/example/haze_to_match/hazetomatch/UnitBounds" "complementLow" "D" (.double (own_un x3)) ∧ Fld Z h a1 "com/example/haze_to_match/hazetomatch/UnitBounds" "complementHigh" "D" (.double (own_un x4))) ({ frames := 2, cells := 0, slots := 0, locals := 30 } : Room).cells ({ frames := 2, cells := 0, slots := 0, locals := 30 } : Room).slots)
  refine OGo.step (fun _ kk => XS.dloadN X9.here hx rfl (hb hby own_d_prog_70_method_1_code_34) rfl kk) ?_
  show OGo p e below (T9.setTop (mkF m 35 #[.val (.ref a1), .val (.double (own_un x1)), .second, .val (.double (own_un x2)), .second, .val (.double (own_un x3)), .second, .val (.double (own_un x4)), .second] [(.double (own_un x2)), (.ref a1)])) (OEnd s (fun v h L => v = none ∧ Fr n0 L ∧ Keep h0 h [a1] ∧ Exa Z h a1 "com/example/haze_to_match/hazetomatch/UnitBounds" ∧ Fld Z h a1 "com/example/haze_to_match/hazetomatch/UnitBounds" "low" "D" (.double (own_un x1)) ∧ Fld Z h a1 "com/example/haze_to_match/hazetomatch/UnitBounds" "high" "D" (.double (own_un x2)) ∧ Fld Z h a1 "com/example/haze_to_match/hazetomatch/UnitBounds" "complementLow" "D" (.double (own_un x3)) ∧ Fld Z h a1 "com/example/haze_to_match/hazetomatch/UnitBounds" "complementHigh" "D" (.double (own_un x4))) ({ frames := 2, cells := 0, slots := 0, locals := 30 } : Room).cells ({ frames := 2, cells := 0, slots := 0, locals := 30 } : Room).slots)
  have fc10 := (F_high.other W9 (Or.inr (slot_ne (Or.inr (hw _ (List.mem_of_getElem? (i := 35) rfl))) (Or.inr (hw _ (List.mem_of_getElem? (i := 33) rfl))) (by decide) (t := .double) (t' := .double) (by decide) (by decide))))
  have fc11 := (E1.wr W9)
  obtain ⟨T12, h12, X12, e12, W12, st12⟩ := putF X9 hx hZ hown (host := "") (Or.inl (hw _ (List.mem_of_getElem? (i := 34) rfl))) Via.refl e9 fc10 fc11 (Or.inr ⟨(hw _ (List.mem_of_getElem? (i := 35) rfl)), rfl, hnm⟩) (hw _ (List.mem_of_getElem? (i := 5) rfl)) (ty := .double) (by decide) rfl rfl (g := (mkF m 35 #[.val (.ref a1), .val (.double (own_un x1)), .second, .val (.double (own_un x2)), .second, .val (.double (own_un x3)), .second, .val (.double (own_un x4)), .second] [(.double (own_un x2)), (.ref a1)])) rfl rfl (hb hby own_d_prog_70_method_1_code_35)
  refine OGo.step st12 ?_
  show OGo p e below (T12.setTop (mkF m 38 #[.val (.ref a1), .val (.double (own_un x1)), .second, .val (.double (own_un x2)), .second, .val (.double (own_un x3)), .second, .val (.double (own_un x4)), .second] [])) (OEnd s (fun v h L => v = none ∧ Fr n0 L ∧ Keep h0 h [a1] ∧ Exa Z h a1 "com/example/haze_to_match/hazetomatch/UnitBounds" ∧ Fld Z h a1 "com/example/haze_to_match/hazetomatch/UnitBounds" "low" "D" (.double (own_un x1)) ∧ Fld Z h a1 "com/example/haze_to_match/hazetomatch/UnitBounds" "high" "D" (.double (own_un x2)) ∧ Fld Z h a1 "com/example/haze_to_match/hazetomatch/UnitBounds" "complementLow" "D" (.double (own_un x3)) ∧ Fld Z h a1 "com/example/haze_to_match/hazetomatch/UnitBounds" "complementHigh" "D" (.double (own_un x4))) ({ frames := 2, cells := 0, slots := 0, locals := 30 } : Room).cells ({ frames := 2, cells := 0, slots := 0, locals := 30 } : Room).slots)
  have Fw12 := fc10.same W12
  have Nf12 := Fr.snoc X12 Nf9 g1
  have sz12 : n0 ≤ h12.size := by rw [W12.size]; exact sz9
  refine OGo.step (fun _ kk => XS.aloadN X12.here hx rfl (hb hby own_d_prog_70_method_1_code_38) rfl rfl kk) ?_
  show OGo p e below (T12.setTop (mkF m 39 #[.val (.ref a1), .val (.double (own_un x1)), .second, .val (.double (own_un x2)), .second, .val (.double (own_un x3)), .second, .val (.double (own_un x4)), .second] [(.ref a1)])) (OEnd s (fun v h L => v = none ∧ Fr n0 L ∧ Keep h0 h [a1] ∧ Exa Z h a1 "com/example/haze_to_match/hazetomatch/UnitBounds" ∧ Fld Z h a1 "com/example/haze_to_match/hazetomatch/UnitBounds" "low" "D" (.double (own_un x1)) ∧ Fld Z h a1 "com/example/haze_to_match/hazetomatch/UnitBounds" "high" "D" (.double (own_un x2)) ∧ Fld Z h a1 "com/example/haze_to_match/hazetomatch/UnitBounds" "complementLow" "D" (.double (own_un x3)) ∧ Fld Z h a1 "com/example/haze_to_match/hazetomatch/UnitBounds" "complementHigh" "D" (.double (own_un x4))) ({ frames := 2, cells := 0, slots := 0, locals := 30 } : Room).cells ({ frames := 2, cells := 0, slots := 0, locals := 30 } : Room).slots)
  refine OGo.step (fun _ kk => XS.dload X12.here hx rfl (hb hby own_d_prog_70_method_1_code_39) rfl kk) ?_
  show OGo p e below (T12.setTop (mkF m 41 #[.val (.ref a1), .val (.double (own_un x1)), .second, .val (.double (own_un x2)), .second, .val (.double (own_un x3)), .second, .val (.double (own_un x4)), .second] [(.double (own_un x3)), (.ref a1)])) (OEnd s (fun v h L => v = none ∧ Fr n0 L ∧ Keep h0 h [a1] ∧ Exa Z h a1 "com/example/haze_to_match/hazetomatch/UnitBounds" ∧ Fld Z h a1 "com/example/haze_to_match/hazetomatch/UnitBounds" "low" "D" (.double (own_un x1)) ∧ Fld Z h a1 "com/example/haze_to_match/hazetomatch/UnitBounds" "high" "D" (.double (own_un x2)) ∧ Fld Z h a1 "com/example/haze_to_match/hazetomatch/UnitBounds" "complementLow" "D" (.double (own_un x3)) ∧ Fld Z h a1 "com/example/haze_to_match/hazetomatch/UnitBounds" "complementHigh" "D" (.double (own_un x4))) ({ frames := 2, cells := 0, slots := 0, locals := 30 } : Room).cells ({ frames := 2, cells := 0, slots := 0, locals := 30 } : Room).slots)
  have fc13 := ((F_complementLow.other W9 (Or.inr (slot_ne (Or.inr (hw _ (List.mem_of_getElem? (i := 37) rfl))) (Or.inr (hw _ (List.mem_of_getElem? (i := 33) rfl))) (by decide) (t := .double) (t' := .double) (by decide) (by decide)))).other W12 (Or.inr (slot_ne (Or.inr (hw _ (List.mem_of_getElem? (i := 37) rfl))) (Or.inr (hw _ (List.mem_of_getElem? (i := 35) rfl))) (by decide) (t := .double) (t' := .double) (by decide) (by decide))))
  have fc14 := (fc11.wr W12)
  obtain ⟨T15, h15, X15, e15, W15, st15⟩ := putF X12 hx hZ hown (host := "") (Or.inl (hw _ (List.mem_of_getElem? (i := 36) rfl))) Via.refl e12 fc13 fc14 (Or.inr ⟨(hw _ (List.mem_of_getElem? (i := 37) rfl)), rfl, hnm⟩) (hw _ (List.mem_of_getElem? (i := 5) rfl)) (ty := .double) (by decide) rfl rfl (g := (mkF m 41 #[.val (.ref a1), .val (.double (own_un x1)), .second, .val (.double (own_un x2)), .second, .val (.double (own_un x3)), .second, .val (.double (own_un x4)), .second] [(.double (own_un x3)), (.ref a1)])) rfl rfl (hb hby own_d_prog_70_method_1_code_41)
  refine OGo.step st15 ?_
  show OGo p e below (T15.setTop (mkF m 44 #[.val (.ref a1), .val (.double (own_un x1)), .second, .val (.double (own_un x2)), .second, .val (.double (own_un x3)), .second, .val (.double (own_un x4)), .second] [])) (OEnd s (fun v h L => v = none ∧ Fr n0 L ∧ Keep h0 h [a1] ∧ Exa Z h a1 "com/example/haze_to_match/hazetomatch/UnitBounds" ∧ Fld Z h a1 "com/example/haze_to_match/hazetomatch/UnitBounds" "low" "D" (.double (own_un x1)) ∧ Fld Z h a1 "com/example/haze_to_match/hazetomatch/UnitBounds" "high" "D" (.double (own_un x2)) ∧ Fld Z h a1 "com/example/haze_to_match/hazetomatch/UnitBounds" "complementLow" "D" (.double (own_un x3)) ∧ Fld Z h a1 "com/example/haze_to_match/hazetomatch/UnitBounds" "complementHigh" "D" (.double (own_un x4))) ({ frames := 2, cells := 0, slots := 0, locals := 30 } : Room).cells ({ frames := 2, cells := 0, slots := 0, locals := 30 } : Room).slots)
  have Fw15 := fc13.same W15
  have Nf15 := Fr.snoc X15 Nf12 g1
  have sz15 : n0 ≤ h15.size := by rw [W15.size]; exact sz12
  refine OGo.step (fun _ kk => XS.aloadN X15.here hx rfl (hb hby own_d_prog_70_method_1_code_44) rfl rfl kk) ?_
  show OGo p e below (T15.setTop (mkF m 45 #[.val (.ref a1), .val (.double (own_un x1)), .second, .val (.double (own_un x2)), .second, .val (.double (own_un x3)), .second, .val (.double (own_un x4)), .second] [(.ref a1)])) (OEnd s (fun v h L => v = none ∧ Fr n0 L ∧ Keep h0 h [a1] ∧ Exa Z h a1 "com/example/haze_to_match/hazetomatch/UnitBounds" ∧ Fld Z h a1 "com/example/haze_to_match/hazetomatch/UnitBounds" "low" "D" (.double (own_un x1)) ∧ Fld Z h a1 "com/example/haze_to_match/hazetomatch/UnitBounds" "high" "D" (.double (own_un x2)) ∧ Fld Z h a1 "com/example/haze_to_match/hazetomatch/UnitBounds" "complementLow" "D" (.double (own_un x3)) ∧ Fld Z h a1 "com/example/haze_to_match/hazetomatch/UnitBounds" "complementHigh" "D" (.double (own_un x4))) ({ frames := 2, cells := 0, slots := 0, locals := 30 } : Room).cells ({ frames := 2, cells := 0, slots := 0, locals := 30 } : Room).slots)
  refine OGo.step (fun _ kk => XS.dload X15.here hx rfl (hb hby own_d_prog_70_method_1_code_45) rfl kk) ?_
  show OGo p e below (T15.setTop (mkF m 47 #[.val (.ref a1), .val (.double (own_un x1)), .second, .val (.double (own_un x2)), .second, .val (.double (own_un x3)), .second, .val (.double (own_un x4)), .second] [(.double (own_un x4)), (.ref a1)])) (OEnd s (fun v h L => v = none ∧ Fr n0 L ∧ Keep h0 h [a1] ∧ Exa Z h a1 "com/example/haze_to_match/hazetomatch/UnitBounds" ∧ Fld Z h a1 "com/example/haze_to_match/hazetomatch/UnitBounds" "low" "D" (.double (own_un x1)) ∧ Fld Z h a1 "com/example/haze_to_match/hazetomatch/UnitBounds" "high" "D" (.double (own_un x2)) ∧ Fld Z h a1 "com/example/haze_to_match/hazetomatch/UnitBounds" "complementLow" "D" (.double (own_un x3)) ∧ Fld Z h a1 "com/example/haze_to_match/hazetomatch/UnitBounds" "complementHigh" "D" (.double (own_un x4))) ({ frames := 2, cells := 0, slots := 0, locals := 30 } : Room).cells ({ frames := 2, cells := 0, slots := 0, locals := 30 } : Room).slots)
  have fc16 := (((F_complementHigh.other W9 (Or.inr (slot_ne (Or.inr (hw _ (List.mem_of_getElem? (i := 39) rfl))) (Or.inr (hw _ (List.mem_of_getElem? (i := 33) rfl))) (by decide) (t := .double) (t' := .double) (by decide) (by decide)))).other W12 (Or.inr (slot_ne (Or.inr (hw _ (List.mem_of_getElem? (i := 39) rfl))) (Or.inr (hw _ (List.mem_of_getElem? (i := 35) rfl))) (by decide) (t := .double) (t' := .double) (by decide) (by decide)))).other W15 (Or.inr (slot_ne (Or.inr (hw _ (List.mem_of_getElem? (i := 39) rfl))) (Or.inr (hw _ (List.mem_of_getElem? (i := 37) rfl))) (by decide) (t := .double) (t' := .double) (by decide) (by decide))))
  have fc17 := (fc14.wr W15)
  obtain ⟨T18, h18, X18, e18, W18, st18⟩ := putF X15 hx hZ hown (host := "") (Or.inl (hw _ (List.mem_of_getElem? (i := 38) rfl))) Via.refl e15 fc16 fc17 (Or.inr ⟨(hw _ (List.mem_of_getElem? (i := 39) rfl)), rfl, hnm⟩) (hw _ (List.mem_of_getElem? (i := 5) rfl)) (ty := .double) (by decide) rfl rfl (g := (mkF m 47 #[.val (.ref a1), .val (.double (own_un x1)), .second, .val (.double (own_un x2)), .second, .val (.double (own_un x3)), .second, .val (.double (own_un x4)), .second] [(.double (own_un x4)), (.ref a1)])) rfl rfl (hb hby own_d_prog_70_method_1_code_47)
  refine OGo.step st18 ?_
  show OGo p e below (T18.setTop (mkF m 50 #[.val (.ref a1), .val (.double (own_un x1)), .second, .val (.double (own_un x2)), .second, .val (.double (own_un x3)), .second, .val (.double (own_un x4)), .second] [])) (OEnd s (fun v h L => v = none ∧ Fr n0 L ∧ Keep h0 h [a1] ∧ Exa Z h a1 "com/example/haze_to_match/hazetomatch/UnitBounds" ∧ Fld Z h a1 "com/example/haze_to_match/hazetomatch/UnitBounds" "low" "D" (.double (own_un x1)) ∧ Fld Z h a1 "com/example/haze_to_match/hazetomatch/UnitBounds" "high" "D" (.double (own_un x2)) ∧ Fld Z h a1 "com/example/haze_to_match/hazetomatch/UnitBounds" "complementLow" "D" (.double (own_un x3)) ∧ Fld Z h a1 "com/example/haze_to_match/hazetomatch/UnitBounds" "complementHigh" "D" (.double (own_un x4))) ({ frames := 2, cells := 0, slots := 0, locals := 30 } : Room).cells ({ frames := 2, cells := 0, slots := 0, locals := 30 } : Room).slots)
  have Fw18 := fc16.same W18
  have Nf18 := Fr.snoc X18 Nf15 g1
  have sz18 : n0 ≤ h18.size := by rw [W18.size]; exact sz15
  have fc19 := (((Fw9.other W12 (Or.inr (slot_ne (Or.inr (hw _ (List.mem_of_getElem? (i := 33) rfl))) (Or.inr (hw _ (List.mem_of_getElem? (i := 35) rfl))) (by decide) (t := .double) (t' := .double) (by decide) (by decide)))).other W15 (Or.inr (slot_ne (Or.inr (hw _ (List.mem_of_getElem? (i := 33) rfl))) (Or.inr (hw _ (List.mem_of_getElem? (i := 37) rfl))) (by decide) (t := .double) (t' := .double) (by decide) (by decide)))).other W18 (Or.inr (slot_ne (Or.inr (hw _ (List.mem_of_getElem? (i := 33) rfl))) (Or.inr (hw _ (List.mem_of_getElem? (i := 39) rfl))) (by decide) (t := .double) (t' := .double) (by decide) (by decide))))
  have fc20 := ((Fw12.other W15 (Or.inr (slot_ne (Or.inr (hw _ (List.mem_of_getElem? (i := 35) rfl))) (Or.inr (hw _ (List.mem_of_getElem? (i := 37) rfl))) (by decide) (t := .double) (t' := .double) (by decide) (by decide)))).other W18 (Or.inr (slot_ne (Or.inr (hw _ (List.mem_of_getElem? (i := 35) rfl))) (Or.inr (hw _ (List.mem_of_getElem? (i := 39) rfl))) (by decide) (t := .double) (t' := .double) (by decide) (by decide))))
  have fc21 := (Fw15.other W18 (Or.inr (slot_ne (Or.inr (hw _ (List.mem_of_getElem? (i := 37) rfl))) (Or.inr (hw _ (List.mem_of_getElem? (i := 39) rfl))) (by decide) (t := .double) (t' := .double) (by decide) (by decide))))
  have fc22 := (fc17.wr W18)
  exact own_ret0 X18 hx hlk hret (hb hby own_d_prog_70_method_1_code_50) (by rw [e18]; exact ⟨rfl, Nf18, (((((Keep.refl h0 [a1]).wr W9 (Or.inl (List.mem_of_getElem? (i := 0) rfl))).wr W12 (Or.inl (List.mem_of_getElem? (i := 0) rfl))).wr W15 (Or.inl (List.mem_of_getElem? (i := 0) rfl))).wr W18 (Or.inl (List.mem_of_getElem? (i := 0) rfl))), fc22, fc19, fc20, fc21, Fw18⟩) (by decide) (by decide)

set_option maxRecDepth 65536 in
set_option maxHeartbeats 40000000 in
theorem own_rmin (l : Launch) (Z : State) (a0 : Array Value) (hw : ∀ d ∈ tables_1, d.before a0 Z = true) (ws : List Jvm.Cond) (p1 p2 : Int32) (h0 : Heap) (n0 : Nat) (Z0 : n0 ≤ h0.size)  :
    OMet l Z (⟨"java/lang/Math", "min", "(II)I"⟩ : MethodName) jdk_29_method_69_code 2 (some .int) ws ({ frames := 0, cells := 0, slots := 0, locals := 0 } : Room) #[(.int p1), (.int p2)] h0 (fun v h L => v = some (.int (if p2 < p1 then p2 else p1)) ∧ Fr n0 L ∧ h = h0) := by
  refine OMet.body (Jvm.Free.JP.mathPlain rfl (by decide +kernel)) ?_
  intro p e s m below meth c s₁ hx hby hml hown hnm hret hlk hZ X0 e0
  refine OGo.step (fun _ kk => castTop (show entryFrame m #[(.int p1), (.int p2)] 2 = (mkF m 0 #[.val (.int p1), .val (.int p2)] []) from by first | (simp [entryFrame, mkF, argsToLocals, Value.category]; done) | rfl) kk) ?_
  show OGo p e below (s₁.setTop (mkF m 0 #[.val (.int p1), .val (.int p2)] [])) (OEnd s (fun v h L => v = some (.int (if p2 < p1 then p2 else p1)) ∧ Fr n0 L ∧ h = h0) ({ frames := 0, cells := 0, slots := 0, locals := 0 } : Room).cells ({ frames := 0, cells := 0, slots := 0, locals := 0 } : Room).slots)
  have N0 := Fr.nil n0
  refine OGo.step (fun _ kk => XS.iloadN X0.here hx rfl (hb hby own_d_jdk_29_method_69_code_0) rfl kk) ?_
  show OGo p e below (s₁.setTop (mkF m 1 #[.val (.int p1), .val (.int p2)] [(.int p1)])) (OEnd s (fun v h L => v = some (.int (if p2 < p1 then p2 else p1)) ∧ Fr n0 L ∧ h = h0) ({ frames := 0, cells := 0, slots := 0, locals := 0 } : Room).cells ({ frames := 0, cells := 0, slots := 0, locals := 0 } : Room).slots)
  refine OGo.step (fun _ kk => XS.iloadN X0.here hx rfl (hb hby own_d_jdk_29_method_69_code_1) rfl kk) ?_
  show OGo p e below (s₁.setTop (mkF m 2 #[.val (.int p1), .val (.int p2)] [(.int p2), (.int p1)])) (OEnd s (fun v h L => v = some (.int (if p2 < p1 then p2 else p1)) ∧ Fr n0 L ∧ h = h0) ({ frames := 0, cells := 0, slots := 0, locals := 0 } : Room).cells ({ frames := 0, cells := 0, slots := 0, locals := 0 } : Room).slots)
  by_cases hh : p2 < p1
  · refine OGo.step (fun _ kk => XS.icmpYes X0.here hx rfl (pc0 := 2) (pc' := 9) rfl (hb hby own_d_jdk_29_method_69_code_2) rfl (tlt hh).2.2.1 (by decide) (by decide) kk) ?_
    show OGo p e below (s₁.setTop (mkF m 9 #[.val (.int p1), .val (.int p2)] [])) (OEnd s (fun v h L => v = some (.int (if p2 < p1 then p2 else p1)) ∧ Fr n0 L ∧ h = h0) ({ frames := 0, cells := 0, slots := 0, locals := 0 } : Room).cells ({ frames := 0, cells := 0, slots := 0, locals := 0 } : Room).slots)
    refine OGo.step (fun _ kk => XS.iloadN X0.here hx rfl (hb hby own_d_jdk_29_method_69_code_9) rfl kk) ?_
    show OGo p e below (s₁.setTop (mkF m 10 #[.val (.int p1), .val (.int p2)] [(.int p2)])) (OEnd s (fun v h L => v = some (.int (if p2 < p1 then p2 else p1)) ∧ Fr n0 L ∧ h = h0) ({ frames := 0, cells := 0, slots := 0, locals := 0 } : Room).cells ({ frames := 0, cells := 0, slots := 0, locals := 0 } : Room).slots)
    exact own_ret X0 hx hlk hret rfl (Or.inl ⟨rfl, Or.inl rfl, _, rfl⟩) (hb hby own_d_jdk_29_method_69_code_10) ⟨by rw [if_pos hh], N0, e0⟩ (by decide) (by decide)
  · refine OGo.step (fun _ kk => XS.icmpNo X0.here hx rfl (hb hby own_d_jdk_29_method_69_code_2) rfl (flt hh).2.2.1 kk) ?_
    show OGo p e below (s₁.setTop (mkF m 5 #[.val (.int p1), .val (.int p2)] [])) (OEnd s (fun v h L => v = some (.int (if p2 < p1 then p2 else p1)) ∧ Fr n0 L ∧ h = h0) ({ frames := 0, cells := 0, slots := 0, locals := 0 } : Room).cells ({ frames := 0, cells := 0, slots := 0, locals := 0 } : Room).slots)
    refine OGo.step (fun _ kk => XS.iloadN X0.here hx rfl (hb hby own_d_jdk_29_method_69_code_5) rfl kk) ?_
    show OGo p e below (s₁.setTop (mkF m 6 #[.val (.int p1), .val (.int p2)] [(.int p1)])) (OEnd s (fun v h L => v = some (.int (if p2 < p1 then p2 else p1)) ∧ Fr n0 L ∧ h = h0) ({ frames := 0, cells := 0, slots := 0, locals := 0 } : Room).cells ({ frames := 0, cells := 0, slots := 0, locals := 0 } : Room).slots)
    refine OGo.step (fun _ kk => XS.goto X0.here hx rfl (pc0 := 6) (pc' := 10) rfl (hb hby own_d_jdk_29_method_69_code_6) (by decide) (by decide) kk) ?_
    show OGo p e below (s₁.setTop (mkF m 10 #[.val (.int p1), .val (.int p2)] [(.int p1)])) (OEnd s (fun v h L => v = some (.int (if p2 < p1 then p2 else p1)) ∧ Fr n0 L ∧ h = h0) ({ frames := 0, cells := 0, slots := 0, locals := 0 } : Room).cells ({ frames := 0, cells := 0, slots := 0, locals := 0 } : Room).slots)
    exact own_ret X0 hx hlk hret rfl (Or.inl ⟨rfl, Or.inl rfl, _, rfl⟩) (hb hby own_d_jdk_29_method_69_code_10) ⟨by rw [if_neg hh], N0, e0⟩ (by decide) (by decide)

set_option maxRecDepth 65536 in
set_option maxHeartbeats 40000000 in
theorem own_rmax (l : Launch) (Z : State) (a0 : Array Value) (hw : ∀ d ∈ tables_1, d.before a0 Z = true) (ws : List Jvm.Cond) (p1 p2 : Int32) (h0 : Heap) (n0 : Nat) (Z0 : n0 ≤ h0.size)  :
    OMet l Z (⟨"java/lang/Math", "max", "(II)I"⟩ : MethodName) jdk_29_method_65_code 2 (some .int) ws ({ frames := 0, cells := 0, slots := 0, locals := 0 } : Room) #[(.int p1), (.int p2)] h0 (fun v h L => v = some (.int (if p1 < p2 then p2 else p1)) ∧ Fr n0 L ∧ h = h0) := by
  refine OMet.body (Jvm.Free.JP.mathPlain rfl (by decide +kernel)) ?_
  intro p e s m below meth c s₁ hx hby hml hown hnm hret hlk hZ X0 e0
  refine OGo.step (fun _ kk => castTop (show entryFrame m #[(.int p1), (.int p2)] 2 = (mkF m 0 #[.val (.int p1), .val (.int p2)] []) from by first | (simp [entryFrame, mkF, argsToLocals, Value.category]; done) | rfl) kk) ?_
  show OGo p e below (s₁.setTop (mkF m 0 #[.val (.int p1), .val (.int p2)] [])) (OEnd s (fun v h L => v = some (.int (if p1 < p2 then p2 else p1)) ∧ Fr n0 L ∧ h = h0) ({ frames := 0, cells := 0, slots := 0, locals := 0 } : Room).cells ({ frames := 0, cells := 0, slots := 0, locals := 0 } : Room).slots)
  have N0 := Fr.nil n0
  refine OGo.step (fun _ kk => XS.iloadN X0.here hx rfl (hb hby own_d_jdk_29_method_65_code_0) rfl kk) ?_
  show OGo p e below (s₁.setTop (mkF m 1 #[.val (.int p1), .val (.int p2)] [(.int p1)])) (OEnd s (fun v h L => v = some (.int (if p1 < p2 then p2 else p1)) ∧ Fr n0 L ∧ h = h0) ({ frames := 0, cells := 0, slots := 0, locals := 0 } : Room).cells ({ frames := 0, cells := 0, slots := 0, locals := 0 } : Room).slots)
  refine OGo.step (fun _ kk => XS.iloadN X0.here hx rfl (hb hby own_d_jdk_29_method_65_code_1) rfl kk) ?_
  show OGo p e below (s₁.setTop (mkF m 2 #[.val (.int p1), .val (.int p2)] [(.int p2), (.int p1)])) (OEnd s (fun v h L => v = some (.int (if p1 < p2 then p2 else p1)) ∧ Fr n0 L ∧ h = h0) ({ frames := 0, cells := 0, slots := 0, locals := 0 } : Room).cells ({ frames := 0, cells := 0, slots := 0, locals := 0 } : Room).slots)
  by_cases hh : p1 < p2
  · refine OGo.step (fun _ kk => XS.icmpYes X0.here hx rfl (pc0 := 2) (pc' := 9) rfl (hb hby own_d_jdk_29_method_65_code_2) rfl (tlt hh).1 (by decide) (by decide) kk) ?_
    show OGo p e below (s₁.setTop (mkF m 9 #[.val (.int p1), .val (.int p2)] [])) (OEnd s (fun v h L => v = some (.int (if p1 < p2 then p2 else p1)) ∧ Fr n0 L ∧ h = h0) ({ frames := 0, cells := 0, slots := 0, locals := 0 } : Room).cells ({ frames := 0, cells := 0, slots := 0, locals := 0 } : Room).slots)
    refine OGo.step (fun _ kk => XS.iloadN X0.here hx rfl (hb hby own_d_jdk_29_method_65_code_9) rfl kk) ?_
    show OGo p e below (s₁.setTop (mkF m 10 #[.val (.int p1), .val (.int p2)] [(.int p2)])) (OEnd s (fun v h L => v = some (.int (if p1 < p2 then p2 else p1)) ∧ Fr n0 L ∧ h = h0) ({ frames := 0, cells := 0, slots := 0, locals := 0 } : Room).cells ({ frames := 0, cells := 0, slots := 0, locals := 0 } : Room).slots)
    exact own_ret X0 hx hlk hret rfl (Or.inl ⟨rfl, Or.inl rfl, _, rfl⟩) (hb hby own_d_jdk_29_method_65_code_10) ⟨by rw [if_pos hh], N0, e0⟩ (by decide) (by decide)
  · refine OGo.step (fun _ kk => XS.icmpNo X0.here hx rfl (hb hby own_d_jdk_29_method_65_code_2) rfl (flt hh).1 kk) ?_
    show OGo p e below (s₁.setTop (mkF m 5 #[.val (.int p1), .val (.int p2)] [])) (OEnd s (fun v h L => v = some (.int (if p1 < p2 then p2 else p1)) ∧ Fr n0 L ∧ h = h0) ({ frames := 0, cells := 0, slots := 0, locals := 0 } : Room).cells ({ frames := 0, cells := 0, slots := 0, locals := 0 } : Room).slots)
    refine OGo.step (fun _ kk => XS.iloadN X0.here hx rfl (hb hby own_d_jdk_29_method_65_code_5) rfl kk) ?_
    show OGo p e below (s₁.setTop (mkF m 6 #[.val (.int p1), .val (.int p2)] [(.int p1)])) (OEnd s (fun v h L => v = some (.int (if p1 < p2 then p2 else p1)) ∧ Fr n0 L ∧ h = h0) ({ frames := 0, cells := 0, slots := 0, locals := 0 } : Room).cells ({ frames := 0, cells := 0, slots := 0, locals := 0 } : Room).slots)
    refine OGo.step (fun _ kk => XS.goto X0.here hx rfl (pc0 := 6) (pc' := 10) rfl (hb hby own_d_jdk_29_method_65_code_6) (by decide) (by decide) kk) ?_
    show OGo p e below (s₁.setTop (mkF m 10 #[.val (.int p1), .val (.int p2)] [(.int p1)])) (OEnd s (fun v h L => v = some (.int (if p1 < p2 then p2 else p1)) ∧ Fr n0 L ∧ h = h0) ({ frames := 0, cells := 0, slots := 0, locals := 0 } : Room).cells ({ frames := 0, cells := 0, slots := 0, locals := 0 } : Room).slots)
    exact own_ret X0 hx hlk hret rfl (Or.inl ⟨rfl, Or.inl rfl, _, rfl⟩) (hb hby own_d_jdk_29_method_65_code_10) ⟨by rw [if_neg hh], N0, e0⟩ (by decide) (by decide)

set_option maxRecDepth 65536 in
set_option maxHeartbeats 40000000 in
theorem own_rm4 (l : Launch) (Z : State) (a0 : Array Value) (hw : ∀ d ∈ tables_1, d.before a0 Z = true) (ws : List Jvm.Cond) (p1 : Int32) (h0 : Heap) (n0 : Nat) (Z0 : n0 ≤ h0.size)  :
    OMet l Z (⟨"com/example/haze_to_match/hazetomatch/UnitBoundsIsBelowPinLaw", "clamp", "(I)I"⟩ : MethodName) method_4_code 1 (some .int) ws ({ frames := 1, cells := 0, slots := 0, locals := 14 } : Room) #[(.int p1)] h0 (fun v h L => v = some (.int (own_cl p1)) ∧ Fr n0 L ∧ h = h0) := by
  refine OMet.body (plainFor_of_name own_pn0) ?_
  intro p e s m below meth c s₁ hx hby hml hown hnm hret hlk hZ X0 e0
  refine OGo.step (fun _ kk => castTop (show entryFrame m #[(.int p1)] 1 = (mkF m 0 #[.val (.int p1)] []) from by first | (simp [entryFrame, mkF, argsToLocals, Value.category]; done) | rfl) kk) ?_
  show OGo p e below (s₁.setTop (mkF m 0 #[.val (.int p1)] [])) (OEnd s (fun v h L => v = some (.int (own_cl p1)) ∧ Fr n0 L ∧ h = h0) ({ frames := 1, cells := 0, slots := 0, locals := 14 } : Room).cells ({ frames := 1, cells := 0, slots := 0, locals := 14 } : Room).slots)
  refine OGo.step (fun _ kk => XS.iconst X0.here hx rfl (hb hby own_d_method_4_code_0) kk) ?_
  show OGo p e below (s₁.setTop (mkF m 1 #[.val (.int p1)] [(.int (0 : Int32))])) (OEnd s (fun v h L => v = some (.int (own_cl p1)) ∧ Fr n0 L ∧ h = h0) ({ frames := 1, cells := 0, slots := 0, locals := 14 } : Room).cells ({ frames := 1, cells := 0, slots := 0, locals := 14 } : Room).slots)
  refine OGo.step (fun _ kk => XS.bipush X0.here hx rfl (hb hby own_d_method_4_code_1) kk) ?_
  show OGo p e below (s₁.setTop (mkF m 3 #[.val (.int p1)] [(.int (16 : Int32)), (.int (0 : Int32))])) (OEnd s (fun v h L => v = some (.int (own_cl p1)) ∧ Fr n0 L ∧ h = h0) ({ frames := 1, cells := 0, slots := 0, locals := 14 } : Room).cells ({ frames := 1, cells := 0, slots := 0, locals := 14 } : Room).slots)
  refine OGo.step (fun _ kk => XS.iloadN X0.here hx rfl (hb hby own_d_method_4_code_3) rfl kk) ?_
  show OGo p e below (s₁.setTop (mkF m 4 #[.val (.int p1)] [(.int p1), (.int (16 : Int32)), (.int (0 : Int32))])) (OEnd s (fun v h L => v = some (.int (own_cl p1)) ∧ Fr n0 L ∧ h = h0) ({ frames := 1, cells := 0, slots := 0, locals := 14 } : Room).cells ({ frames := 1, cells := 0, slots := 0, locals := 14 } : Room).slots)
  refine own_callS X0 hx hZ (y := (⟨"java/lang/Math", "min", "(II)I"⟩ : MethodName)) hown (hw _ (List.mem_of_getElem? (i := 43) rfl)) (hw _ (List.mem_of_getElem? (i := 44) rfl)) (hw _ (List.mem_of_getElem? (i := 27) rfl)) (hw _ (List.mem_of_getElem? (i := 45) rfl)) (by decide) (W := 1) (own_rmin l Z a0 hw [] 16 p1 h0 n0 Z0) e0  (pc := 4) (Ls := #[.val (.int p1)]) (argsL := [(.int (16 : Int32)), (.int p1)]) (rest := [(.int (0 : Int32))]) (by rw [hml]; rfl) (lenOf own_pd3 rfl) rfl (hb hby own_d_method_4_code_4) (by decide) (by decide) (by decide) (by decide) ?_
  intro v23 T23 L23 X23 hQ23
  obtain ⟨rfl, N23, e23⟩ := hQ23
  show OGo p e below (T23.setTop (mkF m 7 #[.val (.int p1)] [(.int (own_mi p1)), (.int (0 : Int32))])) (OEnd s (fun v h L => v = some (.int (own_cl p1)) ∧ Fr n0 L ∧ h = h0) ({ frames := 1, cells := 0, slots := 0, locals := 14 } : Room).cells ({ frames := 1, cells := 0, slots := 0, locals := 14 } : Room).slots)
  have Nc23 := Fr.app (Fr.nil n0) N23
  refine own_callS X23 hx hZ (y := (⟨"java/lang/Math", "max", "(II)I"⟩ : MethodName)) hown (hw _ (List.mem_of_getElem? (i := 46) rfl)) (hw _ (List.mem_of_getElem? (i := 47) rfl)) (hw _ (List.mem_of_getElem? (i := 27) rfl)) (hw _ (List.mem_of_getElem? (i := 48) rfl)) (by decide) (W := 0) (own_rmax l Z a0 hw [] 0 (own_mi p1) h0 n0 Z0) e23  (pc := 7) (Ls := #[.val (.int p1)]) (argsL := [(.int (0 : Int32)), (.int (own_mi p1))]) (rest := []) (by rw [hml]; rfl) (lenOf own_pd3 rfl) rfl (hb hby own_d_method_4_code_7) (by decide) (by decide) (by decide) (by decide) ?_
  intro v24 T24 L24 X24 hQ24
  obtain ⟨rfl, N24, e24⟩ := hQ24
  show OGo p e below (T24.setTop (mkF m 10 #[.val (.int p1)] [(.int (own_cl p1))])) (OEnd s (fun v h L => v = some (.int (own_cl p1)) ∧ Fr n0 L ∧ h = h0) ({ frames := 1, cells := 0, slots := 0, locals := 14 } : Room).cells ({ frames := 1, cells := 0, slots := 0, locals := 14 } : Room).slots)
  have Nc24 := Fr.app Nc23 N24
  exact own_ret X24 hx hlk hret rfl (Or.inl ⟨rfl, Or.inl rfl, _, rfl⟩) (hb hby own_d_method_4_code_10) ⟨rfl, Nc24, e24⟩ (by decide) (by decide)

set_option maxRecDepth 65536 in
set_option maxHeartbeats 40000000 in
theorem own_rm5 (l : Launch) (Z : State) (a0 : Array Value) (hw : ∀ d ∈ tables_1, d.before a0 Z = true) (ws : List Jvm.Cond) (a b : Addr) (ah bl ac bc : UInt64) (h0 : Heap) (n0 : Nat) (Z0 : n0 ≤ h0.size) (Fah : Fld Z h0 a "com/example/haze_to_match/hazetomatch/UnitBounds" "high" "D" (.double ah)) (Fbl : Fld Z h0 b "com/example/haze_to_match/hazetomatch/UnitBounds" "low" "D" (.double bl)) (Fac : Fld Z h0 a "com/example/haze_to_match/hazetomatch/UnitBounds" "complementLow" "D" (.double ac)) (Fbc : Fld Z h0 b "com/example/haze_to_match/hazetomatch/UnitBounds" "complementHigh" "D" (.double bc)) :
    OMet l Z (⟨"com/example/haze_to_match/hazetomatch/UnitBounds", "isBelow", "(Lcom/example/haze_to_match/hazetomatch/UnitBounds;)Z"⟩ : MethodName) prog_70_method_6_code 2 (some .boolean) ws ({ frames := 0, cells := 0, slots := 0, locals := 0 } : Room) #[(.ref a), (.ref b)] h0 (fun v h L => v = some (.int (if cmpValue (FP.dcmp ah bl) .g < 0 ∨ 0 < cmpValue (FP.dcmp ac bc) .l then (1 : Int32) else 0)) ∧ Fr n0 L ∧ h = h0) := by
  refine OMet.body (plainFor_of_name own_pn1) ?_
  intro p e s m below meth c s₁ hx hby hml hown hnm hret hlk hZ X0 e0
  refine OGo.step (fun _ kk => castTop (show entryFrame m #[(.ref a), (.ref b)] 2 = (mkF m 0 #[.val (.ref a), .val (.ref b)] []) from by first | (simp [entryFrame, mkF, argsToLocals, Value.category]; done) | rfl) kk) ?_
  show OGo p e below (s₁.setTop (mkF m 0 #[.val (.ref a), .val (.ref b)] [])) (OEnd s (fun v h L => v = some (.int (if cmpValue (FP.dcmp ah bl) .g < 0 ∨ 0 < cmpValue (FP.dcmp ac bc) .l then (1 : Int32) else 0)) ∧ Fr n0 L ∧ h = h0) ({ frames := 0, cells := 0, slots := 0, locals := 0 } : Room).cells ({ frames := 0, cells := 0, slots := 0, locals := 0 } : Room).slots)
  have N0 := Fr.nil n0
  refine OGo.step (fun _ kk => XS.aloadN X0.here hx rfl (hb hby own_d_prog_70_method_6_code_0) rfl rfl kk) ?_
  show OGo p e below (s₁.setTop (mkF m 1 #[.val (.ref a), .val (.ref b)] [(.ref a)])) (OEnd s (fun v h L => v = some (.int (if cmpValue (FP.dcmp ah bl) .g < 0 ∨ 0 < cmpValue (FP.dcmp ac bc) .l then (1 : Int32) else 0)) ∧ Fr n0 L ∧ h = h0) ({ frames := 0, cells := 0, slots := 0, locals := 0 } : Room).cells ({ frames := 0, cells := 0, slots := 0, locals := 0 } : Room).slots)
  obtain ⟨T25, X25, e25, st25⟩ := getF X0 hx hZ hown (host := "") (Or.inl (hw _ (List.mem_of_getElem? (i := 34) rfl))) Via.refl e0 Fah (g := (mkF m 1 #[.val (.ref a), .val (.ref b)] [(.ref a)])) rfl rfl (hb hby own_d_prog_70_method_6_code_1)
  refine OGo.step st25 ?_
  show OGo p e below (T25.setTop (mkF m 4 #[.val (.ref a), .val (.ref b)] [(.double ah)])) (OEnd s (fun v h L => v = some (.int (if cmpValue (FP.dcmp ah bl) .g < 0 ∨ 0 < cmpValue (FP.dcmp ac bc) .l then (1 : Int32) else 0)) ∧ Fr n0 L ∧ h = h0) ({ frames := 0, cells := 0, slots := 0, locals := 0 } : Room).cells ({ frames := 0, cells := 0, slots := 0, locals := 0 } : Room).slots)
  refine OGo.step (fun _ kk => XS.aloadN X25.here hx rfl (hb hby own_d_prog_70_method_6_code_4) rfl rfl kk) ?_
  show OGo p e below (T25.setTop (mkF m 5 #[.val (.ref a), .val (.ref b)] [(.ref b), (.double ah)])) (OEnd s (fun v h L => v = some (.int (if cmpValue (FP.dcmp ah bl) .g < 0 ∨ 0 < cmpValue (FP.dcmp ac bc) .l then (1 : Int32) else 0)) ∧ Fr n0 L ∧ h = h0) ({ frames := 0, cells := 0, slots := 0, locals := 0 } : Room).cells ({ frames := 0, cells := 0, slots := 0, locals := 0 } : Room).slots)
  obtain ⟨T26, X26, e26, st26⟩ := getF X25 hx hZ hown (host := "") (Or.inl (hw _ (List.mem_of_getElem? (i := 32) rfl))) Via.refl e25 Fbl (g := (mkF m 5 #[.val (.ref a), .val (.ref b)] [(.ref b), (.double ah)])) rfl rfl (hb hby own_d_prog_70_method_6_code_5)
  refine OGo.step st26 ?_
  show OGo p e below (T26.setTop (mkF m 8 #[.val (.ref a), .val (.ref b)] [(.double bl), (.double ah)])) (OEnd s (fun v h L => v = some (.int (if cmpValue (FP.dcmp ah bl) .g < 0 ∨ 0 < cmpValue (FP.dcmp ac bc) .l then (1 : Int32) else 0)) ∧ Fr n0 L ∧ h = h0) ({ frames := 0, cells := 0, slots := 0, locals := 0 } : Room).cells ({ frames := 0, cells := 0, slots := 0, locals := 0 } : Room).slots)
  refine OGo.step (fun _ kk => XS.dcmpS X26.here hx rfl (hb hby own_d_prog_70_method_6_code_8) rfl rfl kk) ?_
  show OGo p e below (T26.setTop (mkF m 9 #[.val (.ref a), .val (.ref b)] [(.int (cmpValue (FP.dcmp ah bl) .g))])) (OEnd s (fun v h L => v = some (.int (if cmpValue (FP.dcmp ah bl) .g < 0 ∨ 0 < cmpValue (FP.dcmp ac bc) .l then (1 : Int32) else 0)) ∧ Fr n0 L ∧ h = h0) ({ frames := 0, cells := 0, slots := 0, locals := 0 } : Room).cells ({ frames := 0, cells := 0, slots := 0, locals := 0 } : Room).slots)
  by_cases h1 : (cmpValue (FP.dcmp ah bl) .g) < (0 : Int32)
  · refine OGo.step (fun _ kk => XS.ifYes X26.here hx rfl (pc0 := 9) (pc' := 24) rfl (hb hby own_d_prog_70_method_6_code_9) rfl ((if0 _ _).trans (tlt h1).1) (by decide) (by decide) kk) ?_
    show OGo p e below (T26.setTop (mkF m 24 #[.val (.ref a), .val (.ref b)] [])) (OEnd s (fun v h L => v = some (.int (if cmpValue (FP.dcmp ah bl) .g < 0 ∨ 0 < cmpValue (FP.dcmp ac bc) .l then (1 : Int32) else 0)) ∧ Fr n0 L ∧ h = h0) ({ frames := 0, cells := 0, slots := 0, locals := 0 } : Room).cells ({ frames := 0, cells := 0, slots := 0, locals := 0 } : Room).slots)
    refine OGo.step (fun _ kk => XS.iconst X26.here hx rfl (hb hby own_d_prog_70_method_6_code_24) kk) ?_
    show OGo p e below (T26.setTop (mkF m 25 #[.val (.ref a), .val (.ref b)] [(.int (1 : Int32))])) (OEnd s (fun v h L => v = some (.int (if cmpValue (FP.dcmp ah bl) .g < 0 ∨ 0 < cmpValue (FP.dcmp ac bc) .l then (1 : Int32) else 0)) ∧ Fr n0 L ∧ h = h0) ({ frames := 0, cells := 0, slots := 0, locals := 0 } : Room).cells ({ frames := 0, cells := 0, slots := 0, locals := 0 } : Room).slots)
    refine OGo.step (fun _ kk => XS.goto X26.here hx rfl (pc0 := 25) (pc' := 29) rfl (hb hby own_d_prog_70_method_6_code_25) (by decide) (by decide) kk) ?_
    show OGo p e below (T26.setTop (mkF m 29 #[.val (.ref a), .val (.ref b)] [(.int (1 : Int32))])) (OEnd s (fun v h L => v = some (.int (if cmpValue (FP.dcmp ah bl) .g < 0 ∨ 0 < cmpValue (FP.dcmp ac bc) .l then (1 : Int32) else 0)) ∧ Fr n0 L ∧ h = h0) ({ frames := 0, cells := 0, slots := 0, locals := 0 } : Room).cells ({ frames := 0, cells := 0, slots := 0, locals := 0 } : Room).slots)
    exact own_retN X26 hx hlk hret (by simp) (hb hby own_d_prog_70_method_6_code_29) ⟨by rw [if_pos (Or.inl h1)]; rfl, N0, e26⟩ (by decide) (by decide)
  · refine OGo.step (fun _ kk => XS.ifNo X26.here hx rfl (hb hby own_d_prog_70_method_6_code_9) rfl ((if0 _ _).trans (flt h1).1) kk) ?_
    show OGo p e below (T26.setTop (mkF m 12 #[.val (.ref a), .val (.ref b)] [])) (OEnd s (fun v h L => v = some (.int (if cmpValue (FP.dcmp ah bl) .g < 0 ∨ 0 < cmpValue (FP.dcmp ac bc) .l then (1 : Int32) else 0)) ∧ Fr n0 L ∧ h = h0) ({ frames := 0, cells := 0, slots := 0, locals := 0 } : Room).cells ({ frames := 0, cells := 0, slots := 0, locals := 0 } : Room).slots)
    refine OGo.step (fun _ kk => XS.aloadN X26.here hx rfl (hb hby own_d_prog_70_method_6_code_12) rfl rfl kk) ?_
    show OGo p e below (T26.setTop (mkF m 13 #[.val (.ref a), .val (.ref b)] [(.ref a)])) (OEnd s (fun v h L => v = some (.int (if cmpValue (FP.dcmp ah bl) .g < 0 ∨ 0 < cmpValue (FP.dcmp ac bc) .l then (1 : Int32) else 0)) ∧ Fr n0 L ∧ h = h0) ({ frames := 0, cells := 0, slots := 0, locals := 0 } : Room).cells ({ frames := 0, cells := 0, slots := 0, locals := 0 } : Room).slots)
    obtain ⟨T27, X27, e27, st27⟩ := getF X26 hx hZ hown (host := "") (Or.inl (hw _ (List.mem_of_getElem? (i := 36) rfl))) Via.refl e26 Fac (g := (mkF m 13 #[.val (.ref a), .val (.ref b)] [(.ref a)])) rfl rfl (hb hby own_d_prog_70_method_6_code_13)
    refine OGo.step st27 ?_
    show OGo p e below (T27.setTop (mkF m 16 #[.val (.ref a), .val (.ref b)] [(.double ac)])) (OEnd s (fun v h L => v = some (.int (if cmpValue (FP.dcmp ah bl) .g < 0 ∨ 0 < cmpValue (FP.dcmp ac bc) .l then (1 : Int32) else 0)) ∧ Fr n0 L ∧ h = h0) ({ frames := 0, cells := 0, slots := 0, locals := 0 } : Room).cells ({ frames := 0, cells := 0, slots := 0, locals := 0 } : Room).slots)
    refine OGo.step (fun _ kk => XS.aloadN X27.here hx rfl (hb hby own_d_prog_70_method_6_code_16) rfl rfl kk) ?_
    show OGo p e below (T27.setTop (mkF m 17 #[.val (.ref a), .val (.ref b)] [(.ref b), (.double ac)])) (OEnd s (fun v h L => v = some (.int (if cmpValue (FP.dcmp ah bl) .g < 0 ∨ 0 < cmpValue (FP.dcmp ac bc) .l then (1 : Int32) else 0)) ∧ Fr n0 L ∧ h = h0) ({ frames := 0, cells := 0, slots := 0, locals := 0 } : Room).cells ({ frames := 0, cells := 0, slots := 0, locals := 0 } : Room).slots)
    obtain ⟨T28, X28, e28, st28⟩ := getF X27 hx hZ hown (host := "") (Or.inl (hw _ (List.mem_of_getElem? (i := 38) rfl))) Via.refl e27 Fbc (g := (mkF m 17 #[.val (.ref a), .val (.ref b)] [(.ref b), (.double ac)])) rfl rfl (hb hby own_d_prog_70_method_6_code_17)
    refine OGo.step st28 ?_
    show OGo p e below (T28.setTop (mkF m 20 #[.val (.ref a), .val (.ref b)] [(.double bc), (.double ac)])) (OEnd s (fun v h L => v = some (.int (if cmpValue (FP.dcmp ah bl) .g < 0 ∨ 0 < cmpValue (FP.dcmp ac bc) .l then (1 : Int32) else 0)) ∧ Fr n0 L ∧ h = h0) ({ frames := 0, cells := 0, slots := 0, locals := 0 } : Room).cells ({ frames := 0, cells := 0, slots := 0, locals := 0 } : Room).slots)
    refine OGo.step (fun _ kk => XS.dcmpS X28.here hx rfl (hb hby own_d_prog_70_method_6_code_20) rfl rfl kk) ?_
    show OGo p e below (T28.setTop (mkF m 21 #[.val (.ref a), .val (.ref b)] [(.int (cmpValue (FP.dcmp ac bc) .l))])) (OEnd s (fun v h L => v = some (.int (if cmpValue (FP.dcmp ah bl) .g < 0 ∨ 0 < cmpValue (FP.dcmp ac bc) .l then (1 : Int32) else 0)) ∧ Fr n0 L ∧ h = h0) ({ frames := 0, cells := 0, slots := 0, locals := 0 } : Room).cells ({ frames := 0, cells := 0, slots := 0, locals := 0 } : Room).slots)
    by_cases h2 : (0 : Int32) < (cmpValue (FP.dcmp ac bc) .l)
    · refine OGo.step (fun _ kk => XS.ifNo X28.here hx rfl (hb hby own_d_prog_70_method_6_code_21) rfl ((if0 _ _).trans (tlt h2).2.2.2) kk) ?_
      show OGo p e below (T28.setTop (mkF m 24 #[.val (.ref a), .val (.ref b)] [])) (OEnd s (fun v h L => v = some (.int (if cmpValue (FP.dcmp ah bl) .g < 0 ∨ 0 < cmpValue (FP.dcmp ac bc) .l then (1 : Int32) else 0)) ∧ Fr n0 L ∧ h = h0) ({ frames := 0, cells := 0, slots := 0, locals := 0 } : Room).cells ({ frames := 0, cells := 0, slots := 0, locals := 0 } : Room).slots)
      refine OGo.step (fun _ kk => XS.iconst X28.here hx rfl (hb hby own_d_prog_70_method_6_code_24) kk) ?_
      show OGo p e below (T28.setTop (mkF m 25 #[.val (.ref a), .val (.ref b)] [(.int (1 : Int32))])) (OEnd s (fun v h L => v = some (.int (if cmpValue (FP.dcmp ah bl) .g < 0 ∨ 0 < cmpValue (FP.dcmp ac bc) .l then (1 : Int32) else 0)) ∧ Fr n0 L ∧ h = h0) ({ frames := 0, cells := 0, slots := 0, locals := 0 } : Room).cells ({ frames := 0, cells := 0, slots := 0, locals := 0 } : Room).slots)
      refine OGo.step (fun _ kk => XS.goto X28.here hx rfl (pc0 := 25) (pc' := 29) rfl (hb hby own_d_prog_70_method_6_code_25) (by decide) (by decide) kk) ?_
      show OGo p e below (T28.setTop (mkF m 29 #[.val (.ref a), .val (.ref b)] [(.int (1 : Int32))])) (OEnd s (fun v h L => v = some (.int (if cmpValue (FP.dcmp ah bl) .g < 0 ∨ 0 < cmpValue (FP.dcmp ac bc) .l then (1 : Int32) else 0)) ∧ Fr n0 L ∧ h = h0) ({ frames := 0, cells := 0, slots := 0, locals := 0 } : Room).cells ({ frames := 0, cells := 0, slots := 0, locals := 0 } : Room).slots)
      exact own_retN X28 hx hlk hret (by simp) (hb hby own_d_prog_70_method_6_code_29) ⟨by rw [if_pos (Or.inr h2)]; rfl, N0, e28⟩ (by decide) (by decide)
    · refine OGo.step (fun _ kk => XS.ifYes X28.here hx rfl (pc0 := 21) (pc' := 28) rfl (hb hby own_d_prog_70_method_6_code_21) rfl ((if0 _ _).trans (flt h2).2.2.2) (by decide) (by decide) kk) ?_
      show OGo p e below (T28.setTop (mkF m 28 #[.val (.ref a), .val (.ref b)] [])) (OEnd s (fun v h L => v = some (.int (if cmpValue (FP.dcmp ah bl) .g < 0 ∨ 0 < cmpValue (FP.dcmp ac bc) .l then (1 : Int32) else 0)) ∧ Fr n0 L ∧ h = h0) ({ frames := 0, cells := 0, slots := 0, locals := 0 } : Room).cells ({ frames := 0, cells := 0, slots := 0, locals := 0 } : Room).slots)
      refine OGo.step (fun _ kk => XS.iconst X28.here hx rfl (hb hby own_d_prog_70_method_6_code_28) kk) ?_
      show OGo p e below (T28.setTop (mkF m 29 #[.val (.ref a), .val (.ref b)] [(.int (0 : Int32))])) (OEnd s (fun v h L => v = some (.int (if cmpValue (FP.dcmp ah bl) .g < 0 ∨ 0 < cmpValue (FP.dcmp ac bc) .l then (1 : Int32) else 0)) ∧ Fr n0 L ∧ h = h0) ({ frames := 0, cells := 0, slots := 0, locals := 0 } : Room).cells ({ frames := 0, cells := 0, slots := 0, locals := 0 } : Room).slots)
      exact own_retN X28 hx hlk hret (by simp) (hb hby own_d_prog_70_method_6_code_29) ⟨by rw [if_neg (fun q => q.elim h1 h2)]; rfl, N0, e28⟩ (by decide) (by decide)

set_option maxRecDepth 65536 in
set_option maxHeartbeats 40000000 in
theorem own_rm0 (l : Launch) (Z : State) (a0 : Array Value) (hw : ∀ d ∈ tables_1, d.before a0 Z = true) (ws : List Jvm.Cond) (p1 p2 : Int32) (h0 : Heap) (n0 : Nat) (Z0 : n0 ≤ h0.size)  :
    OMet l Z x code maxLocals ret ws room_1 #[(.int p1), (.int p2)] h0 (fun v h L => v = some (.int (1 : Int32)) ∧ Fr n0 L) := by
  refine OMet.body (plainFor_of_name own_pn0) ?_
  intro p e s m below meth c s₁ hx hby hml hown hnm hret hlk hZ X0 e0
  have hml : c.maxLocals = 13 := hml
  refine OGo.step (fun _ kk => castTop (show entryFrame m #[(.int p1), (.int p2)] maxLocals = (mkF m 0 #[.val (.int p1), .val (.int p2), .unset, .unset, .unset, .unset, .unset, .unset, .unset, .unset, .unset, .unset, .unset] []) from by first | (simp [entryFrame, mkF, argsToLocals, Value.category, maxLocals]; done) | rfl) kk) ?_
  show OGo p e below (s₁.setTop (mkF m 0 #[.val (.int p1), .val (.int p2), .unset, .unset, .unset, .unset, .unset, .unset, .unset, .unset, .unset, .unset, .unset] [])) (OEnd s (fun v h L => v = some (.int (1 : Int32)) ∧ Fr n0 L) room_1.cells room_1.slots)
  refine OGo.step (fun _ kk => XS.iloadN X0.here hx rfl (hb hby at_0) rfl kk) ?_
  show OGo p e below (s₁.setTop (mkF m 1 #[.val (.int p1), .val (.int p2), .unset, .unset, .unset, .unset, .unset, .unset, .unset, .unset, .unset, .unset, .unset] [(.int p1)])) (OEnd s (fun v h L => v = some (.int (1 : Int32)) ∧ Fr n0 L) room_1.cells room_1.slots)
  refine OGo.step (fun _ kk => XS.iconst X0.here hx rfl (hb hby at_1) kk) ?_
  show OGo p e below (s₁.setTop (mkF m 2 #[.val (.int p1), .val (.int p2), .unset, .unset, .unset, .unset, .unset, .unset, .unset, .unset, .unset, .unset, .unset] [(.int (0 : Int32)), (.int p1)])) (OEnd s (fun v h L => v = some (.int (1 : Int32)) ∧ Fr n0 L) room_1.cells room_1.slots)
  refine own_callS X0 hx hZ (y := (⟨"com/example/haze_to_match/hazetomatch/UnitBoundsIsBelowPinLaw", "field", "(II)I"⟩ : MethodName)) hown (hw _ (List.mem_of_getElem? (i := 0) rfl)) (hw _ (List.mem_of_getElem? (i := 1) rfl)) (hw _ (List.mem_of_getElem? (i := 2) rfl)) (hw _ (List.mem_of_getElem? (i := 3) rfl)) (by decide) (W := 0) (own_rm1 l Z a0 hw [] p1 0 h0 n0 Z0) e0  (pc := 2) (Ls := #[.val (.int p1), .val (.int p2), .unset, .unset, .unset, .unset, .unset, .unset, .unset, .unset, .unset, .unset, .unset]) (argsL := [(.int p1), (.int (0 : Int32))]) (rest := []) (by rw [hml]; rfl) (lenOf own_pd3 rfl) rfl (hb hby at_2) (by decide) (by decide) (by decide) (by decide) ?_
  intro v29 T29 L29 X29 hQ29
  obtain ⟨rfl, N29, e29⟩ := hQ29
  show OGo p e below (T29.setTop (mkF m 5 #[.val (.int p1), .val (.int p2), .unset, .unset, .unset, .unset, .unset, .unset, .unset, .unset, .unset, .unset, .unset] [(.int (((p1.toUInt32 >>> ((0 : Int32) &&& 31).toUInt32).toInt32 &&& 31) - 8))])) (OEnd s (fun v h L => v = some (.int (1 : Int32)) ∧ Fr n0 L) room_1.cells room_1.slots)
  have Nc29 := Fr.app (Fr.nil n0) N29
  obtain ⟨klo1, hklo1, eklo1⟩ := own_field (p1.toUInt32 >>> ((0 : Int32) &&& 31).toUInt32).toInt32
  rw [eklo1]
  show OGo p e below (T29.setTop (mkF m 5 #[.val (.int p1), .val (.int p2), .unset, .unset, .unset, .unset, .unset, .unset, .unset, .unset, .unset, .unset, .unset] [(.int (Int32.ofNat klo1 - 8))])) (OEnd s (fun v h L => v = some (.int (1 : Int32)) ∧ Fr n0 L) room_1.cells room_1.slots)
  refine OGo.step (fun _ kk => XS.istoreN X29.here hx rfl (hb hby at_5) rfl (l' := #[.val (.int p1), .val (.int p2), .val (.int (Int32.ofNat klo1 - 8)), .unset, .unset, .unset, .unset, .unset, .unset, .unset, .unset, .unset, .unset]) rfl kk) ?_
  show OGo p e below (T29.setTop (mkF m 6 #[.val (.int p1), .val (.int p2), .val (.int (Int32.ofNat klo1 - 8)), .unset, .unset, .unset, .unset, .unset, .unset, .unset, .unset, .unset, .unset] [])) (OEnd s (fun v h L => v = some (.int (1 : Int32)) ∧ Fr n0 L) room_1.cells room_1.slots)
  refine OGo.step (fun _ kk => XS.iloadN X29.here hx rfl (hb hby at_6) rfl kk) ?_
  show OGo p e below (T29.setTop (mkF m 7 #[.val (.int p1), .val (.int p2), .val (.int (Int32.ofNat klo1 - 8)), .unset, .unset, .unset, .unset, .unset, .unset, .unset, .unset, .unset, .unset] [(.int p1)])) (OEnd s (fun v h L => v = some (.int (1 : Int32)) ∧ Fr n0 L) room_1.cells room_1.slots)
  refine OGo.step (fun _ kk => XS.iconst X29.here hx rfl (hb hby at_7) kk) ?_
  show OGo p e below (T29.setTop (mkF m 8 #[.val (.int p1), .val (.int p2), .val (.int (Int32.ofNat klo1 - 8)), .unset, .unset, .unset, .unset, .unset, .unset, .unset, .unset, .unset, .unset] [(.int (5 : Int32)), (.int p1)])) (OEnd s (fun v h L => v = some (.int (1 : Int32)) ∧ Fr n0 L) room_1.cells room_1.slots)
  refine own_callS X29 hx hZ (y := (⟨"com/example/haze_to_match/hazetomatch/UnitBoundsIsBelowPinLaw", "field", "(II)I"⟩ : MethodName)) hown (hw _ (List.mem_of_getElem? (i := 0) rfl)) (hw _ (List.mem_of_getElem? (i := 1) rfl)) (hw _ (List.mem_of_getElem? (i := 2) rfl)) (hw _ (List.mem_of_getElem? (i := 3) rfl)) (by decide) (W := 0) (own_rm1 l Z a0 hw [] p1 5 h0 n0 Z0) e29  (pc := 8) (Ls := #[.val (.int p1), .val (.int p2), .val (.int (Int32.ofNat klo1 - 8)), .unset, .unset, .unset, .unset, .unset, .unset, .unset, .unset, .unset, .unset]) (argsL := [(.int p1), (.int (5 : Int32))]) (rest := []) (by rw [hml]; rfl) (lenOf own_pd3 rfl) rfl (hb hby at_8) (by decide) (by decide) (by decide) (by decide) ?_
  intro v30 T30 L30 X30 hQ30
  obtain ⟨rfl, N30, e30⟩ := hQ30
  show OGo p e below (T30.setTop (mkF m 11 #[.val (.int p1), .val (.int p2), .val (.int (Int32.ofNat klo1 - 8)), .unset, .unset, .unset, .unset, .unset, .unset, .unset, .unset, .unset, .unset] [(.int (((p1.toUInt32 >>> ((5 : Int32) &&& 31).toUInt32).toInt32 &&& 31) - 8))])) (OEnd s (fun v h L => v = some (.int (1 : Int32)) ∧ Fr n0 L) room_1.cells room_1.slots)
  have Nc30 := Fr.app Nc29 N30
  obtain ⟨khi1, hkhi1, ekhi1⟩ := own_field (p1.toUInt32 >>> ((5 : Int32) &&& 31).toUInt32).toInt32
  rw [ekhi1]
  show OGo p e below (T30.setTop (mkF m 11 #[.val (.int p1), .val (.int p2), .val (.int (Int32.ofNat klo1 - 8)), .unset, .unset, .unset, .unset, .unset, .unset, .unset, .unset, .unset, .unset] [(.int (Int32.ofNat khi1 - 8))])) (OEnd s (fun v h L => v = some (.int (1 : Int32)) ∧ Fr n0 L) room_1.cells room_1.slots)
  refine OGo.step (fun _ kk => XS.istoreN X30.here hx rfl (hb hby at_11) rfl (l' := #[.val (.int p1), .val (.int p2), .val (.int (Int32.ofNat klo1 - 8)), .val (.int (Int32.ofNat khi1 - 8)), .unset, .unset, .unset, .unset, .unset, .unset, .unset, .unset, .unset]) rfl kk) ?_
  show OGo p e below (T30.setTop (mkF m 12 #[.val (.int p1), .val (.int p2), .val (.int (Int32.ofNat klo1 - 8)), .val (.int (Int32.ofNat khi1 - 8)), .unset, .unset, .unset, .unset, .unset, .unset, .unset, .unset, .unset] [])) (OEnd s (fun v h L => v = some (.int (1 : Int32)) ∧ Fr n0 L) room_1.cells room_1.slots)
  refine OGo.step (fun _ kk => XS.iloadN X30.here hx rfl (hb hby at_12) rfl kk) ?_
  show OGo p e below (T30.setTop (mkF m 13 #[.val (.int p1), .val (.int p2), .val (.int (Int32.ofNat klo1 - 8)), .val (.int (Int32.ofNat khi1 - 8)), .unset, .unset, .unset, .unset, .unset, .unset, .unset, .unset, .unset] [(.int p1)])) (OEnd s (fun v h L => v = some (.int (1 : Int32)) ∧ Fr n0 L) room_1.cells room_1.slots)
  refine OGo.step (fun _ kk => XS.bipush X30.here hx rfl (hb hby at_13) kk) ?_
  show OGo p e below (T30.setTop (mkF m 15 #[.val (.int p1), .val (.int p2), .val (.int (Int32.ofNat klo1 - 8)), .val (.int (Int32.ofNat khi1 - 8)), .unset, .unset, .unset, .unset, .unset, .unset, .unset, .unset, .unset] [(.int (10 : Int32)), (.int p1)])) (OEnd s (fun v h L => v = some (.int (1 : Int32)) ∧ Fr n0 L) room_1.cells room_1.slots)
  refine own_callS X30 hx hZ (y := (⟨"com/example/haze_to_match/hazetomatch/UnitBoundsIsBelowPinLaw", "field", "(II)I"⟩ : MethodName)) hown (hw _ (List.mem_of_getElem? (i := 0) rfl)) (hw _ (List.mem_of_getElem? (i := 1) rfl)) (hw _ (List.mem_of_getElem? (i := 2) rfl)) (hw _ (List.mem_of_getElem? (i := 3) rfl)) (by decide) (W := 0) (own_rm1 l Z a0 hw [] p1 10 h0 n0 Z0) e30  (pc := 15) (Ls := #[.val (.int p1), .val (.int p2), .val (.int (Int32.ofNat klo1 - 8)), .val (.int (Int32.ofNat khi1 - 8)), .unset, .unset, .unset, .unset, .unset, .unset, .unset, .unset, .unset]) (argsL := [(.int p1), (.int (10 : Int32))]) (rest := []) (by rw [hml]; rfl) (lenOf own_pd3 rfl) rfl (hb hby at_15) (by decide) (by decide) (by decide) (by decide) ?_
  intro v31 T31 L31 X31 hQ31
  obtain ⟨rfl, N31, e31⟩ := hQ31
  show OGo p e below (T31.setTop (mkF m 18 #[.val (.int p1), .val (.int p2), .val (.int (Int32.ofNat klo1 - 8)), .val (.int (Int32.ofNat khi1 - 8)), .unset, .unset, .unset, .unset, .unset, .unset, .unset, .unset, .unset] [(.int (((p1.toUInt32 >>> ((10 : Int32) &&& 31).toUInt32).toInt32 &&& 31) - 8))])) (OEnd s (fun v h L => v = some (.int (1 : Int32)) ∧ Fr n0 L) room_1.cells room_1.slots)
  have Nc31 := Fr.app Nc30 N31
  obtain ⟨kcl1, hkcl1, ekcl1⟩ := own_field (p1.toUInt32 >>> ((10 : Int32) &&& 31).toUInt32).toInt32
  rw [ekcl1]
  show OGo p e below (T31.setTop (mkF m 18 #[.val (.int p1), .val (.int p2), .val (.int (Int32.ofNat klo1 - 8)), .val (.int (Int32.ofNat khi1 - 8)), .unset, .unset, .unset, .unset, .unset, .unset, .unset, .unset, .unset] [(.int (Int32.ofNat kcl1 - 8))])) (OEnd s (fun v h L => v = some (.int (1 : Int32)) ∧ Fr n0 L) room_1.cells room_1.slots)
  refine OGo.step (fun _ kk => XS.istore X31.here hx rfl (hb hby at_18) rfl (l' := #[.val (.int p1), .val (.int p2), .val (.int (Int32.ofNat klo1 - 8)), .val (.int (Int32.ofNat khi1 - 8)), .val (.int (Int32.ofNat kcl1 - 8)), .unset, .unset, .unset, .unset, .unset, .unset, .unset, .unset]) rfl kk) ?_
  show OGo p e below (T31.setTop (mkF m 20 #[.val (.int p1), .val (.int p2), .val (.int (Int32.ofNat klo1 - 8)), .val (.int (Int32.ofNat khi1 - 8)), .val (.int (Int32.ofNat kcl1 - 8)), .unset, .unset, .unset, .unset, .unset, .unset, .unset, .unset] [])) (OEnd s (fun v h L => v = some (.int (1 : Int32)) ∧ Fr n0 L) room_1.cells room_1.slots)
  refine OGo.step (fun _ kk => XS.iloadN X31.here hx rfl (hb hby at_20) rfl kk) ?_
  show OGo p e below (T31.setTop (mkF m 21 #[.val (.int p1), .val (.int p2), .val (.int (Int32.ofNat klo1 - 8)), .val (.int (Int32.ofNat khi1 - 8)), .val (.int (Int32.ofNat kcl1 - 8)), .unset, .unset, .unset, .unset, .unset, .unset, .unset, .unset] [(.int p1)])) (OEnd s (fun v h L => v = some (.int (1 : Int32)) ∧ Fr n0 L) room_1.cells room_1.slots)
  refine OGo.step (fun _ kk => XS.bipush X31.here hx rfl (hb hby at_21) kk) ?_
  show OGo p e below (T31.setTop (mkF m 23 #[.val (.int p1), .val (.int p2), .val (.int (Int32.ofNat klo1 - 8)), .val (.int (Int32.ofNat khi1 - 8)), .val (.int (Int32.ofNat kcl1 - 8)), .unset, .unset, .unset, .unset, .unset, .unset, .unset, .unset] [(.int (15 : Int32)), (.int p1)])) (OEnd s (fun v h L => v = some (.int (1 : Int32)) ∧ Fr n0 L) room_1.cells room_1.slots)
  refine own_callS X31 hx hZ (y := (⟨"com/example/haze_to_match/hazetomatch/UnitBoundsIsBelowPinLaw", "field", "(II)I"⟩ : MethodName)) hown (hw _ (List.mem_of_getElem? (i := 0) rfl)) (hw _ (List.mem_of_getElem? (i := 1) rfl)) (hw _ (List.mem_of_getElem? (i := 2) rfl)) (hw _ (List.mem_of_getElem? (i := 3) rfl)) (by decide) (W := 0) (own_rm1 l Z a0 hw [] p1 15 h0 n0 Z0) e31  (pc := 23) (Ls := #[.val (.int p1), .val (.int p2), .val (.int (Int32.ofNat klo1 - 8)), .val (.int (Int32.ofNat khi1 - 8)), .val (.int (Int32.ofNat kcl1 - 8)), .unset, .unset, .unset, .unset, .unset, .unset, .unset, .unset]) (argsL := [(.int p1), (.int (15 : Int32))]) (rest := []) (by rw [hml]; rfl) (lenOf own_pd3 rfl) rfl (hb hby at_23) (by decide) (by decide) (by decide) (by decide) ?_
  intro v32 T32 L32 X32 hQ32
  obtain ⟨rfl, N32, e32⟩ := hQ32
  show OGo p e below (T32.setTop (mkF m 26 #[.val (.int p1), .val (.int p2), .val (.int (Int32.ofNat klo1 - 8)), .val (.int (Int32.ofNat khi1 - 8)), .val (.int (Int32.ofNat kcl1 - 8)), .unset, .unset, .unset, .unset, .unset, .unset, .unset, .unset] [(.int (((p1.toUInt32 >>> ((15 : Int32) &&& 31).toUInt32).toInt32 &&& 31) - 8))])) (OEnd s (fun v h L => v = some (.int (1 : Int32)) ∧ Fr n0 L) room_1.cells room_1.slots)
  have Nc32 := Fr.app Nc31 N32
  obtain ⟨kch1, hkch1, ekch1⟩ := own_field (p1.toUInt32 >>> ((15 : Int32) &&& 31).toUInt32).toInt32
  rw [ekch1]
  show OGo p e below (T32.setTop (mkF m 26 #[.val (.int p1), .val (.int p2), .val (.int (Int32.ofNat klo1 - 8)), .val (.int (Int32.ofNat khi1 - 8)), .val (.int (Int32.ofNat kcl1 - 8)), .unset, .unset, .unset, .unset, .unset, .unset, .unset, .unset] [(.int (Int32.ofNat kch1 - 8))])) (OEnd s (fun v h L => v = some (.int (1 : Int32)) ∧ Fr n0 L) room_1.cells room_1.slots)
  refine OGo.step (fun _ kk => XS.istore X32.here hx rfl (hb hby at_26) rfl (l' := #[.val (.int p1), .val (.int p2), .val (.int (Int32.ofNat klo1 - 8)), .val (.int (Int32.ofNat khi1 - 8)), .val (.int (Int32.ofNat kcl1 - 8)), .val (.int (Int32.ofNat kch1 - 8)), .unset, .unset, .unset, .unset, .unset, .unset, .unset]) rfl kk) ?_
  show OGo p e below (T32.setTop (mkF m 28 #[.val (.int p1), .val (.int p2), .val (.int (Int32.ofNat klo1 - 8)), .val (.int (Int32.ofNat khi1 - 8)), .val (.int (Int32.ofNat kcl1 - 8)), .val (.int (Int32.ofNat kch1 - 8)), .unset, .unset, .unset, .unset, .unset, .unset, .unset] [])) (OEnd s (fun v h L => v = some (.int (1 : Int32)) ∧ Fr n0 L) room_1.cells room_1.slots)
  refine OGo.step (fun _ kk => XS.iloadN X32.here hx rfl (hb hby at_28) rfl kk) ?_
  show OGo p e below (T32.setTop (mkF m 29 #[.val (.int p1), .val (.int p2), .val (.int (Int32.ofNat klo1 - 8)), .val (.int (Int32.ofNat khi1 - 8)), .val (.int (Int32.ofNat kcl1 - 8)), .val (.int (Int32.ofNat kch1 - 8)), .unset, .unset, .unset, .unset, .unset, .unset, .unset] [(.int p2)])) (OEnd s (fun v h L => v = some (.int (1 : Int32)) ∧ Fr n0 L) room_1.cells room_1.slots)
  refine OGo.step (fun _ kk => XS.iconst X32.here hx rfl (hb hby at_29) kk) ?_
  show OGo p e below (T32.setTop (mkF m 30 #[.val (.int p1), .val (.int p2), .val (.int (Int32.ofNat klo1 - 8)), .val (.int (Int32.ofNat khi1 - 8)), .val (.int (Int32.ofNat kcl1 - 8)), .val (.int (Int32.ofNat kch1 - 8)), .unset, .unset, .unset, .unset, .unset, .unset, .unset] [(.int (0 : Int32)), (.int p2)])) (OEnd s (fun v h L => v = some (.int (1 : Int32)) ∧ Fr n0 L) room_1.cells room_1.slots)
  refine own_callS X32 hx hZ (y := (⟨"com/example/haze_to_match/hazetomatch/UnitBoundsIsBelowPinLaw", "field", "(II)I"⟩ : MethodName)) hown (hw _ (List.mem_of_getElem? (i := 0) rfl)) (hw _ (List.mem_of_getElem? (i := 1) rfl)) (hw _ (List.mem_of_getElem? (i := 2) rfl)) (hw _ (List.mem_of_getElem? (i := 3) rfl)) (by decide) (W := 0) (own_rm1 l Z a0 hw [] p2 0 h0 n0 Z0) e32  (pc := 30) (Ls := #[.val (.int p1), .val (.int p2), .val (.int (Int32.ofNat klo1 - 8)), .val (.int (Int32.ofNat khi1 - 8)), .val (.int (Int32.ofNat kcl1 - 8)), .val (.int (Int32.ofNat kch1 - 8)), .unset, .unset, .unset, .unset, .unset, .unset, .unset]) (argsL := [(.int p2), (.int (0 : Int32))]) (rest := []) (by rw [hml]; rfl) (lenOf own_pd3 rfl) rfl (hb hby at_30) (by decide) (by decide) (by decide) (by decide) ?_
  intro v33 T33 L33 X33 hQ33
  obtain ⟨rfl, N33, e33⟩ := hQ33
  show OGo p e below (T33.setTop (mkF m 33 #[.val (.int p1), .val (.int p2), .val (.int (Int32.ofNat klo1 - 8)), .val (.int (Int32.ofNat khi1 - 8)), .val (.int (Int32.ofNat kcl1 - 8)), .val (.int (Int32.ofNat kch1 - 8)), .unset, .unset, .unset, .unset, .unset, .unset, .unset] [(.int (((p2.toUInt32 >>> ((0 : Int32) &&& 31).toUInt32).toInt32 &&& 31) - 8))])) (OEnd s (fun v h L => v = some (.int (1 : Int32)) ∧ Fr n0 L) room_1.cells room_1.slots)
  have Nc33 := Fr.app Nc32 N33
  obtain ⟨klo2, hklo2, eklo2⟩ := own_field (p2.toUInt32 >>> ((0 : Int32) &&& 31).toUInt32).toInt32
  rw [eklo2]
  show OGo p e below (T33.setTop (mkF m 33 #[.val (.int p1), .val (.int p2), .val (.int (Int32.ofNat klo1 - 8)), .val (.int (Int32.ofNat khi1 - 8)), .val (.int (Int32.ofNat kcl1 - 8)), .val (.int (Int32.ofNat kch1 - 8)), .unset, .unset, .unset, .unset, .unset, .unset, .unset] [(.int (Int32.ofNat klo2 - 8))])) (OEnd s (fun v h L => v = some (.int (1 : Int32)) ∧ Fr n0 L) room_1.cells room_1.slots)
  refine OGo.step (fun _ kk => XS.istore X33.here hx rfl (hb hby at_33) rfl (l' := #[.val (.int p1), .val (.int p2), .val (.int (Int32.ofNat klo1 - 8)), .val (.int (Int32.ofNat khi1 - 8)), .val (.int (Int32.ofNat kcl1 - 8)), .val (.int (Int32.ofNat kch1 - 8)), .val (.int (Int32.ofNat klo2 - 8)), .unset, .unset, .unset, .unset, .unset, .unset]) rfl kk) ?_
  show OGo p e below (T33.setTop (mkF m 35 #[.val (.int p1), .val (.int p2), .val (.int (Int32.ofNat klo1 - 8)), .val (.int (Int32.ofNat khi1 - 8)), .val (.int (Int32.ofNat kcl1 - 8)), .val (.int (Int32.ofNat kch1 - 8)), .val (.int (Int32.ofNat klo2 - 8)), .unset, .unset, .unset, .unset, .unset, .unset] [])) (OEnd s (fun v h L => v = some (.int (1 : Int32)) ∧ Fr n0 L) room_1.cells room_1.slots)
  refine OGo.step (fun _ kk => XS.iloadN X33.here hx rfl (hb hby at_35) rfl kk) ?_
  show OGo p e below (T33.setTop (mkF m 36 #[.val (.int p1), .val (.int p2), .val (.int (Int32.ofNat klo1 - 8)), .val (.int (Int32.ofNat khi1 - 8)), .val (.int (Int32.ofNat kcl1 - 8)), .val (.int (Int32.ofNat kch1 - 8)), .val (.int (Int32.ofNat klo2 - 8)), .unset, .unset, .unset, .unset, .unset, .unset] [(.int p2)])) (OEnd s (fun v h L => v = some (.int (1 : Int32)) ∧ Fr n0 L) room_1.cells room_1.slots)
  refine OGo.step (fun _ kk => XS.iconst X33.here hx rfl (hb hby at_36) kk) ?_
  show OGo p e below (T33.setTop (mkF m 37 #[.val (.int p1), .val (.int p2), .val (.int (Int32.ofNat klo1 - 8)), .val (.int (Int32.ofNat khi1 - 8)), .val (.int (Int32.ofNat kcl1 - 8)), .val (.int (Int32.ofNat kch1 - 8)), .val (.int (Int32.ofNat klo2 - 8)), .unset, .unset, .unset, .unset, .unset, .unset] [(.int (5 : Int32)), (.int p2)])) (OEnd s (fun v h L => v = some (.int (1 : Int32)) ∧ Fr n0 L) room_1.cells room_1.slots)
  refine own_callS X33 hx hZ (y := (⟨"com/example/haze_to_match/hazetomatch/UnitBoundsIsBelowPinLaw", "field", "(II)I"⟩ : MethodName)) hown (hw _ (List.mem_of_getElem? (i := 0) rfl)) (hw _ (List.mem_of_getElem? (i := 1) rfl)) (hw _ (List.mem_of_getElem? (i := 2) rfl)) (hw _ (List.mem_of_getElem? (i := 3) rfl)) (by decide) (W := 0) (own_rm1 l Z a0 hw [] p2 5 h0 n0 Z0) e33  (pc := 37) (Ls := #[.val (.int p1), .val (.int p2), .val (.int (Int32.ofNat klo1 - 8)), .val (.int (Int32.ofNat khi1 - 8)), .val (.int (Int32.ofNat kcl1 - 8)), .val (.int (Int32.ofNat kch1 - 8)), .val (.int (Int32.ofNat klo2 - 8)), .unset, .unset, .unset, .unset, .unset, .unset]) (argsL := [(.int p2), (.int (5 : Int32))]) (rest := []) (by rw [hml]; rfl) (lenOf own_pd3 rfl) rfl (hb hby at_37) (by decide) (by decide) (by decide) (by decide) ?_
  intro v34 T34 L34 X34 hQ34
  obtain ⟨rfl, N34, e34⟩ := hQ34
  show OGo p e below (T34.setTop (mkF m 40 #[.val (.int p1), .val (.int p2), .val (.int (Int32.ofNat klo1 - 8)), .val (.int (Int32.ofNat khi1 - 8)), .val (.int (Int32.ofNat kcl1 - 8)), .val (.int (Int32.ofNat kch1 - 8)), .val (.int (Int32.ofNat klo2 - 8)), .unset, .unset, .unset, .unset, .unset, .unset] [(.int (((p2.toUInt32 >>> ((5 : Int32) &&& 31).toUInt32).toInt32 &&& 31) - 8))])) (OEnd s (fun v h L => v = some (.int (1 : Int32)) ∧ Fr n0 L) room_1.cells room_1.slots)
  have Nc34 := Fr.app Nc33 N34
  obtain ⟨khi2, hkhi2, ekhi2⟩ := own_field (p2.toUInt32 >>> ((5 : Int32) &&& 31).toUInt32).toInt32
  rw [ekhi2]
  show OGo p e below (T34.setTop (mkF m 40 #[.val (.int p1), .val (.int p2), .val (.int (Int32.ofNat klo1 - 8)), .val (.int (Int32.ofNat khi1 - 8)), .val (.int (Int32.ofNat kcl1 - 8)), .val (.int (Int32.ofNat kch1 - 8)), .val (.int (Int32.ofNat klo2 - 8)), .unset, .unset, .unset, .unset, .unset, .unset] [(.int (Int32.ofNat khi2 - 8))])) (OEnd s (fun v h L => v = some (.int (1 : Int32)) ∧ Fr n0 L) room_1.cells room_1.slots)
  refine OGo.step (fun _ kk => XS.istore X34.here hx rfl (hb hby at_40) rfl (l' := #[.val (.int p1), .val (.int p2), .val (.int (Int32.ofNat klo1 - 8)), .val (.int (Int32.ofNat khi1 - 8)), .val (.int (Int32.ofNat kcl1 - 8)), .val (.int (Int32.ofNat kch1 - 8)), .val (.int (Int32.ofNat klo2 - 8)), .val (.int (Int32.ofNat khi2 - 8)), .unset, .unset, .unset, .unset, .unset]) rfl kk) ?_
  show OGo p e below (T34.setTop (mkF m 42 #[.val (.int p1), .val (.int p2), .val (.int (Int32.ofNat klo1 - 8)), .val (.int (Int32.ofNat khi1 - 8)), .val (.int (Int32.ofNat kcl1 - 8)), .val (.int (Int32.ofNat kch1 - 8)), .val (.int (Int32.ofNat klo2 - 8)), .val (.int (Int32.ofNat khi2 - 8)), .unset, .unset, .unset, .unset, .unset] [])) (OEnd s (fun v h L => v = some (.int (1 : Int32)) ∧ Fr n0 L) room_1.cells room_1.slots)
  refine OGo.step (fun _ kk => XS.iloadN X34.here hx rfl (hb hby at_42) rfl kk) ?_
  show OGo p e below (T34.setTop (mkF m 43 #[.val (.int p1), .val (.int p2), .val (.int (Int32.ofNat klo1 - 8)), .val (.int (Int32.ofNat khi1 - 8)), .val (.int (Int32.ofNat kcl1 - 8)), .val (.int (Int32.ofNat kch1 - 8)), .val (.int (Int32.ofNat klo2 - 8)), .val (.int (Int32.ofNat khi2 - 8)), .unset, .unset, .unset, .unset, .unset] [(.int p2)])) (OEnd s (fun v h L => v = some (.int (1 : Int32)) ∧ Fr n0 L) room_1.cells room_1.slots)
  refine OGo.step (fun _ kk => XS.bipush X34.here hx rfl (hb hby at_43) kk) ?_
  show OGo p e below (T34.setTop (mkF m 45 #[.val (.int p1), .val (.int p2), .val (.int (Int32.ofNat klo1 - 8)), .val (.int (Int32.ofNat khi1 - 8)), .val (.int (Int32.ofNat kcl1 - 8)), .val (.int (Int32.ofNat kch1 - 8)), .val (.int (Int32.ofNat klo2 - 8)), .val (.int (Int32.ofNat khi2 - 8)), .unset, .unset, .unset, .unset, .unset] [(.int (10 : Int32)), (.int p2)])) (OEnd s (fun v h L => v = some (.int (1 : Int32)) ∧ Fr n0 L) room_1.cells room_1.slots)
  refine own_callS X34 hx hZ (y := (⟨"com/example/haze_to_match/hazetomatch/UnitBoundsIsBelowPinLaw", "field", "(II)I"⟩ : MethodName)) hown (hw _ (List.mem_of_getElem? (i := 0) rfl)) (hw _ (List.mem_of_getElem? (i := 1) rfl)) (hw _ (List.mem_of_getElem? (i := 2) rfl)) (hw _ (List.mem_of_getElem? (i := 3) rfl)) (by decide) (W := 0) (own_rm1 l Z a0 hw [] p2 10 h0 n0 Z0) e34  (pc := 45) (Ls := #[.val (.int p1), .val (.int p2), .val (.int (Int32.ofNat klo1 - 8)), .val (.int (Int32.ofNat khi1 - 8)), .val (.int (Int32.ofNat kcl1 - 8)), .val (.int (Int32.ofNat kch1 - 8)), .val (.int (Int32.ofNat klo2 - 8)), .val (.int (Int32.ofNat khi2 - 8)), .unset, .unset, .unset, .unset, .unset]) (argsL := [(.int p2), (.int (10 : Int32))]) (rest := []) (by rw [hml]; rfl) (lenOf own_pd3 rfl) rfl (hb hby at_45) (by decide) (by decide) (by decide) (by decide) ?_
  intro v35 T35 L35 X35 hQ35
  obtain ⟨rfl, N35, e35⟩ := hQ35
  show OGo p e below (T35.setTop (mkF m 48 #[.val (.int p1), .val (.int p2), .val (.int (Int32.ofNat klo1 - 8)), .val (.int (Int32.ofNat khi1 - 8)), .val (.int (Int32.ofNat kcl1 - 8)), .val (.int (Int32.ofNat kch1 - 8)), .val (.int (Int32.ofNat klo2 - 8)), .val (.int (Int32.ofNat khi2 - 8)), .unset, .unset, .unset, .unset, .unset] [(.int (((p2.toUInt32 >>> ((10 : Int32) &&& 31).toUInt32).toInt32 &&& 31) - 8))])) (OEnd s (fun v h L => v = some (.int (1 : Int32)) ∧ Fr n0 L) room_1.cells room_1.slots)
  have Nc35 := Fr.app Nc34 N35
  obtain ⟨kcl2, hkcl2, ekcl2⟩ := own_field (p2.toUInt32 >>> ((10 : Int32) &&& 31).toUInt32).toInt32
  rw [ekcl2]
  show OGo p e below (T35.setTop (mkF m 48 #[.val (.int p1), .val (.int p2), .val (.int (Int32.ofNat klo1 - 8)), .val (.int (Int32.ofNat khi1 - 8)), .val (.int (Int32.ofNat kcl1 - 8)), .val (.int (Int32.ofNat kch1 - 8)), .val (.int (Int32.ofNat klo2 - 8)), .val (.int (Int32.ofNat khi2 - 8)), .unset, .unset, .unset, .unset, .unset] [(.int (Int32.ofNat kcl2 - 8))])) (OEnd s (fun v h L => v = some (.int (1 : Int32)) ∧ Fr n0 L) room_1.cells room_1.slots)
  refine OGo.step (fun _ kk => XS.istore X35.here hx rfl (hb hby at_48) rfl (l' := #[.val (.int p1), .val (.int p2), .val (.int (Int32.ofNat klo1 - 8)), .val (.int (Int32.ofNat khi1 - 8)), .val (.int (Int32.ofNat kcl1 - 8)), .val (.int (Int32.ofNat kch1 - 8)), .val (.int (Int32.ofNat klo2 - 8)), .val (.int (Int32.ofNat khi2 - 8)), .val (.int (Int32.ofNat kcl2 - 8)), .unset, .unset, .unset, .unset]) rfl kk) ?_
  show OGo p e below (T35.setTop (mkF m 50 #[.val (.int p1), .val (.int p2), .val (.int (Int32.ofNat klo1 - 8)), .val (.int (Int32.ofNat khi1 - 8)), .val (.int (Int32.ofNat kcl1 - 8)), .val (.int (Int32.ofNat kch1 - 8)), .val (.int (Int32.ofNat klo2 - 8)), .val (.int (Int32.ofNat khi2 - 8)), .val (.int (Int32.ofNat kcl2 - 8)), .unset, .unset, .unset, .unset] [])) (OEnd s (fun v h L => v = some (.int (1 : Int32)) ∧ Fr n0 L) room_1.cells room_1.slots)
  refine OGo.step (fun _ kk => XS.iloadN X35.here hx rfl (hb hby at_50) rfl kk) ?_
  show OGo p e below (T35.setTop (mkF m 51 #[.val (.int p1), .val (.int p2), .val (.int (Int32.ofNat klo1 - 8)), .val (.int (Int32.ofNat khi1 - 8)), .val (.int (Int32.ofNat kcl1 - 8)), .val (.int (Int32.ofNat kch1 - 8)), .val (.int (Int32.ofNat klo2 - 8)), .val (.int (Int32.ofNat khi2 - 8)), .val (.int (Int32.ofNat kcl2 - 8)), .unset, .unset, .unset, .unset] [(.int p2)])) (OEnd s (fun v h L => v = some (.int (1 : Int32)) ∧ Fr n0 L) room_1.cells room_1.slots)
  refine OGo.step (fun _ kk => XS.bipush X35.here hx rfl (hb hby at_51) kk) ?_
  show OGo p e below (T35.setTop (mkF m 53 #[.val (.int p1), .val (.int p2), .val (.int (Int32.ofNat klo1 - 8)), .val (.int (Int32.ofNat khi1 - 8)), .val (.int (Int32.ofNat kcl1 - 8)), .val (.int (Int32.ofNat kch1 - 8)), .val (.int (Int32.ofNat klo2 - 8)), .val (.int (Int32.ofNat khi2 - 8)), .val (.int (Int32.ofNat kcl2 - 8)), .unset, .unset, .unset, .unset] [(.int (15 : Int32)), (.int p2)])) (OEnd s (fun v h L => v = some (.int (1 : Int32)) ∧ Fr n0 L) room_1.cells room_1.slots)
  refine own_callS X35 hx hZ (y := (⟨"com/example/haze_to_match/hazetomatch/UnitBoundsIsBelowPinLaw", "field", "(II)I"⟩ : MethodName)) hown (hw _ (List.mem_of_getElem? (i := 0) rfl)) (hw _ (List.mem_of_getElem? (i := 1) rfl)) (hw _ (List.mem_of_getElem? (i := 2) rfl)) (hw _ (List.mem_of_getElem? (i := 3) rfl)) (by decide) (W := 0) (own_rm1 l Z a0 hw [] p2 15 h0 n0 Z0) e35  (pc := 53) (Ls := #[.val (.int p1), .val (.int p2), .val (.int (Int32.ofNat klo1 - 8)), .val (.int (Int32.ofNat khi1 - 8)), .val (.int (Int32.ofNat kcl1 - 8)), .val (.int (Int32.ofNat kch1 - 8)), .val (.int (Int32.ofNat klo2 - 8)), .val (.int (Int32.ofNat khi2 - 8)), .val (.int (Int32.ofNat kcl2 - 8)), .unset, .unset, .unset, .unset]) (argsL := [(.int p2), (.int (15 : Int32))]) (rest := []) (by rw [hml]; rfl) (lenOf own_pd3 rfl) rfl (hb hby at_53) (by decide) (by decide) (by decide) (by decide) ?_
  intro v36 T36 L36 X36 hQ36
  obtain ⟨rfl, N36, e36⟩ := hQ36
  show OGo p e below (T36.setTop (mkF m 56 #[.val (.int p1), .val (.int p2), .val (.int (Int32.ofNat klo1 - 8)), .val (.int (Int32.ofNat khi1 - 8)), .val (.int (Int32.ofNat kcl1 - 8)), .val (.int (Int32.ofNat kch1 - 8)), .val (.int (Int32.ofNat klo2 - 8)), .val (.int (Int32.ofNat khi2 - 8)), .val (.int (Int32.ofNat kcl2 - 8)), .unset, .unset, .unset, .unset] [(.int (((p2.toUInt32 >>> ((15 : Int32) &&& 31).toUInt32).toInt32 &&& 31) - 8))])) (OEnd s (fun v h L => v = some (.int (1 : Int32)) ∧ Fr n0 L) room_1.cells room_1.slots)
  have Nc36 := Fr.app Nc35 N36
  obtain ⟨kch2, hkch2, ekch2⟩ := own_field (p2.toUInt32 >>> ((15 : Int32) &&& 31).toUInt32).toInt32
  rw [ekch2]
  show OGo p e below (T36.setTop (mkF m 56 #[.val (.int p1), .val (.int p2), .val (.int (Int32.ofNat klo1 - 8)), .val (.int (Int32.ofNat khi1 - 8)), .val (.int (Int32.ofNat kcl1 - 8)), .val (.int (Int32.ofNat kch1 - 8)), .val (.int (Int32.ofNat klo2 - 8)), .val (.int (Int32.ofNat khi2 - 8)), .val (.int (Int32.ofNat kcl2 - 8)), .unset, .unset, .unset, .unset] [(.int (Int32.ofNat kch2 - 8))])) (OEnd s (fun v h L => v = some (.int (1 : Int32)) ∧ Fr n0 L) room_1.cells room_1.slots)
  refine OGo.step (fun _ kk => XS.istore X36.here hx rfl (hb hby at_56) rfl (l' := #[.val (.int p1), .val (.int p2), .val (.int (Int32.ofNat klo1 - 8)), .val (.int (Int32.ofNat khi1 - 8)), .val (.int (Int32.ofNat kcl1 - 8)), .val (.int (Int32.ofNat kch1 - 8)), .val (.int (Int32.ofNat klo2 - 8)), .val (.int (Int32.ofNat khi2 - 8)), .val (.int (Int32.ofNat kcl2 - 8)), .val (.int (Int32.ofNat kch2 - 8)), .unset, .unset, .unset]) rfl kk) ?_
  show OGo p e below (T36.setTop (mkF m 58 #[.val (.int p1), .val (.int p2), .val (.int (Int32.ofNat klo1 - 8)), .val (.int (Int32.ofNat khi1 - 8)), .val (.int (Int32.ofNat kcl1 - 8)), .val (.int (Int32.ofNat kch1 - 8)), .val (.int (Int32.ofNat klo2 - 8)), .val (.int (Int32.ofNat khi2 - 8)), .val (.int (Int32.ofNat kcl2 - 8)), .val (.int (Int32.ofNat kch2 - 8)), .unset, .unset, .unset] [])) (OEnd s (fun v h L => v = some (.int (1 : Int32)) ∧ Fr n0 L) room_1.cells room_1.slots)
  obtain ⟨T37, h37, X37, e37, E37, A37, D37, U37, st37⟩ := newO X36 hx hZ hown (hw _ (List.mem_of_getElem? (i := 4) rfl)) (hw _ (List.mem_of_getElem? (i := 5) rfl)) (hw _ (List.mem_of_getElem? (i := 6) rfl)) e36 (g := (mkF m 58 #[.val (.int p1), .val (.int p2), .val (.int (Int32.ofNat klo1 - 8)), .val (.int (Int32.ofNat khi1 - 8)), .val (.int (Int32.ofNat kcl1 - 8)), .val (.int (Int32.ofNat kch1 - 8)), .val (.int (Int32.ofNat klo2 - 8)), .val (.int (Int32.ofNat khi2 - 8)), .val (.int (Int32.ofNat kcl2 - 8)), .val (.int (Int32.ofNat kch2 - 8)), .unset, .unset, .unset] [])) rfl (hb hby at_58) (by decide) (by decide)
  obtain ⟨a, g37⟩ : ∃ z, z = h0.size := ⟨_, rfl⟩
  rw [← g37] at A37 D37 U37 st37
  refine OGo.step st37 ?_
  show OGo p e below (T37.setTop (mkF m 61 #[.val (.int p1), .val (.int p2), .val (.int (Int32.ofNat klo1 - 8)), .val (.int (Int32.ofNat khi1 - 8)), .val (.int (Int32.ofNat kcl1 - 8)), .val (.int (Int32.ofNat kch1 - 8)), .val (.int (Int32.ofNat klo2 - 8)), .val (.int (Int32.ofNat khi2 - 8)), .val (.int (Int32.ofNat kcl2 - 8)), .val (.int (Int32.ofNat kch2 - 8)), .unset, .unset, .unset] [(.ref a)])) (OEnd s (fun v h L => v = some (.int (1 : Int32)) ∧ Fr n0 L) room_1.cells room_1.slots)
  have gf_a : n0 ≤ a := Nat.le_trans Z0 (Nat.le_of_eq g37.symm)
  have sz37 : n0 ≤ h37.size := Nat.le_trans Z0 E37.1
  have F37_low : Fld Z h37 a "com/example/haze_to_match/hazetomatch/UnitBounds" "low" "D" (.double (0 : UInt64)) := D37 (Or.inr (hw _ (List.mem_of_getElem? (i := 33) rfl))) (ty := .double) (by decide)
  have F37_high : Fld Z h37 a "com/example/haze_to_match/hazetomatch/UnitBounds" "high" "D" (.double (0 : UInt64)) := D37 (Or.inr (hw _ (List.mem_of_getElem? (i := 35) rfl))) (ty := .double) (by decide)
  have F37_complementLow : Fld Z h37 a "com/example/haze_to_match/hazetomatch/UnitBounds" "complementLow" "D" (.double (0 : UInt64)) := D37 (Or.inr (hw _ (List.mem_of_getElem? (i := 37) rfl))) (ty := .double) (by decide)
  have F37_complementHigh : Fld Z h37 a "com/example/haze_to_match/hazetomatch/UnitBounds" "complementHigh" "D" (.double (0 : UInt64)) := D37 (Or.inr (hw _ (List.mem_of_getElem? (i := 39) rfl))) (ty := .double) (by decide)
  refine OGo.step (fun _ kk => XS.dup X37.here hx rfl (hb hby at_61) rfl rfl kk) ?_
  show OGo p e below (T37.setTop (mkF m 62 #[.val (.int p1), .val (.int p2), .val (.int (Int32.ofNat klo1 - 8)), .val (.int (Int32.ofNat khi1 - 8)), .val (.int (Int32.ofNat kcl1 - 8)), .val (.int (Int32.ofNat kch1 - 8)), .val (.int (Int32.ofNat klo2 - 8)), .val (.int (Int32.ofNat khi2 - 8)), .val (.int (Int32.ofNat kcl2 - 8)), .val (.int (Int32.ofNat kch2 - 8)), .unset, .unset, .unset] [(.ref a), (.ref a)])) (OEnd s (fun v h L => v = some (.int (1 : Int32)) ∧ Fr n0 L) room_1.cells room_1.slots)
  refine OGo.step (fun _ kk => XS.iloadN X37.here hx rfl (hb hby at_62) rfl kk) ?_
  show OGo p e below (T37.setTop (mkF m 63 #[.val (.int p1), .val (.int p2), .val (.int (Int32.ofNat klo1 - 8)), .val (.int (Int32.ofNat khi1 - 8)), .val (.int (Int32.ofNat kcl1 - 8)), .val (.int (Int32.ofNat kch1 - 8)), .val (.int (Int32.ofNat klo2 - 8)), .val (.int (Int32.ofNat khi2 - 8)), .val (.int (Int32.ofNat kcl2 - 8)), .val (.int (Int32.ofNat kch2 - 8)), .unset, .unset, .unset] [(.int (Int32.ofNat klo1 - 8)), (.ref a), (.ref a)])) (OEnd s (fun v h L => v = some (.int (1 : Int32)) ∧ Fr n0 L) room_1.cells room_1.slots)
  refine own_callS X37 hx hZ (y := (⟨"com/example/haze_to_match/hazetomatch/UnitBoundsIsBelowPinLaw", "asBound", "(I)D"⟩ : MethodName)) hown (hw _ (List.mem_of_getElem? (i := 7) rfl)) (hw _ (List.mem_of_getElem? (i := 8) rfl)) (hw _ (List.mem_of_getElem? (i := 2) rfl)) (hw _ (List.mem_of_getElem? (i := 9) rfl)) (by decide) (W := 2) (own_rm3 l Z a0 hw [] klo1 h37 n0 sz37 hklo1) e37  (pc := 63) (Ls := #[.val (.int p1), .val (.int p2), .val (.int (Int32.ofNat klo1 - 8)), .val (.int (Int32.ofNat khi1 - 8)), .val (.int (Int32.ofNat kcl1 - 8)), .val (.int (Int32.ofNat kch1 - 8)), .val (.int (Int32.ofNat klo2 - 8)), .val (.int (Int32.ofNat khi2 - 8)), .val (.int (Int32.ofNat kcl2 - 8)), .val (.int (Int32.ofNat kch2 - 8)), .unset, .unset, .unset]) (argsL := [(.int (Int32.ofNat klo1 - 8))]) (rest := [(.ref a), (.ref a)]) (by rw [hml]; rfl) (lenOf own_pd4 rfl) rfl (hb hby at_63) (by decide) (by decide) (by decide) (by decide) ?_
  intro v38 T38 L38 X38 hQ38
  obtain ⟨rfl, N38, e38⟩ := hQ38
  show OGo p e below (T38.setTop (mkF m 66 #[.val (.int p1), .val (.int p2), .val (.int (Int32.ofNat klo1 - 8)), .val (.int (Int32.ofNat khi1 - 8)), .val (.int (Int32.ofNat kcl1 - 8)), .val (.int (Int32.ofNat kch1 - 8)), .val (.int (Int32.ofNat klo2 - 8)), .val (.int (Int32.ofNat khi2 - 8)), .val (.int (Int32.ofNat kcl2 - 8)), .val (.int (Int32.ofNat kch2 - 8)), .unset, .unset, .unset] [(.double (own_ab klo1)), (.ref a), (.ref a)])) (OEnd s (fun v h L => v = some (.int (1 : Int32)) ∧ Fr n0 L) room_1.cells room_1.slots)
  have Nc38 := Fr.app Nc36 N38
  refine OGo.step (fun _ kk => XS.iloadN X38.here hx rfl (hb hby at_66) rfl kk) ?_
  show OGo p e below (T38.setTop (mkF m 67 #[.val (.int p1), .val (.int p2), .val (.int (Int32.ofNat klo1 - 8)), .val (.int (Int32.ofNat khi1 - 8)), .val (.int (Int32.ofNat kcl1 - 8)), .val (.int (Int32.ofNat kch1 - 8)), .val (.int (Int32.ofNat klo2 - 8)), .val (.int (Int32.ofNat khi2 - 8)), .val (.int (Int32.ofNat kcl2 - 8)), .val (.int (Int32.ofNat kch2 - 8)), .unset, .unset, .unset] [(.int (Int32.ofNat khi1 - 8)), (.double (own_ab klo1)), (.ref a), (.ref a)])) (OEnd s (fun v h L => v = some (.int (1 : Int32)) ∧ Fr n0 L) room_1.cells room_1.slots)
  refine own_callS X38 hx hZ (y := (⟨"com/example/haze_to_match/hazetomatch/UnitBoundsIsBelowPinLaw", "asBound", "(I)D"⟩ : MethodName)) hown (hw _ (List.mem_of_getElem? (i := 7) rfl)) (hw _ (List.mem_of_getElem? (i := 8) rfl)) (hw _ (List.mem_of_getElem? (i := 2) rfl)) (hw _ (List.mem_of_getElem? (i := 9) rfl)) (by decide) (W := 4) (own_rm3 l Z a0 hw [] khi1 h37 n0 sz37 hkhi1) e38  (pc := 67) (Ls := #[.val (.int p1), .val (.int p2), .val (.int (Int32.ofNat klo1 - 8)), .val (.int (Int32.ofNat khi1 - 8)), .val (.int (Int32.ofNat kcl1 - 8)), .val (.int (Int32.ofNat kch1 - 8)), .val (.int (Int32.ofNat klo2 - 8)), .val (.int (Int32.ofNat khi2 - 8)), .val (.int (Int32.ofNat kcl2 - 8)), .val (.int (Int32.ofNat kch2 - 8)), .unset, .unset, .unset]) (argsL := [(.int (Int32.ofNat khi1 - 8))]) (rest := [(.double (own_ab klo1)), (.ref a), (.ref a)]) (by rw [hml]; rfl) (lenOf own_pd4 rfl) rfl (hb hby at_67) (by decide) (by decide) (by decide) (by decide) ?_
  intro v39 T39 L39 X39 hQ39
  obtain ⟨rfl, N39, e39⟩ := hQ39
  show OGo p e below (T39.setTop (mkF m 70 #[.val (.int p1), .val (.int p2), .val (.int (Int32.ofNat klo1 - 8)), .val (.int (Int32.ofNat khi1 - 8)), .val (.int (Int32.ofNat kcl1 - 8)), .val (.int (Int32.ofNat kch1 - 8)), .val (.int (Int32.ofNat klo2 - 8)), .val (.int (Int32.ofNat khi2 - 8)), .val (.int (Int32.ofNat kcl2 - 8)), .val (.int (Int32.ofNat kch2 - 8)), .unset, .unset, .unset] [(.double (own_ab khi1)), (.double (own_ab klo1)), (.ref a), (.ref a)])) (OEnd s (fun v h L => v = some (.int (1 : Int32)) ∧ Fr n0 L) room_1.cells room_1.slots)
  have Nc39 := Fr.app Nc38 N39
  refine OGo.step (fun _ kk => XS.iload X39.here hx rfl (hb hby at_70) rfl kk) ?_
  show OGo p e below (T39.setTop (mkF m 72 #[.val (.int p1), .val (.int p2), .val (.int (Int32.ofNat klo1 - 8)), .val (.int (Int32.ofNat khi1 - 8)), .val (.int (Int32.ofNat kcl1 - 8)), .val (.int (Int32.ofNat kch1 - 8)), .val (.int (Int32.ofNat klo2 - 8)), .val (.int (Int32.ofNat khi2 - 8)), .val (.int (Int32.ofNat kcl2 - 8)), .val (.int (Int32.ofNat kch2 - 8)), .unset, .unset, .unset] [(.int (Int32.ofNat kcl1 - 8)), (.double (own_ab khi1)), (.double (own_ab klo1)), (.ref a), (.ref a)])) (OEnd s (fun v h L => v = some (.int (1 : Int32)) ∧ Fr n0 L) room_1.cells room_1.slots)
  refine own_callS X39 hx hZ (y := (⟨"com/example/haze_to_match/hazetomatch/UnitBoundsIsBelowPinLaw", "asBound", "(I)D"⟩ : MethodName)) hown (hw _ (List.mem_of_getElem? (i := 7) rfl)) (hw _ (List.mem_of_getElem? (i := 8) rfl)) (hw _ (List.mem_of_getElem? (i := 2) rfl)) (hw _ (List.mem_of_getElem? (i := 9) rfl)) (by decide) (W := 6) (own_rm3 l Z a0 hw [] kcl1 h37 n0 sz37 hkcl1) e39  (pc := 72) (Ls := #[.val (.int p1), .val (.int p2), .val (.int (Int32.ofNat klo1 - 8)), .val (.int (Int32.ofNat khi1 - 8)), .val (.int (Int32.ofNat kcl1 - 8)), .val (.int (Int32.ofNat kch1 - 8)), .val (.int (Int32.ofNat klo2 - 8)), .val (.int (Int32.ofNat khi2 - 8)), .val (.int (Int32.ofNat kcl2 - 8)), .val (.int (Int32.ofNat kch2 - 8)), .unset, .unset, .unset]) (argsL := [(.int (Int32.ofNat kcl1 - 8))]) (rest := [(.double (own_ab khi1)), (.double (own_ab klo1)), (.ref a), (.ref a)]) (by rw [hml]; rfl) (lenOf own_pd4 rfl) rfl (hb hby at_72) (by decide) (by decide) (by decide) (by decide) ?_
  intro v40 T40 L40 X40 hQ40
  obtain ⟨rfl, N40, e40⟩ := hQ40
  show OGo p e below (T40.setTop (mkF m 75 #[.val (.int p1), .val (.int p2), .val (.int (Int32.ofNat klo1 - 8)), .val (.int (Int32.ofNat khi1 - 8)), .val (.int (Int32.ofNat kcl1 - 8)), .val (.int (Int32.ofNat kch1 - 8)), .val (.int (Int32.ofNat klo2 - 8)), .val (.int (Int32.ofNat khi2 - 8)), .val (.int (Int32.ofNat kcl2 - 8)), .val (.int (Int32.ofNat kch2 - 8)), .unset, .unset, .unset] [(.double (own_ab kcl1)), (.double (own_ab khi1)), (.double (own_ab klo1)), (.ref a), (.ref a)])) (OEnd s (fun v h L => v = some (.int (1 : Int32)) ∧ Fr n0 L) room_1.cells room_1.slots)
  have Nc40 := Fr.app Nc39 N40
  refine OGo.step (fun _ kk => XS.iload X40.here hx rfl (hb hby at_75) rfl kk) ?_
  show OGo p e below (T40.setTop (mkF m 77 #[.val (.int p1), .val (.int p2), .val (.int (Int32.ofNat klo1 - 8)), .val (.int (Int32.ofNat khi1 - 8)), .val (.int (Int32.ofNat kcl1 - 8)), .val (.int (Int32.ofNat kch1 - 8)), .val (.int (Int32.ofNat klo2 - 8)), .val (.int (Int32.ofNat khi2 - 8)), .val (.int (Int32.ofNat kcl2 - 8)), .val (.int (Int32.ofNat kch2 - 8)), .unset, .unset, .unset] [(.int (Int32.ofNat kch1 - 8)), (.double (own_ab kcl1)), (.double (own_ab khi1)), (.double (own_ab klo1)), (.ref a), (.ref a)])) (OEnd s (fun v h L => v = some (.int (1 : Int32)) ∧ Fr n0 L) room_1.cells room_1.slots)
  refine own_callS X40 hx hZ (y := (⟨"com/example/haze_to_match/hazetomatch/UnitBoundsIsBelowPinLaw", "asBound", "(I)D"⟩ : MethodName)) hown (hw _ (List.mem_of_getElem? (i := 7) rfl)) (hw _ (List.mem_of_getElem? (i := 8) rfl)) (hw _ (List.mem_of_getElem? (i := 2) rfl)) (hw _ (List.mem_of_getElem? (i := 9) rfl)) (by decide) (W := 8) (own_rm3 l Z a0 hw [] kch1 h37 n0 sz37 hkch1) e40  (pc := 77) (Ls := #[.val (.int p1), .val (.int p2), .val (.int (Int32.ofNat klo1 - 8)), .val (.int (Int32.ofNat khi1 - 8)), .val (.int (Int32.ofNat kcl1 - 8)), .val (.int (Int32.ofNat kch1 - 8)), .val (.int (Int32.ofNat klo2 - 8)), .val (.int (Int32.ofNat khi2 - 8)), .val (.int (Int32.ofNat kcl2 - 8)), .val (.int (Int32.ofNat kch2 - 8)), .unset, .unset, .unset]) (argsL := [(.int (Int32.ofNat kch1 - 8))]) (rest := [(.double (own_ab kcl1)), (.double (own_ab khi1)), (.double (own_ab klo1)), (.ref a), (.ref a)]) (by rw [hml]; rfl) (lenOf own_pd4 rfl) rfl (hb hby at_77) (by decide) (by decide) (by decide) (by decide) ?_
  intro v41 T41 L41 X41 hQ41
  obtain ⟨rfl, N41, e41⟩ := hQ41
  show OGo p e below (T41.setTop (mkF m 80 #[.val (.int p1), .val (.int p2), .val (.int (Int32.ofNat klo1 - 8)), .val (.int (Int32.ofNat khi1 - 8)), .val (.int (Int32.ofNat kcl1 - 8)), .val (.int (Int32.ofNat kch1 - 8)), .val (.int (Int32.ofNat klo2 - 8)), .val (.int (Int32.ofNat khi2 - 8)), .val (.int (Int32.ofNat kcl2 - 8)), .val (.int (Int32.ofNat kch2 - 8)), .unset, .unset, .unset] [(.double (own_ab kch1)), (.double (own_ab kcl1)), (.double (own_ab khi1)), (.double (own_ab klo1)), (.ref a), (.ref a)])) (OEnd s (fun v h L => v = some (.int (1 : Int32)) ∧ Fr n0 L) room_1.cells room_1.slots)
  have Nc41 := Fr.app Nc40 N41
  refine own_special X41 hx hZ (y := (⟨"com/example/haze_to_match/hazetomatch/UnitBounds", "<init>", "(DDDD)V"⟩ : MethodName)) rfl hown (hw _ (List.mem_of_getElem? (i := 11) rfl)) (hw _ (List.mem_of_getElem? (i := 12) rfl)) (hw _ (List.mem_of_getElem? (i := 13) rfl)) (hw _ (List.mem_of_getElem? (i := 6) rfl)) (by decide) (a := a) (W := 1) (own_rm0i l Z a0 hw [] a (own_ab klo1) (own_ab khi1) (own_ab kcl1) (own_ab kch1) _ _ _ _ h37 n0 sz37 (own_nn_dec (own_ab_nn klo1 hklo1).1) (own_nn_dec (own_ab_nn klo1 hklo1).2) (own_nn_dec (own_ab_nn khi1 hkhi1).1) (own_nn_dec (own_ab_nn khi1 hkhi1).2) (own_nn_dec (own_ab_nn kcl1 hkcl1).1) (own_nn_dec (own_ab_nn kcl1 hkcl1).2) (own_nn_dec (own_ab_nn kch1 hkch1).1) (own_nn_dec (own_ab_nn kch1 hkch1).2) A37 F37_low F37_high F37_complementLow F37_complementHigh gf_a) e41  (pc := 80) (Ls := #[.val (.int p1), .val (.int p2), .val (.int (Int32.ofNat klo1 - 8)), .val (.int (Int32.ofNat khi1 - 8)), .val (.int (Int32.ofNat kcl1 - 8)), .val (.int (Int32.ofNat kch1 - 8)), .val (.int (Int32.ofNat klo2 - 8)), .val (.int (Int32.ofNat khi2 - 8)), .val (.int (Int32.ofNat kcl2 - 8)), .val (.int (Int32.ofNat kch2 - 8)), .unset, .unset, .unset]) (argsL := [(.double (own_ab klo1)), (.double (own_ab khi1)), (.double (own_ab kcl1)), (.double (own_ab kch1))]) (rest := [(.ref a)]) (by rw [hml]; rfl) (lenOf own_pd5 rfl) rfl (hb hby at_80) (by decide) (by decide) (by decide) (by decide) ?_
  intro v42 T42 L42 X42 hQ42
  obtain ⟨rfl, N42, K42, E_a, F_a_low, F_a_high, F_a_complementLow, F_a_complementHigh⟩ := hQ42
  show OGo p e below (T42.setTop (mkF m 83 #[.val (.int p1), .val (.int p2), .val (.int (Int32.ofNat klo1 - 8)), .val (.int (Int32.ofNat khi1 - 8)), .val (.int (Int32.ofNat kcl1 - 8)), .val (.int (Int32.ofNat kch1 - 8)), .val (.int (Int32.ofNat klo2 - 8)), .val (.int (Int32.ofNat khi2 - 8)), .val (.int (Int32.ofNat kcl2 - 8)), .val (.int (Int32.ofNat kch2 - 8)), .unset, .unset, .unset] [(.ref a)])) (OEnd s (fun v h L => v = some (.int (1 : Int32)) ∧ Fr n0 L) room_1.cells room_1.slots)
  have Nc42 := Fr.app Nc41 N42
  have sz42 : n0 ≤ T42.heap.size := Nat.le_trans sz37 K42.1
  refine OGo.step (fun _ kk => XS.astore X42.here hx rfl (hb hby at_83) rfl rfl (l' := #[.val (.int p1), .val (.int p2), .val (.int (Int32.ofNat klo1 - 8)), .val (.int (Int32.ofNat khi1 - 8)), .val (.int (Int32.ofNat kcl1 - 8)), .val (.int (Int32.ofNat kch1 - 8)), .val (.int (Int32.ofNat klo2 - 8)), .val (.int (Int32.ofNat khi2 - 8)), .val (.int (Int32.ofNat kcl2 - 8)), .val (.int (Int32.ofNat kch2 - 8)), .val (.ref a), .unset, .unset]) rfl kk) ?_
  show OGo p e below (T42.setTop (mkF m 85 #[.val (.int p1), .val (.int p2), .val (.int (Int32.ofNat klo1 - 8)), .val (.int (Int32.ofNat khi1 - 8)), .val (.int (Int32.ofNat kcl1 - 8)), .val (.int (Int32.ofNat kch1 - 8)), .val (.int (Int32.ofNat klo2 - 8)), .val (.int (Int32.ofNat khi2 - 8)), .val (.int (Int32.ofNat kcl2 - 8)), .val (.int (Int32.ofNat kch2 - 8)), .val (.ref a), .unset, .unset] [])) (OEnd s (fun v h L => v = some (.int (1 : Int32)) ∧ Fr n0 L) room_1.cells room_1.slots)
  obtain ⟨T43, h43, X43, e43, E43, A43, D43, U43, st43⟩ := newO X42 hx hZ hown (hw _ (List.mem_of_getElem? (i := 4) rfl)) (hw _ (List.mem_of_getElem? (i := 5) rfl)) (hw _ (List.mem_of_getElem? (i := 6) rfl)) rfl (g := (mkF m 85 #[.val (.int p1), .val (.int p2), .val (.int (Int32.ofNat klo1 - 8)), .val (.int (Int32.ofNat khi1 - 8)), .val (.int (Int32.ofNat kcl1 - 8)), .val (.int (Int32.ofNat kch1 - 8)), .val (.int (Int32.ofNat klo2 - 8)), .val (.int (Int32.ofNat khi2 - 8)), .val (.int (Int32.ofNat kcl2 - 8)), .val (.int (Int32.ofNat kch2 - 8)), .val (.ref a), .unset, .unset] [])) rfl (hb hby at_85) (by decide) (by decide)
  obtain ⟨b, g43⟩ : ∃ z, z = T42.heap.size := ⟨_, rfl⟩
  rw [← g43] at A43 D43 U43 st43
  refine OGo.step st43 ?_
  show OGo p e below (T43.setTop (mkF m 88 #[.val (.int p1), .val (.int p2), .val (.int (Int32.ofNat klo1 - 8)), .val (.int (Int32.ofNat khi1 - 8)), .val (.int (Int32.ofNat kcl1 - 8)), .val (.int (Int32.ofNat kch1 - 8)), .val (.int (Int32.ofNat klo2 - 8)), .val (.int (Int32.ofNat khi2 - 8)), .val (.int (Int32.ofNat kcl2 - 8)), .val (.int (Int32.ofNat kch2 - 8)), .val (.ref a), .unset, .unset] [(.ref b)])) (OEnd s (fun v h L => v = some (.int (1 : Int32)) ∧ Fr n0 L) room_1.cells room_1.slots)
  have ne_a_b : a ≠ b := Nat.ne_of_lt (Nat.lt_of_lt_of_le E_a.lt (Nat.le_of_eq g43.symm))
  have gf_b : n0 ≤ b := Nat.le_trans sz42 (Nat.le_of_eq g43.symm)
  have sz43 : n0 ≤ h43.size := Nat.le_trans sz42 E43.1
  have F43_low : Fld Z h43 b "com/example/haze_to_match/hazetomatch/UnitBounds" "low" "D" (.double (0 : UInt64)) := D43 (Or.inr (hw _ (List.mem_of_getElem? (i := 33) rfl))) (ty := .double) (by decide)
  have F43_high : Fld Z h43 b "com/example/haze_to_match/hazetomatch/UnitBounds" "high" "D" (.double (0 : UInt64)) := D43 (Or.inr (hw _ (List.mem_of_getElem? (i := 35) rfl))) (ty := .double) (by decide)
  have F43_complementLow : Fld Z h43 b "com/example/haze_to_match/hazetomatch/UnitBounds" "complementLow" "D" (.double (0 : UInt64)) := D43 (Or.inr (hw _ (List.mem_of_getElem? (i := 37) rfl))) (ty := .double) (by decide)
  have F43_complementHigh : Fld Z h43 b "com/example/haze_to_match/hazetomatch/UnitBounds" "complementHigh" "D" (.double (0 : UInt64)) := D43 (Or.inr (hw _ (List.mem_of_getElem? (i := 39) rfl))) (ty := .double) (by decide)
  refine OGo.step (fun _ kk => XS.dup X43.here hx rfl (hb hby at_88) rfl rfl kk) ?_
  show OGo p e below (T43.setTop (mkF m 89 #[.val (.int p1), .val (.int p2), .val (.int (Int32.ofNat klo1 - 8)), .val (.int (Int32.ofNat khi1 - 8)), .val (.int (Int32.ofNat kcl1 - 8)), .val (.int (Int32.ofNat kch1 - 8)), .val (.int (Int32.ofNat klo2 - 8)), .val (.int (Int32.ofNat khi2 - 8)), .val (.int (Int32.ofNat kcl2 - 8)), .val (.int (Int32.ofNat kch2 - 8)), .val (.ref a), .unset, .unset] [(.ref b), (.ref b)])) (OEnd s (fun v h L => v = some (.int (1 : Int32)) ∧ Fr n0 L) room_1.cells room_1.slots)
  refine OGo.step (fun _ kk => XS.iload X43.here hx rfl (hb hby at_89) rfl kk) ?_
  show OGo p e below (T43.setTop (mkF m 91 #[.val (.int p1), .val (.int p2), .val (.int (Int32.ofNat klo1 - 8)), .val (.int (Int32.ofNat khi1 - 8)), .val (.int (Int32.ofNat kcl1 - 8)), .val (.int (Int32.ofNat kch1 - 8)), .val (.int (Int32.ofNat klo2 - 8)), .val (.int (Int32.ofNat khi2 - 8)), .val (.int (Int32.ofNat kcl2 - 8)), .val (.int (Int32.ofNat kch2 - 8)), .val (.ref a), .unset, .unset] [(.int (Int32.ofNat klo2 - 8)), (.ref b), (.ref b)])) (OEnd s (fun v h L => v = some (.int (1 : Int32)) ∧ Fr n0 L) room_1.cells room_1.slots)
  refine own_callS X43 hx hZ (y := (⟨"com/example/haze_to_match/hazetomatch/UnitBoundsIsBelowPinLaw", "asBound", "(I)D"⟩ : MethodName)) hown (hw _ (List.mem_of_getElem? (i := 7) rfl)) (hw _ (List.mem_of_getElem? (i := 8) rfl)) (hw _ (List.mem_of_getElem? (i := 2) rfl)) (hw _ (List.mem_of_getElem? (i := 9) rfl)) (by decide) (W := 2) (own_rm3 l Z a0 hw [] klo2 h43 n0 sz43 hklo2) e43  (pc := 91) (Ls := #[.val (.int p1), .val (.int p2), .val (.int (Int32.ofNat klo1 - 8)), .val (.int (Int32.ofNat khi1 - 8)), .val (.int (Int32.ofNat kcl1 - 8)), .val (.int (Int32.ofNat kch1 - 8)), .val (.int (Int32.ofNat klo2 - 8)), .val (.int (Int32.ofNat khi2 - 8)), .val (.int (Int32.ofNat kcl2 - 8)), .val (.int (Int32.ofNat kch2 - 8)), .val (.ref a), .unset, .unset]) (argsL := [(.int (Int32.ofNat klo2 - 8))]) (rest := [(.ref b), (.ref b)]) (by rw [hml]; rfl) (lenOf own_pd4 rfl) rfl (hb hby at_91) (by decide) (by decide) (by decide) (by decide) ?_
  intro v44 T44 L44 X44 hQ44
  obtain ⟨rfl, N44, e44⟩ := hQ44
  show OGo p e below (T44.setTop (mkF m 94 #[.val (.int p1), .val (.int p2), .val (.int (Int32.ofNat klo1 - 8)), .val (.int (Int32.ofNat khi1 - 8)), .val (.int (Int32.ofNat kcl1 - 8)), .val (.int (Int32.ofNat kch1 - 8)), .val (.int (Int32.ofNat klo2 - 8)), .val (.int (Int32.ofNat khi2 - 8)), .val (.int (Int32.ofNat kcl2 - 8)), .val (.int (Int32.ofNat kch2 - 8)), .val (.ref a), .unset, .unset] [(.double (own_ab klo2)), (.ref b), (.ref b)])) (OEnd s (fun v h L => v = some (.int (1 : Int32)) ∧ Fr n0 L) room_1.cells room_1.slots)
  have Nc44 := Fr.app Nc42 N44
  refine OGo.step (fun _ kk => XS.iload X44.here hx rfl (hb hby at_94) rfl kk) ?_
  show OGo p e below (T44.setTop (mkF m 96 #[.val (.int p1), .val (.int p2), .val (.int (Int32.ofNat klo1 - 8)), .val (.int (Int32.ofNat khi1 - 8)), .val (.int (Int32.ofNat kcl1 - 8)), .val (.int (Int32.ofNat kch1 - 8)), .val (.int (Int32.ofNat klo2 - 8)), .val (.int (Int32.ofNat khi2 - 8)), .val (.int (Int32.ofNat kcl2 - 8)), .val (.int (Int32.ofNat kch2 - 8)), .val (.ref a), .unset, .unset] [(.int (Int32.ofNat khi2 - 8)), (.double (own_ab klo2)), (.ref b), (.ref b)])) (OEnd s (fun v h L => v = some (.int (1 : Int32)) ∧ Fr n0 L) room_1.cells room_1.slots)
  refine own_callS X44 hx hZ (y := (⟨"com/example/haze_to_match/hazetomatch/UnitBoundsIsBelowPinLaw", "asBound", "(I)D"⟩ : MethodName)) hown (hw _ (List.mem_of_getElem? (i := 7) rfl)) (hw _ (List.mem_of_getElem? (i := 8) rfl)) (hw _ (List.mem_of_getElem? (i := 2) rfl)) (hw _ (List.mem_of_getElem? (i := 9) rfl)) (by decide) (W := 4) (own_rm3 l Z a0 hw [] khi2 h43 n0 sz43 hkhi2) e44  (pc := 96) (Ls := #[.val (.int p1), .val (.int p2), .val (.int (Int32.ofNat klo1 - 8)), .val (.int (Int32.ofNat khi1 - 8)), .val (.int (Int32.ofNat kcl1 - 8)), .val (.int (Int32.ofNat kch1 - 8)), .val (.int (Int32.ofNat klo2 - 8)), .val (.int (Int32.ofNat khi2 - 8)), .val (.int (Int32.ofNat kcl2 - 8)), .val (.int (Int32.ofNat kch2 - 8)), .val (.ref a), .unset, .unset]) (argsL := [(.int (Int32.ofNat khi2 - 8))]) (rest := [(.double (own_ab klo2)), (.ref b), (.ref b)]) (by rw [hml]; rfl) (lenOf own_pd4 rfl) rfl (hb hby at_96) (by decide) (by decide) (by decide) (by decide) ?_
  intro v45 T45 L45 X45 hQ45
  obtain ⟨rfl, N45, e45⟩ := hQ45
  show OGo p e below (T45.setTop (mkF m 99 #[.val (.int p1), .val (.int p2), .val (.int (Int32.ofNat klo1 - 8)), .val (.int (Int32.ofNat khi1 - 8)), .val (.int (Int32.ofNat kcl1 - 8)), .val (.int (Int32.ofNat kch1 - 8)), .val (.int (Int32.ofNat klo2 - 8)), .val (.int (Int32.ofNat khi2 - 8)), .val (.int (Int32.ofNat kcl2 - 8)), .val (.int (Int32.ofNat kch2 - 8)), .val (.ref a), .unset, .unset] [(.double (own_ab khi2)), (.double (own_ab klo2)), (.ref b), (.ref b)])) (OEnd s (fun v h L => v = some (.int (1 : Int32)) ∧ Fr n0 L) room_1.cells room_1.slots)
  have Nc45 := Fr.app Nc44 N45
  refine OGo.step (fun _ kk => XS.iload X45.here hx rfl (hb hby at_99) rfl kk) ?_
  show OGo p e below (T45.setTop (mkF m 101 #[.val (.int p1), .val (.int p2), .val (.int (Int32.ofNat klo1 - 8)), .val (.int (Int32.ofNat khi1 - 8)), .val (.int (Int32.ofNat kcl1 - 8)), .val (.int (Int32.ofNat kch1 - 8)), .val (.int (Int32.ofNat klo2 - 8)), .val (.int (Int32.ofNat khi2 - 8)), .val (.int (Int32.ofNat kcl2 - 8)), .val (.int (Int32.ofNat kch2 - 8)), .val (.ref a), .unset, .unset] [(.int (Int32.ofNat kcl2 - 8)), (.double (own_ab khi2)), (.double (own_ab klo2)), (.ref b), (.ref b)])) (OEnd s (fun v h L => v = some (.int (1 : Int32)) ∧ Fr n0 L) room_1.cells room_1.slots)
  refine own_callS X45 hx hZ (y := (⟨"com/example/haze_to_match/hazetomatch/UnitBoundsIsBelowPinLaw", "asBound", "(I)D"⟩ : MethodName)) hown (hw _ (List.mem_of_getElem? (i := 7) rfl)) (hw _ (List.mem_of_getElem? (i := 8) rfl)) (hw _ (List.mem_of_getElem? (i := 2) rfl)) (hw _ (List.mem_of_getElem? (i := 9) rfl)) (by decide) (W := 6) (own_rm3 l Z a0 hw [] kcl2 h43 n0 sz43 hkcl2) e45  (pc := 101) (Ls := #[.val (.int p1), .val (.int p2), .val (.int (Int32.ofNat klo1 - 8)), .val (.int (Int32.ofNat khi1 - 8)), .val (.int (Int32.ofNat kcl1 - 8)), .val (.int (Int32.ofNat kch1 - 8)), .val (.int (Int32.ofNat klo2 - 8)), .val (.int (Int32.ofNat khi2 - 8)), .val (.int (Int32.ofNat kcl2 - 8)), .val (.int (Int32.ofNat kch2 - 8)), .val (.ref a), .unset, .unset]) (argsL := [(.int (Int32.ofNat kcl2 - 8))]) (rest := [(.double (own_ab khi2)), (.double (own_ab klo2)), (.ref b), (.ref b)]) (by rw [hml]; rfl) (lenOf own_pd4 rfl) rfl (hb hby at_101) (by decide) (by decide) (by decide) (by decide) ?_
  intro v46 T46 L46 X46 hQ46
  obtain ⟨rfl, N46, e46⟩ := hQ46
  show OGo p e below (T46.setTop (mkF m 104 #[.val (.int p1), .val (.int p2), .val (.int (Int32.ofNat klo1 - 8)), .val (.int (Int32.ofNat khi1 - 8)), .val (.int (Int32.ofNat kcl1 - 8)), .val (.int (Int32.ofNat kch1 - 8)), .val (.int (Int32.ofNat klo2 - 8)), .val (.int (Int32.ofNat khi2 - 8)), .val (.int (Int32.ofNat kcl2 - 8)), .val (.int (Int32.ofNat kch2 - 8)), .val (.ref a), .unset, .unset] [(.double (own_ab kcl2)), (.double (own_ab khi2)), (.double (own_ab klo2)), (.ref b), (.ref b)])) (OEnd s (fun v h L => v = some (.int (1 : Int32)) ∧ Fr n0 L) room_1.cells room_1.slots)
  have Nc46 := Fr.app Nc45 N46
  refine OGo.step (fun _ kk => XS.iload X46.here hx rfl (hb hby at_104) rfl kk) ?_
  show OGo p e below (T46.setTop (mkF m 106 #[.val (.int p1), .val (.int p2), .val (.int (Int32.ofNat klo1 - 8)), .val (.int (Int32.ofNat khi1 - 8)), .val (.int (Int32.ofNat kcl1 - 8)), .val (.int (Int32.ofNat kch1 - 8)), .val (.int (Int32.ofNat klo2 - 8)), .val (.int (Int32.ofNat khi2 - 8)), .val (.int (Int32.ofNat kcl2 - 8)), .val (.int (Int32.ofNat kch2 - 8)), .val (.ref a), .unset, .unset] [(.int (Int32.ofNat kch2 - 8)), (.double (own_ab kcl2)), (.double (own_ab khi2)), (.double (own_ab klo2)), (.ref b), (.ref b)])) (OEnd s (fun v h L => v = some (.int (1 : Int32)) ∧ Fr n0 L) room_1.cells room_1.slots)
  refine own_callS X46 hx hZ (y := (⟨"com/example/haze_to_match/hazetomatch/UnitBoundsIsBelowPinLaw", "asBound", "(I)D"⟩ : MethodName)) hown (hw _ (List.mem_of_getElem? (i := 7) rfl)) (hw _ (List.mem_of_getElem? (i := 8) rfl)) (hw _ (List.mem_of_getElem? (i := 2) rfl)) (hw _ (List.mem_of_getElem? (i := 9) rfl)) (by decide) (W := 8) (own_rm3 l Z a0 hw [] kch2 h43 n0 sz43 hkch2) e46  (pc := 106) (Ls := #[.val (.int p1), .val (.int p2), .val (.int (Int32.ofNat klo1 - 8)), .val (.int (Int32.ofNat khi1 - 8)), .val (.int (Int32.ofNat kcl1 - 8)), .val (.int (Int32.ofNat kch1 - 8)), .val (.int (Int32.ofNat klo2 - 8)), .val (.int (Int32.ofNat khi2 - 8)), .val (.int (Int32.ofNat kcl2 - 8)), .val (.int (Int32.ofNat kch2 - 8)), .val (.ref a), .unset, .unset]) (argsL := [(.int (Int32.ofNat kch2 - 8))]) (rest := [(.double (own_ab kcl2)), (.double (own_ab khi2)), (.double (own_ab klo2)), (.ref b), (.ref b)]) (by rw [hml]; rfl) (lenOf own_pd4 rfl) rfl (hb hby at_106) (by decide) (by decide) (by decide) (by decide) ?_
  intro v47 T47 L47 X47 hQ47
  obtain ⟨rfl, N47, e47⟩ := hQ47
  show OGo p e below (T47.setTop (mkF m 109 #[.val (.int p1), .val (.int p2), .val (.int (Int32.ofNat klo1 - 8)), .val (.int (Int32.ofNat khi1 - 8)), .val (.int (Int32.ofNat kcl1 - 8)), .val (.int (Int32.ofNat kch1 - 8)), .val (.int (Int32.ofNat klo2 - 8)), .val (.int (Int32.ofNat khi2 - 8)), .val (.int (Int32.ofNat kcl2 - 8)), .val (.int (Int32.ofNat kch2 - 8)), .val (.ref a), .unset, .unset] [(.double (own_ab kch2)), (.double (own_ab kcl2)), (.double (own_ab khi2)), (.double (own_ab klo2)), (.ref b), (.ref b)])) (OEnd s (fun v h L => v = some (.int (1 : Int32)) ∧ Fr n0 L) room_1.cells room_1.slots)
  have Nc47 := Fr.app Nc46 N47
  refine own_special X47 hx hZ (y := (⟨"com/example/haze_to_match/hazetomatch/UnitBounds", "<init>", "(DDDD)V"⟩ : MethodName)) rfl hown (hw _ (List.mem_of_getElem? (i := 11) rfl)) (hw _ (List.mem_of_getElem? (i := 12) rfl)) (hw _ (List.mem_of_getElem? (i := 13) rfl)) (hw _ (List.mem_of_getElem? (i := 6) rfl)) (by decide) (a := b) (W := 1) (own_rm0i l Z a0 hw [] b (own_ab klo2) (own_ab khi2) (own_ab kcl2) (own_ab kch2) _ _ _ _ h43 n0 sz43 (own_nn_dec (own_ab_nn klo2 hklo2).1) (own_nn_dec (own_ab_nn klo2 hklo2).2) (own_nn_dec (own_ab_nn khi2 hkhi2).1) (own_nn_dec (own_ab_nn khi2 hkhi2).2) (own_nn_dec (own_ab_nn kcl2 hkcl2).1) (own_nn_dec (own_ab_nn kcl2 hkcl2).2) (own_nn_dec (own_ab_nn kch2 hkch2).1) (own_nn_dec (own_ab_nn kch2 hkch2).2) A43 F43_low F43_high F43_complementLow F43_complementHigh gf_b) e47  (pc := 109) (Ls := #[.val (.int p1), .val (.int p2), .val (.int (Int32.ofNat klo1 - 8)), .val (.int (Int32.ofNat khi1 - 8)), .val (.int (Int32.ofNat kcl1 - 8)), .val (.int (Int32.ofNat kch1 - 8)), .val (.int (Int32.ofNat klo2 - 8)), .val (.int (Int32.ofNat khi2 - 8)), .val (.int (Int32.ofNat kcl2 - 8)), .val (.int (Int32.ofNat kch2 - 8)), .val (.ref a), .unset, .unset]) (argsL := [(.double (own_ab klo2)), (.double (own_ab khi2)), (.double (own_ab kcl2)), (.double (own_ab kch2))]) (rest := [(.ref b)]) (by rw [hml]; rfl) (lenOf own_pd5 rfl) rfl (hb hby at_109) (by decide) (by decide) (by decide) (by decide) ?_
  intro v48 T48 L48 X48 hQ48
  obtain ⟨rfl, N48, K48, E_b, F_b_low, F_b_high, F_b_complementLow, F_b_complementHigh⟩ := hQ48
  show OGo p e below (T48.setTop (mkF m 112 #[.val (.int p1), .val (.int p2), .val (.int (Int32.ofNat klo1 - 8)), .val (.int (Int32.ofNat khi1 - 8)), .val (.int (Int32.ofNat kcl1 - 8)), .val (.int (Int32.ofNat kch1 - 8)), .val (.int (Int32.ofNat klo2 - 8)), .val (.int (Int32.ofNat khi2 - 8)), .val (.int (Int32.ofNat kcl2 - 8)), .val (.int (Int32.ofNat kch2 - 8)), .val (.ref a), .unset, .unset] [(.ref b)])) (OEnd s (fun v h L => v = some (.int (1 : Int32)) ∧ Fr n0 L) room_1.cells room_1.slots)
  have Nc48 := Fr.app Nc47 N48
  have sz48 : n0 ≤ T48.heap.size := Nat.le_trans sz43 K48.1
  have fc49 := ((F_a_low.ext E43).keep K48 (ninS ne_a_b nin0))
  have fc50 := ((F_a_high.ext E43).keep K48 (ninS ne_a_b nin0))
  have fc51 := ((F_a_complementLow.ext E43).keep K48 (ninS ne_a_b nin0))
  have fc52 := ((F_a_complementHigh.ext E43).keep K48 (ninS ne_a_b nin0))
  have fc53 := ((E_a.ext E43).keep K48)
  refine OGo.step (fun _ kk => XS.astore X48.here hx rfl (hb hby at_112) rfl rfl (l' := #[.val (.int p1), .val (.int p2), .val (.int (Int32.ofNat klo1 - 8)), .val (.int (Int32.ofNat khi1 - 8)), .val (.int (Int32.ofNat kcl1 - 8)), .val (.int (Int32.ofNat kch1 - 8)), .val (.int (Int32.ofNat klo2 - 8)), .val (.int (Int32.ofNat khi2 - 8)), .val (.int (Int32.ofNat kcl2 - 8)), .val (.int (Int32.ofNat kch2 - 8)), .val (.ref a), .val (.ref b), .unset]) rfl kk) ?_
  show OGo p e below (T48.setTop (mkF m 114 #[.val (.int p1), .val (.int p2), .val (.int (Int32.ofNat klo1 - 8)), .val (.int (Int32.ofNat khi1 - 8)), .val (.int (Int32.ofNat kcl1 - 8)), .val (.int (Int32.ofNat kch1 - 8)), .val (.int (Int32.ofNat klo2 - 8)), .val (.int (Int32.ofNat khi2 - 8)), .val (.int (Int32.ofNat kcl2 - 8)), .val (.int (Int32.ofNat kch2 - 8)), .val (.ref a), .val (.ref b), .unset] [])) (OEnd s (fun v h L => v = some (.int (1 : Int32)) ∧ Fr n0 L) room_1.cells room_1.slots)
  refine OGo.step (fun _ kk => XS.iloadN X48.here hx rfl (hb hby at_114) rfl kk) ?_
  show OGo p e below (T48.setTop (mkF m 115 #[.val (.int p1), .val (.int p2), .val (.int (Int32.ofNat klo1 - 8)), .val (.int (Int32.ofNat khi1 - 8)), .val (.int (Int32.ofNat kcl1 - 8)), .val (.int (Int32.ofNat kch1 - 8)), .val (.int (Int32.ofNat klo2 - 8)), .val (.int (Int32.ofNat khi2 - 8)), .val (.int (Int32.ofNat kcl2 - 8)), .val (.int (Int32.ofNat kch2 - 8)), .val (.ref a), .val (.ref b), .unset] [(.int (Int32.ofNat khi1 - 8))])) (OEnd s (fun v h L => v = some (.int (1 : Int32)) ∧ Fr n0 L) room_1.cells room_1.slots)
  refine own_callS X48 hx hZ (y := (⟨"com/example/haze_to_match/hazetomatch/UnitBoundsIsBelowPinLaw", "clamp", "(I)I"⟩ : MethodName)) hown (hw _ (List.mem_of_getElem? (i := 40) rfl)) (hw _ (List.mem_of_getElem? (i := 41) rfl)) (hw _ (List.mem_of_getElem? (i := 2) rfl)) (hw _ (List.mem_of_getElem? (i := 42) rfl)) (by decide) (W := 0) (own_rm4 l Z a0 hw [] (Int32.ofNat khi1 - 8) T48.heap n0 sz48) rfl  (pc := 115) (Ls := #[.val (.int p1), .val (.int p2), .val (.int (Int32.ofNat klo1 - 8)), .val (.int (Int32.ofNat khi1 - 8)), .val (.int (Int32.ofNat kcl1 - 8)), .val (.int (Int32.ofNat kch1 - 8)), .val (.int (Int32.ofNat klo2 - 8)), .val (.int (Int32.ofNat khi2 - 8)), .val (.int (Int32.ofNat kcl2 - 8)), .val (.int (Int32.ofNat kch2 - 8)), .val (.ref a), .val (.ref b), .unset]) (argsL := [(.int (Int32.ofNat khi1 - 8))]) (rest := []) (by rw [hml]; rfl) (lenOf own_pd6 rfl) rfl (hb hby at_115) (by decide) (by decide) (by decide) (by decide) ?_
  intro v54 T54 L54 X54 hQ54
  obtain ⟨rfl, N54, e54⟩ := hQ54
  show OGo p e below (T54.setTop (mkF m 118 #[.val (.int p1), .val (.int p2), .val (.int (Int32.ofNat klo1 - 8)), .val (.int (Int32.ofNat khi1 - 8)), .val (.int (Int32.ofNat kcl1 - 8)), .val (.int (Int32.ofNat kch1 - 8)), .val (.int (Int32.ofNat klo2 - 8)), .val (.int (Int32.ofNat khi2 - 8)), .val (.int (Int32.ofNat kcl2 - 8)), .val (.int (Int32.ofNat kch2 - 8)), .val (.ref a), .val (.ref b), .unset] [(.int (own_cl (Int32.ofNat khi1 - 8)))])) (OEnd s (fun v h L => v = some (.int (1 : Int32)) ∧ Fr n0 L) room_1.cells room_1.slots)
  have Nc54 := Fr.app Nc48 N54
  refine OGo.step (fun _ kk => XS.iload X54.here hx rfl (hb hby at_118) rfl kk) ?_
  show OGo p e below (T54.setTop (mkF m 120 #[.val (.int p1), .val (.int p2), .val (.int (Int32.ofNat klo1 - 8)), .val (.int (Int32.ofNat khi1 - 8)), .val (.int (Int32.ofNat kcl1 - 8)), .val (.int (Int32.ofNat kch1 - 8)), .val (.int (Int32.ofNat klo2 - 8)), .val (.int (Int32.ofNat khi2 - 8)), .val (.int (Int32.ofNat kcl2 - 8)), .val (.int (Int32.ofNat kch2 - 8)), .val (.ref a), .val (.ref b), .unset] [(.int (Int32.ofNat klo2 - 8)), (.int (own_cl (Int32.ofNat khi1 - 8)))])) (OEnd s (fun v h L => v = some (.int (1 : Int32)) ∧ Fr n0 L) room_1.cells room_1.slots)
  refine own_callS X54 hx hZ (y := (⟨"com/example/haze_to_match/hazetomatch/UnitBoundsIsBelowPinLaw", "clamp", "(I)I"⟩ : MethodName)) hown (hw _ (List.mem_of_getElem? (i := 40) rfl)) (hw _ (List.mem_of_getElem? (i := 41) rfl)) (hw _ (List.mem_of_getElem? (i := 2) rfl)) (hw _ (List.mem_of_getElem? (i := 42) rfl)) (by decide) (W := 1) (own_rm4 l Z a0 hw [] (Int32.ofNat klo2 - 8) T48.heap n0 sz48) e54  (pc := 120) (Ls := #[.val (.int p1), .val (.int p2), .val (.int (Int32.ofNat klo1 - 8)), .val (.int (Int32.ofNat khi1 - 8)), .val (.int (Int32.ofNat kcl1 - 8)), .val (.int (Int32.ofNat kch1 - 8)), .val (.int (Int32.ofNat klo2 - 8)), .val (.int (Int32.ofNat khi2 - 8)), .val (.int (Int32.ofNat kcl2 - 8)), .val (.int (Int32.ofNat kch2 - 8)), .val (.ref a), .val (.ref b), .unset]) (argsL := [(.int (Int32.ofNat klo2 - 8))]) (rest := [(.int (own_cl (Int32.ofNat khi1 - 8)))]) (by rw [hml]; rfl) (lenOf own_pd6 rfl) rfl (hb hby at_120) (by decide) (by decide) (by decide) (by decide) ?_
  intro v55 T55 L55 X55 hQ55
  obtain ⟨rfl, N55, e55⟩ := hQ55
  show OGo p e below (T55.setTop (mkF m 123 #[.val (.int p1), .val (.int p2), .val (.int (Int32.ofNat klo1 - 8)), .val (.int (Int32.ofNat khi1 - 8)), .val (.int (Int32.ofNat kcl1 - 8)), .val (.int (Int32.ofNat kch1 - 8)), .val (.int (Int32.ofNat klo2 - 8)), .val (.int (Int32.ofNat khi2 - 8)), .val (.int (Int32.ofNat kcl2 - 8)), .val (.int (Int32.ofNat kch2 - 8)), .val (.ref a), .val (.ref b), .unset] [(.int (own_cl (Int32.ofNat klo2 - 8))), (.int (own_cl (Int32.ofNat khi1 - 8)))])) (OEnd s (fun v h L => v = some (.int (1 : Int32)) ∧ Fr n0 L) room_1.cells room_1.slots)
  have Nc55 := Fr.app Nc54 N55
  have q1 := own_lt_tab khi1 hkhi1 klo2 hklo2
  have q2 := own_gt_tab kcl1 hkcl1 kch2 hkch2
  rw [decide_eq_decide] at q1 q2
  by_cases hc1 : (own_cl (Int32.ofNat khi1 - 8)) < (own_cl (Int32.ofNat klo2 - 8))
  · refine OGo.step (fun _ kk => XS.icmpYes X55.here hx rfl (pc0 := 123) (pc' := 139) rfl (hb hby at_123) rfl (tlt hc1).1 (by decide) (by decide) kk) ?_
    show OGo p e below (T55.setTop (mkF m 139 #[.val (.int p1), .val (.int p2), .val (.int (Int32.ofNat klo1 - 8)), .val (.int (Int32.ofNat khi1 - 8)), .val (.int (Int32.ofNat kcl1 - 8)), .val (.int (Int32.ofNat kch1 - 8)), .val (.int (Int32.ofNat klo2 - 8)), .val (.int (Int32.ofNat khi2 - 8)), .val (.int (Int32.ofNat kcl2 - 8)), .val (.int (Int32.ofNat kch2 - 8)), .val (.ref a), .val (.ref b), .unset] [])) (OEnd s (fun v h L => v = some (.int (1 : Int32)) ∧ Fr n0 L) room_1.cells room_1.slots)
    refine OGo.step (fun _ kk => XS.iconst X55.here hx rfl (hb hby at_139) kk) ?_
    show OGo p e below (T55.setTop (mkF m 140 #[.val (.int p1), .val (.int p2), .val (.int (Int32.ofNat klo1 - 8)), .val (.int (Int32.ofNat khi1 - 8)), .val (.int (Int32.ofNat kcl1 - 8)), .val (.int (Int32.ofNat kch1 - 8)), .val (.int (Int32.ofNat klo2 - 8)), .val (.int (Int32.ofNat khi2 - 8)), .val (.int (Int32.ofNat kcl2 - 8)), .val (.int (Int32.ofNat kch2 - 8)), .val (.ref a), .val (.ref b), .unset] [(.int (1 : Int32))])) (OEnd s (fun v h L => v = some (.int (1 : Int32)) ∧ Fr n0 L) room_1.cells room_1.slots)
    refine OGo.step (fun _ kk => XS.goto X55.here hx rfl (pc0 := 140) (pc' := 144) rfl (hb hby at_140) (by decide) (by decide) kk) ?_
    show OGo p e below (T55.setTop (mkF m 144 #[.val (.int p1), .val (.int p2), .val (.int (Int32.ofNat klo1 - 8)), .val (.int (Int32.ofNat khi1 - 8)), .val (.int (Int32.ofNat kcl1 - 8)), .val (.int (Int32.ofNat kch1 - 8)), .val (.int (Int32.ofNat klo2 - 8)), .val (.int (Int32.ofNat khi2 - 8)), .val (.int (Int32.ofNat kcl2 - 8)), .val (.int (Int32.ofNat kch2 - 8)), .val (.ref a), .val (.ref b), .unset] [(.int (1 : Int32))])) (OEnd s (fun v h L => v = some (.int (1 : Int32)) ∧ Fr n0 L) room_1.cells room_1.slots)
    refine OGo.step (fun _ kk => XS.istore X55.here hx rfl (hb hby at_144) rfl (l' := #[.val (.int p1), .val (.int p2), .val (.int (Int32.ofNat klo1 - 8)), .val (.int (Int32.ofNat khi1 - 8)), .val (.int (Int32.ofNat kcl1 - 8)), .val (.int (Int32.ofNat kch1 - 8)), .val (.int (Int32.ofNat klo2 - 8)), .val (.int (Int32.ofNat khi2 - 8)), .val (.int (Int32.ofNat kcl2 - 8)), .val (.int (Int32.ofNat kch2 - 8)), .val (.ref a), .val (.ref b), .val (.int (1 : Int32))]) rfl kk) ?_
    show OGo p e below (T55.setTop (mkF m 146 #[.val (.int p1), .val (.int p2), .val (.int (Int32.ofNat klo1 - 8)), .val (.int (Int32.ofNat khi1 - 8)), .val (.int (Int32.ofNat kcl1 - 8)), .val (.int (Int32.ofNat kch1 - 8)), .val (.int (Int32.ofNat klo2 - 8)), .val (.int (Int32.ofNat khi2 - 8)), .val (.int (Int32.ofNat kcl2 - 8)), .val (.int (Int32.ofNat kch2 - 8)), .val (.ref a), .val (.ref b), .val (.int (1 : Int32))] [])) (OEnd s (fun v h L => v = some (.int (1 : Int32)) ∧ Fr n0 L) room_1.cells room_1.slots)
    refine OGo.step (fun _ kk => XS.aload X55.here hx rfl (hb hby at_146) rfl rfl kk) ?_
    show OGo p e below (T55.setTop (mkF m 148 #[.val (.int p1), .val (.int p2), .val (.int (Int32.ofNat klo1 - 8)), .val (.int (Int32.ofNat khi1 - 8)), .val (.int (Int32.ofNat kcl1 - 8)), .val (.int (Int32.ofNat kch1 - 8)), .val (.int (Int32.ofNat klo2 - 8)), .val (.int (Int32.ofNat khi2 - 8)), .val (.int (Int32.ofNat kcl2 - 8)), .val (.int (Int32.ofNat kch2 - 8)), .val (.ref a), .val (.ref b), .val (.int (1 : Int32))] [(.ref a)])) (OEnd s (fun v h L => v = some (.int (1 : Int32)) ∧ Fr n0 L) room_1.cells room_1.slots)
    refine OGo.step (fun _ kk => XS.aload X55.here hx rfl (hb hby at_148) rfl rfl kk) ?_
    show OGo p e below (T55.setTop (mkF m 150 #[.val (.int p1), .val (.int p2), .val (.int (Int32.ofNat klo1 - 8)), .val (.int (Int32.ofNat khi1 - 8)), .val (.int (Int32.ofNat kcl1 - 8)), .val (.int (Int32.ofNat kch1 - 8)), .val (.int (Int32.ofNat klo2 - 8)), .val (.int (Int32.ofNat khi2 - 8)), .val (.int (Int32.ofNat kcl2 - 8)), .val (.int (Int32.ofNat kch2 - 8)), .val (.ref a), .val (.ref b), .val (.int (1 : Int32))] [(.ref b), (.ref a)])) (OEnd s (fun v h L => v = some (.int (1 : Int32)) ∧ Fr n0 L) room_1.cells room_1.slots)
    refine own_virtual X55 hx hZ (y := (⟨"com/example/haze_to_match/hazetomatch/UnitBounds", "isBelow", "(Lcom/example/haze_to_match/hazetomatch/UnitBounds;)Z"⟩ : MethodName)) (z := (⟨"com/example/haze_to_match/hazetomatch/UnitBounds", "isBelow", "(Lcom/example/haze_to_match/hazetomatch/UnitBounds;)Z"⟩ : MethodName)) hown (hw _ (List.mem_of_getElem? (i := 49) rfl)) (hw _ (List.mem_of_getElem? (i := 50) rfl)) (notFace_of_selects (args := #[]) (mvT hZ (hw _ (List.mem_of_getElem? (i := 52) rfl)))) (hw _ (List.mem_of_getElem? (i := 52) rfl)) (hw _ (List.mem_of_getElem? (i := 51) rfl)) (by decide) (hw _ (List.mem_of_getElem? (i := 53) rfl)) (hw _ (List.mem_of_getElem? (i := 6) rfl)) (b := a) fc53 (W := 0) (own_rm5 l Z a0 hw [] a b _ _ _ _ T48.heap n0 sz48 fc50 F_b_low fc51 F_b_complementHigh) e55  (pc := 150) (Ls := #[.val (.int p1), .val (.int p2), .val (.int (Int32.ofNat klo1 - 8)), .val (.int (Int32.ofNat khi1 - 8)), .val (.int (Int32.ofNat kcl1 - 8)), .val (.int (Int32.ofNat kch1 - 8)), .val (.int (Int32.ofNat klo2 - 8)), .val (.int (Int32.ofNat khi2 - 8)), .val (.int (Int32.ofNat kcl2 - 8)), .val (.int (Int32.ofNat kch2 - 8)), .val (.ref a), .val (.ref b), .val (.int (1 : Int32))]) (argsL := [(.ref b)]) (rest := []) (by rw [hml]; rfl) (lenOf own_pd7 rfl) rfl (hb hby at_150) (by decide) (by decide) (by decide) (by decide) ?_
    intro v56 T56 L56 X56 hQ56
    obtain ⟨rfl, N56, e56⟩ := hQ56
    show OGo p e below (T56.setTop (mkF m 153 #[.val (.int p1), .val (.int p2), .val (.int (Int32.ofNat klo1 - 8)), .val (.int (Int32.ofNat khi1 - 8)), .val (.int (Int32.ofNat kcl1 - 8)), .val (.int (Int32.ofNat kch1 - 8)), .val (.int (Int32.ofNat klo2 - 8)), .val (.int (Int32.ofNat khi2 - 8)), .val (.int (Int32.ofNat kcl2 - 8)), .val (.int (Int32.ofNat kch2 - 8)), .val (.ref a), .val (.ref b), .val (.int (1 : Int32))] [(.int (if cmpValue (FP.dcmp (own_un (own_ab khi1)) (own_un (own_ab klo2))) .g < 0 ∨ 0 < cmpValue (FP.dcmp (own_un (own_ab kcl1)) (own_un (own_ab kch2))) .l then (1 : Int32) else 0))])) (OEnd s (fun v h L => v = some (.int (1 : Int32)) ∧ Fr n0 L) room_1.cells room_1.slots)
    have Nc56 := Fr.app Nc55 N56
    rw [if_pos (Or.inl (q1.mpr hc1))]
    show OGo p e below (T56.setTop (mkF m 153 #[.val (.int p1), .val (.int p2), .val (.int (Int32.ofNat klo1 - 8)), .val (.int (Int32.ofNat khi1 - 8)), .val (.int (Int32.ofNat kcl1 - 8)), .val (.int (Int32.ofNat kch1 - 8)), .val (.int (Int32.ofNat klo2 - 8)), .val (.int (Int32.ofNat khi2 - 8)), .val (.int (Int32.ofNat kcl2 - 8)), .val (.int (Int32.ofNat kch2 - 8)), .val (.ref a), .val (.ref b), .val (.int (1 : Int32))] [(.int (1 : Int32))])) (OEnd s (fun v h L => v = some (.int (1 : Int32)) ∧ Fr n0 L) room_1.cells room_1.slots)
    refine OGo.step (fun _ kk => XS.iload X56.here hx rfl (hb hby at_153) rfl kk) ?_
    show OGo p e below (T56.setTop (mkF m 155 #[.val (.int p1), .val (.int p2), .val (.int (Int32.ofNat klo1 - 8)), .val (.int (Int32.ofNat khi1 - 8)), .val (.int (Int32.ofNat kcl1 - 8)), .val (.int (Int32.ofNat kch1 - 8)), .val (.int (Int32.ofNat klo2 - 8)), .val (.int (Int32.ofNat khi2 - 8)), .val (.int (Int32.ofNat kcl2 - 8)), .val (.int (Int32.ofNat kch2 - 8)), .val (.ref a), .val (.ref b), .val (.int (1 : Int32))] [(.int (1 : Int32)), (.int (1 : Int32))])) (OEnd s (fun v h L => v = some (.int (1 : Int32)) ∧ Fr n0 L) room_1.cells room_1.slots)
    refine OGo.step (fun _ kk => XS.icmpNo X56.here hx rfl (hb hby at_155) rfl (teq rfl).2 kk) ?_
    show OGo p e below (T56.setTop (mkF m 158 #[.val (.int p1), .val (.int p2), .val (.int (Int32.ofNat klo1 - 8)), .val (.int (Int32.ofNat khi1 - 8)), .val (.int (Int32.ofNat kcl1 - 8)), .val (.int (Int32.ofNat kch1 - 8)), .val (.int (Int32.ofNat klo2 - 8)), .val (.int (Int32.ofNat khi2 - 8)), .val (.int (Int32.ofNat kcl2 - 8)), .val (.int (Int32.ofNat kch2 - 8)), .val (.ref a), .val (.ref b), .val (.int (1 : Int32))] [])) (OEnd s (fun v h L => v = some (.int (1 : Int32)) ∧ Fr n0 L) room_1.cells room_1.slots)
    refine OGo.step (fun _ kk => XS.iconst X56.here hx rfl (hb hby at_158) kk) ?_
    show OGo p e below (T56.setTop (mkF m 159 #[.val (.int p1), .val (.int p2), .val (.int (Int32.ofNat klo1 - 8)), .val (.int (Int32.ofNat khi1 - 8)), .val (.int (Int32.ofNat kcl1 - 8)), .val (.int (Int32.ofNat kch1 - 8)), .val (.int (Int32.ofNat klo2 - 8)), .val (.int (Int32.ofNat khi2 - 8)), .val (.int (Int32.ofNat kcl2 - 8)), .val (.int (Int32.ofNat kch2 - 8)), .val (.ref a), .val (.ref b), .val (.int (1 : Int32))] [(.int (1 : Int32))])) (OEnd s (fun v h L => v = some (.int (1 : Int32)) ∧ Fr n0 L) room_1.cells room_1.slots)
    refine OGo.step (fun _ kk => XS.goto X56.here hx rfl (pc0 := 159) (pc' := 163) rfl (hb hby at_159) (by decide) (by decide) kk) ?_
    show OGo p e below (T56.setTop (mkF m 163 #[.val (.int p1), .val (.int p2), .val (.int (Int32.ofNat klo1 - 8)), .val (.int (Int32.ofNat khi1 - 8)), .val (.int (Int32.ofNat kcl1 - 8)), .val (.int (Int32.ofNat kch1 - 8)), .val (.int (Int32.ofNat klo2 - 8)), .val (.int (Int32.ofNat khi2 - 8)), .val (.int (Int32.ofNat kcl2 - 8)), .val (.int (Int32.ofNat kch2 - 8)), .val (.ref a), .val (.ref b), .val (.int (1 : Int32))] [(.int (1 : Int32))])) (OEnd s (fun v h L => v = some (.int (1 : Int32)) ∧ Fr n0 L) room_1.cells room_1.slots)
    exact own_retN X56 hx hlk hret (by simp) (hb hby at_163) ⟨rfl, Nc56⟩ (by decide) (by decide)
  · refine OGo.step (fun _ kk => XS.icmpNo X55.here hx rfl (hb hby at_123) rfl (flt hc1).1 kk) ?_
    show OGo p e below (T55.setTop (mkF m 126 #[.val (.int p1), .val (.int p2), .val (.int (Int32.ofNat klo1 - 8)), .val (.int (Int32.ofNat khi1 - 8)), .val (.int (Int32.ofNat kcl1 - 8)), .val (.int (Int32.ofNat kch1 - 8)), .val (.int (Int32.ofNat klo2 - 8)), .val (.int (Int32.ofNat khi2 - 8)), .val (.int (Int32.ofNat kcl2 - 8)), .val (.int (Int32.ofNat kch2 - 8)), .val (.ref a), .val (.ref b), .unset] [])) (OEnd s (fun v h L => v = some (.int (1 : Int32)) ∧ Fr n0 L) room_1.cells room_1.slots)
    refine OGo.step (fun _ kk => XS.iload X55.here hx rfl (hb hby at_126) rfl kk) ?_
    show OGo p e below (T55.setTop (mkF m 128 #[.val (.int p1), .val (.int p2), .val (.int (Int32.ofNat klo1 - 8)), .val (.int (Int32.ofNat khi1 - 8)), .val (.int (Int32.ofNat kcl1 - 8)), .val (.int (Int32.ofNat kch1 - 8)), .val (.int (Int32.ofNat klo2 - 8)), .val (.int (Int32.ofNat khi2 - 8)), .val (.int (Int32.ofNat kcl2 - 8)), .val (.int (Int32.ofNat kch2 - 8)), .val (.ref a), .val (.ref b), .unset] [(.int (Int32.ofNat kcl1 - 8))])) (OEnd s (fun v h L => v = some (.int (1 : Int32)) ∧ Fr n0 L) room_1.cells room_1.slots)
    refine own_callS X55 hx hZ (y := (⟨"com/example/haze_to_match/hazetomatch/UnitBoundsIsBelowPinLaw", "clamp", "(I)I"⟩ : MethodName)) hown (hw _ (List.mem_of_getElem? (i := 40) rfl)) (hw _ (List.mem_of_getElem? (i := 41) rfl)) (hw _ (List.mem_of_getElem? (i := 2) rfl)) (hw _ (List.mem_of_getElem? (i := 42) rfl)) (by decide) (W := 0) (own_rm4 l Z a0 hw [] (Int32.ofNat kcl1 - 8) T48.heap n0 sz48) e55  (pc := 128) (Ls := #[.val (.int p1), .val (.int p2), .val (.int (Int32.ofNat klo1 - 8)), .val (.int (Int32.ofNat khi1 - 8)), .val (.int (Int32.ofNat kcl1 - 8)), .val (.int (Int32.ofNat kch1 - 8)), .val (.int (Int32.ofNat klo2 - 8)), .val (.int (Int32.ofNat khi2 - 8)), .val (.int (Int32.ofNat kcl2 - 8)), .val (.int (Int32.ofNat kch2 - 8)), .val (.ref a), .val (.ref b), .unset]) (argsL := [(.int (Int32.ofNat kcl1 - 8))]) (rest := []) (by rw [hml]; rfl) (lenOf own_pd6 rfl) rfl (hb hby at_128) (by decide) (by decide) (by decide) (by decide) ?_
    intro v57 T57 L57 X57 hQ57
    obtain ⟨rfl, N57, e57⟩ := hQ57
    show OGo p e below (T57.setTop (mkF m 131 #[.val (.int p1), .val (.int p2), .val (.int (Int32.ofNat klo1 - 8)), .val (.int (Int32.ofNat khi1 - 8)), .val (.int (Int32.ofNat kcl1 - 8)), .val (.int (Int32.ofNat kch1 - 8)), .val (.int (Int32.ofNat klo2 - 8)), .val (.int (Int32.ofNat khi2 - 8)), .val (.int (Int32.ofNat kcl2 - 8)), .val (.int (Int32.ofNat kch2 - 8)), .val (.ref a), .val (.ref b), .unset] [(.int (own_cl (Int32.ofNat kcl1 - 8)))])) (OEnd s (fun v h L => v = some (.int (1 : Int32)) ∧ Fr n0 L) room_1.cells room_1.slots)
    have Nc57 := Fr.app Nc55 N57
    refine OGo.step (fun _ kk => XS.iload X57.here hx rfl (hb hby at_131) rfl kk) ?_
    show OGo p e below (T57.setTop (mkF m 133 #[.val (.int p1), .val (.int p2), .val (.int (Int32.ofNat klo1 - 8)), .val (.int (Int32.ofNat khi1 - 8)), .val (.int (Int32.ofNat kcl1 - 8)), .val (.int (Int32.ofNat kch1 - 8)), .val (.int (Int32.ofNat klo2 - 8)), .val (.int (Int32.ofNat khi2 - 8)), .val (.int (Int32.ofNat kcl2 - 8)), .val (.int (Int32.ofNat kch2 - 8)), .val (.ref a), .val (.ref b), .unset] [(.int (Int32.ofNat kch2 - 8)), (.int (own_cl (Int32.ofNat kcl1 - 8)))])) (OEnd s (fun v h L => v = some (.int (1 : Int32)) ∧ Fr n0 L) room_1.cells room_1.slots)
    refine own_callS X57 hx hZ (y := (⟨"com/example/haze_to_match/hazetomatch/UnitBoundsIsBelowPinLaw", "clamp", "(I)I"⟩ : MethodName)) hown (hw _ (List.mem_of_getElem? (i := 40) rfl)) (hw _ (List.mem_of_getElem? (i := 41) rfl)) (hw _ (List.mem_of_getElem? (i := 2) rfl)) (hw _ (List.mem_of_getElem? (i := 42) rfl)) (by decide) (W := 1) (own_rm4 l Z a0 hw [] (Int32.ofNat kch2 - 8) T48.heap n0 sz48) e57  (pc := 133) (Ls := #[.val (.int p1), .val (.int p2), .val (.int (Int32.ofNat klo1 - 8)), .val (.int (Int32.ofNat khi1 - 8)), .val (.int (Int32.ofNat kcl1 - 8)), .val (.int (Int32.ofNat kch1 - 8)), .val (.int (Int32.ofNat klo2 - 8)), .val (.int (Int32.ofNat khi2 - 8)), .val (.int (Int32.ofNat kcl2 - 8)), .val (.int (Int32.ofNat kch2 - 8)), .val (.ref a), .val (.ref b), .unset]) (argsL := [(.int (Int32.ofNat kch2 - 8))]) (rest := [(.int (own_cl (Int32.ofNat kcl1 - 8)))]) (by rw [hml]; rfl) (lenOf own_pd6 rfl) rfl (hb hby at_133) (by decide) (by decide) (by decide) (by decide) ?_
    intro v58 T58 L58 X58 hQ58
    obtain ⟨rfl, N58, e58⟩ := hQ58
    show OGo p e below (T58.setTop (mkF m 136 #[.val (.int p1), .val (.int p2), .val (.int (Int32.ofNat klo1 - 8)), .val (.int (Int32.ofNat khi1 - 8)), .val (.int (Int32.ofNat kcl1 - 8)), .val (.int (Int32.ofNat kch1 - 8)), .val (.int (Int32.ofNat klo2 - 8)), .val (.int (Int32.ofNat khi2 - 8)), .val (.int (Int32.ofNat kcl2 - 8)), .val (.int (Int32.ofNat kch2 - 8)), .val (.ref a), .val (.ref b), .unset] [(.int (own_cl (Int32.ofNat kch2 - 8))), (.int (own_cl (Int32.ofNat kcl1 - 8)))])) (OEnd s (fun v h L => v = some (.int (1 : Int32)) ∧ Fr n0 L) room_1.cells room_1.slots)
    have Nc58 := Fr.app Nc57 N58
    by_cases hc2 : (own_cl (Int32.ofNat kch2 - 8)) < (own_cl (Int32.ofNat kcl1 - 8))
    · refine OGo.step (fun _ kk => XS.icmpNo X58.here hx rfl (hb hby at_136) rfl (tlt hc2).2.2.2 kk) ?_
      show OGo p e below (T58.setTop (mkF m 139 #[.val (.int p1), .val (.int p2), .val (.int (Int32.ofNat klo1 - 8)), .val (.int (Int32.ofNat khi1 - 8)), .val (.int (Int32.ofNat kcl1 - 8)), .val (.int (Int32.ofNat kch1 - 8)), .val (.int (Int32.ofNat klo2 - 8)), .val (.int (Int32.ofNat khi2 - 8)), .val (.int (Int32.ofNat kcl2 - 8)), .val (.int (Int32.ofNat kch2 - 8)), .val (.ref a), .val (.ref b), .unset] [])) (OEnd s (fun v h L => v = some (.int (1 : Int32)) ∧ Fr n0 L) room_1.cells room_1.slots)
      refine OGo.step (fun _ kk => XS.iconst X58.here hx rfl (hb hby at_139) kk) ?_
      show OGo p e below (T58.setTop (mkF m 140 #[.val (.int p1), .val (.int p2), .val (.int (Int32.ofNat klo1 - 8)), .val (.int (Int32.ofNat khi1 - 8)), .val (.int (Int32.ofNat kcl1 - 8)), .val (.int (Int32.ofNat kch1 - 8)), .val (.int (Int32.ofNat klo2 - 8)), .val (.int (Int32.ofNat khi2 - 8)), .val (.int (Int32.ofNat kcl2 - 8)), .val (.int (Int32.ofNat kch2 - 8)), .val (.ref a), .val (.ref b), .unset] [(.int (1 : Int32))])) (OEnd s (fun v h L => v = some (.int (1 : Int32)) ∧ Fr n0 L) room_1.cells room_1.slots)
      refine OGo.step (fun _ kk => XS.goto X58.here hx rfl (pc0 := 140) (pc' := 144) rfl (hb hby at_140) (by decide) (by decide) kk) ?_
      show OGo p e below (T58.setTop (mkF m 144 #[.val (.int p1), .val (.int p2), .val (.int (Int32.ofNat klo1 - 8)), .val (.int (Int32.ofNat khi1 - 8)), .val (.int (Int32.ofNat kcl1 - 8)), .val (.int (Int32.ofNat kch1 - 8)), .val (.int (Int32.ofNat klo2 - 8)), .val (.int (Int32.ofNat khi2 - 8)), .val (.int (Int32.ofNat kcl2 - 8)), .val (.int (Int32.ofNat kch2 - 8)), .val (.ref a), .val (.ref b), .unset] [(.int (1 : Int32))])) (OEnd s (fun v h L => v = some (.int (1 : Int32)) ∧ Fr n0 L) room_1.cells room_1.slots)
      refine OGo.step (fun _ kk => XS.istore X58.here hx rfl (hb hby at_144) rfl (l' := #[.val (.int p1), .val (.int p2), .val (.int (Int32.ofNat klo1 - 8)), .val (.int (Int32.ofNat khi1 - 8)), .val (.int (Int32.ofNat kcl1 - 8)), .val (.int (Int32.ofNat kch1 - 8)), .val (.int (Int32.ofNat klo2 - 8)), .val (.int (Int32.ofNat khi2 - 8)), .val (.int (Int32.ofNat kcl2 - 8)), .val (.int (Int32.ofNat kch2 - 8)), .val (.ref a), .val (.ref b), .val (.int (1 : Int32))]) rfl kk) ?_
      show OGo p e below (T58.setTop (mkF m 146 #[.val (.int p1), .val (.int p2), .val (.int (Int32.ofNat klo1 - 8)), .val (.int (Int32.ofNat khi1 - 8)), .val (.int (Int32.ofNat kcl1 - 8)), .val (.int (Int32.ofNat kch1 - 8)), .val (.int (Int32.ofNat klo2 - 8)), .val (.int (Int32.ofNat khi2 - 8)), .val (.int (Int32.ofNat kcl2 - 8)), .val (.int (Int32.ofNat kch2 - 8)), .val (.ref a), .val (.ref b), .val (.int (1 : Int32))] [])) (OEnd s (fun v h L => v = some (.int (1 : Int32)) ∧ Fr n0 L) room_1.cells room_1.slots)
      refine OGo.step (fun _ kk => XS.aload X58.here hx rfl (hb hby at_146) rfl rfl kk) ?_
      show OGo p e below (T58.setTop (mkF m 148 #[.val (.int p1), .val (.int p2), .val (.int (Int32.ofNat klo1 - 8)), .val (.int (Int32.ofNat khi1 - 8)), .val (.int (Int32.ofNat kcl1 - 8)), .val (.int (Int32.ofNat kch1 - 8)), .val (.int (Int32.ofNat klo2 - 8)), .val (.int (Int32.ofNat khi2 - 8)), .val (.int (Int32.ofNat kcl2 - 8)), .val (.int (Int32.ofNat kch2 - 8)), .val (.ref a), .val (.ref b), .val (.int (1 : Int32))] [(.ref a)])) (OEnd s (fun v h L => v = some (.int (1 : Int32)) ∧ Fr n0 L) room_1.cells room_1.slots)
      refine OGo.step (fun _ kk => XS.aload X58.here hx rfl (hb hby at_148) rfl rfl kk) ?_
      show OGo p e below (T58.setTop (mkF m 150 #[.val (.int p1), .val (.int p2), .val (.int (Int32.ofNat klo1 - 8)), .val (.int (Int32.ofNat khi1 - 8)), .val (.int (Int32.ofNat kcl1 - 8)), .val (.int (Int32.ofNat kch1 - 8)), .val (.int (Int32.ofNat klo2 - 8)), .val (.int (Int32.ofNat khi2 - 8)), .val (.int (Int32.ofNat kcl2 - 8)), .val (.int (Int32.ofNat kch2 - 8)), .val (.ref a), .val (.ref b), .val (.int (1 : Int32))] [(.ref b), (.ref a)])) (OEnd s (fun v h L => v = some (.int (1 : Int32)) ∧ Fr n0 L) room_1.cells room_1.slots)
      refine own_virtual X58 hx hZ (y := (⟨"com/example/haze_to_match/hazetomatch/UnitBounds", "isBelow", "(Lcom/example/haze_to_match/hazetomatch/UnitBounds;)Z"⟩ : MethodName)) (z := (⟨"com/example/haze_to_match/hazetomatch/UnitBounds", "isBelow", "(Lcom/example/haze_to_match/hazetomatch/UnitBounds;)Z"⟩ : MethodName)) hown (hw _ (List.mem_of_getElem? (i := 49) rfl)) (hw _ (List.mem_of_getElem? (i := 50) rfl)) (notFace_of_selects (args := #[]) (mvT hZ (hw _ (List.mem_of_getElem? (i := 52) rfl)))) (hw _ (List.mem_of_getElem? (i := 52) rfl)) (hw _ (List.mem_of_getElem? (i := 51) rfl)) (by decide) (hw _ (List.mem_of_getElem? (i := 53) rfl)) (hw _ (List.mem_of_getElem? (i := 6) rfl)) (b := a) fc53 (W := 0) (own_rm5 l Z a0 hw [] a b _ _ _ _ T48.heap n0 sz48 fc50 F_b_low fc51 F_b_complementHigh) e58  (pc := 150) (Ls := #[.val (.int p1), .val (.int p2), .val (.int (Int32.ofNat klo1 - 8)), .val (.int (Int32.ofNat khi1 - 8)), .val (.int (Int32.ofNat kcl1 - 8)), .val (.int (Int32.ofNat kch1 - 8)), .val (.int (Int32.ofNat klo2 - 8)), .val (.int (Int32.ofNat khi2 - 8)), .val (.int (Int32.ofNat kcl2 - 8)), .val (.int (Int32.ofNat kch2 - 8)), .val (.ref a), .val (.ref b), .val (.int (1 : Int32))]) (argsL := [(.ref b)]) (rest := []) (by rw [hml]; rfl) (lenOf own_pd7 rfl) rfl (hb hby at_150) (by decide) (by decide) (by decide) (by decide) ?_
      intro v59 T59 L59 X59 hQ59
      obtain ⟨rfl, N59, e59⟩ := hQ59
      show OGo p e below (T59.setTop (mkF m 153 #[.val (.int p1), .val (.int p2), .val (.int (Int32.ofNat klo1 - 8)), .val (.int (Int32.ofNat khi1 - 8)), .val (.int (Int32.ofNat kcl1 - 8)), .val (.int (Int32.ofNat kch1 - 8)), .val (.int (Int32.ofNat klo2 - 8)), .val (.int (Int32.ofNat khi2 - 8)), .val (.int (Int32.ofNat kcl2 - 8)), .val (.int (Int32.ofNat kch2 - 8)), .val (.ref a), .val (.ref b), .val (.int (1 : Int32))] [(.int (if cmpValue (FP.dcmp (own_un (own_ab khi1)) (own_un (own_ab klo2))) .g < 0 ∨ 0 < cmpValue (FP.dcmp (own_un (own_ab kcl1)) (own_un (own_ab kch2))) .l then (1 : Int32) else 0))])) (OEnd s (fun v h L => v = some (.int (1 : Int32)) ∧ Fr n0 L) room_1.cells room_1.slots)
      have Nc59 := Fr.app Nc58 N59
      rw [if_pos (Or.inr (q2.mpr hc2))]
      show OGo p e below (T59.setTop (mkF m 153 #[.val (.int p1), .val (.int p2), .val (.int (Int32.ofNat klo1 - 8)), .val (.int (Int32.ofNat khi1 - 8)), .val (.int (Int32.ofNat kcl1 - 8)), .val (.int (Int32.ofNat kch1 - 8)), .val (.int (Int32.ofNat klo2 - 8)), .val (.int (Int32.ofNat khi2 - 8)), .val (.int (Int32.ofNat kcl2 - 8)), .val (.int (Int32.ofNat kch2 - 8)), .val (.ref a), .val (.ref b), .val (.int (1 : Int32))] [(.int (1 : Int32))])) (OEnd s (fun v h L => v = some (.int (1 : Int32)) ∧ Fr n0 L) room_1.cells room_1.slots)
      refine OGo.step (fun _ kk => XS.iload X59.here hx rfl (hb hby at_153) rfl kk) ?_
      show OGo p e below (T59.setTop (mkF m 155 #[.val (.int p1), .val (.int p2), .val (.int (Int32.ofNat klo1 - 8)), .val (.int (Int32.ofNat khi1 - 8)), .val (.int (Int32.ofNat kcl1 - 8)), .val (.int (Int32.ofNat kch1 - 8)), .val (.int (Int32.ofNat klo2 - 8)), .val (.int (Int32.ofNat khi2 - 8)), .val (.int (Int32.ofNat kcl2 - 8)), .val (.int (Int32.ofNat kch2 - 8)), .val (.ref a), .val (.ref b), .val (.int (1 : Int32))] [(.int (1 : Int32)), (.int (1 : Int32))])) (OEnd s (fun v h L => v = some (.int (1 : Int32)) ∧ Fr n0 L) room_1.cells room_1.slots)
      refine OGo.step (fun _ kk => XS.icmpNo X59.here hx rfl (hb hby at_155) rfl (teq rfl).2 kk) ?_
      show OGo p e below (T59.setTop (mkF m 158 #[.val (.int p1), .val (.int p2), .val (.int (Int32.ofNat klo1 - 8)), .val (.int (Int32.ofNat khi1 - 8)), .val (.int (Int32.ofNat kcl1 - 8)), .val (.int (Int32.ofNat kch1 - 8)), .val (.int (Int32.ofNat klo2 - 8)), .val (.int (Int32.ofNat khi2 - 8)), .val (.int (Int32.ofNat kcl2 - 8)), .val (.int (Int32.ofNat kch2 - 8)), .val (.ref a), .val (.ref b), .val (.int (1 : Int32))] [])) (OEnd s (fun v h L => v = some (.int (1 : Int32)) ∧ Fr n0 L) room_1.cells room_1.slots)
      refine OGo.step (fun _ kk => XS.iconst X59.here hx rfl (hb hby at_158) kk) ?_
      show OGo p e below (T59.setTop (mkF m 159 #[.val (.int p1), .val (.int p2), .val (.int (Int32.ofNat klo1 - 8)), .val (.int (Int32.ofNat khi1 - 8)), .val (.int (Int32.ofNat kcl1 - 8)), .val (.int (Int32.ofNat kch1 - 8)), .val (.int (Int32.ofNat klo2 - 8)), .val (.int (Int32.ofNat khi2 - 8)), .val (.int (Int32.ofNat kcl2 - 8)), .val (.int (Int32.ofNat kch2 - 8)), .val (.ref a), .val (.ref b), .val (.int (1 : Int32))] [(.int (1 : Int32))])) (OEnd s (fun v h L => v = some (.int (1 : Int32)) ∧ Fr n0 L) room_1.cells room_1.slots)
      refine OGo.step (fun _ kk => XS.goto X59.here hx rfl (pc0 := 159) (pc' := 163) rfl (hb hby at_159) (by decide) (by decide) kk) ?_
      show OGo p e below (T59.setTop (mkF m 163 #[.val (.int p1), .val (.int p2), .val (.int (Int32.ofNat klo1 - 8)), .val (.int (Int32.ofNat khi1 - 8)), .val (.int (Int32.ofNat kcl1 - 8)), .val (.int (Int32.ofNat kch1 - 8)), .val (.int (Int32.ofNat klo2 - 8)), .val (.int (Int32.ofNat khi2 - 8)), .val (.int (Int32.ofNat kcl2 - 8)), .val (.int (Int32.ofNat kch2 - 8)), .val (.ref a), .val (.ref b), .val (.int (1 : Int32))] [(.int (1 : Int32))])) (OEnd s (fun v h L => v = some (.int (1 : Int32)) ∧ Fr n0 L) room_1.cells room_1.slots)
      exact own_retN X59 hx hlk hret (by simp) (hb hby at_163) ⟨rfl, Nc59⟩ (by decide) (by decide)
    · refine OGo.step (fun _ kk => XS.icmpYes X58.here hx rfl (pc0 := 136) (pc' := 143) rfl (hb hby at_136) rfl (flt hc2).2.2.2 (by decide) (by decide) kk) ?_
      show OGo p e below (T58.setTop (mkF m 143 #[.val (.int p1), .val (.int p2), .val (.int (Int32.ofNat klo1 - 8)), .val (.int (Int32.ofNat khi1 - 8)), .val (.int (Int32.ofNat kcl1 - 8)), .val (.int (Int32.ofNat kch1 - 8)), .val (.int (Int32.ofNat klo2 - 8)), .val (.int (Int32.ofNat khi2 - 8)), .val (.int (Int32.ofNat kcl2 - 8)), .val (.int (Int32.ofNat kch2 - 8)), .val (.ref a), .val (.ref b), .unset] [])) (OEnd s (fun v h L => v = some (.int (1 : Int32)) ∧ Fr n0 L) room_1.cells room_1.slots)
      refine OGo.step (fun _ kk => XS.iconst X58.here hx rfl (hb hby at_143) kk) ?_
      show OGo p e below (T58.setTop (mkF m 144 #[.val (.int p1), .val (.int p2), .val (.int (Int32.ofNat klo1 - 8)), .val (.int (Int32.ofNat khi1 - 8)), .val (.int (Int32.ofNat kcl1 - 8)), .val (.int (Int32.ofNat kch1 - 8)), .val (.int (Int32.ofNat klo2 - 8)), .val (.int (Int32.ofNat khi2 - 8)), .val (.int (Int32.ofNat kcl2 - 8)), .val (.int (Int32.ofNat kch2 - 8)), .val (.ref a), .val (.ref b), .unset] [(.int (0 : Int32))])) (OEnd s (fun v h L => v = some (.int (1 : Int32)) ∧ Fr n0 L) room_1.cells room_1.slots)
      refine OGo.step (fun _ kk => XS.istore X58.here hx rfl (hb hby at_144) rfl (l' := #[.val (.int p1), .val (.int p2), .val (.int (Int32.ofNat klo1 - 8)), .val (.int (Int32.ofNat khi1 - 8)), .val (.int (Int32.ofNat kcl1 - 8)), .val (.int (Int32.ofNat kch1 - 8)), .val (.int (Int32.ofNat klo2 - 8)), .val (.int (Int32.ofNat khi2 - 8)), .val (.int (Int32.ofNat kcl2 - 8)), .val (.int (Int32.ofNat kch2 - 8)), .val (.ref a), .val (.ref b), .val (.int (0 : Int32))]) rfl kk) ?_
      show OGo p e below (T58.setTop (mkF m 146 #[.val (.int p1), .val (.int p2), .val (.int (Int32.ofNat klo1 - 8)), .val (.int (Int32.ofNat khi1 - 8)), .val (.int (Int32.ofNat kcl1 - 8)), .val (.int (Int32.ofNat kch1 - 8)), .val (.int (Int32.ofNat klo2 - 8)), .val (.int (Int32.ofNat khi2 - 8)), .val (.int (Int32.ofNat kcl2 - 8)), .val (.int (Int32.ofNat kch2 - 8)), .val (.ref a), .val (.ref b), .val (.int (0 : Int32))] [])) (OEnd s (fun v h L => v = some (.int (1 : Int32)) ∧ Fr n0 L) room_1.cells room_1.slots)
      refine OGo.step (fun _ kk => XS.aload X58.here hx rfl (hb hby at_146) rfl rfl kk) ?_
      show OGo p e below (T58.setTop (mkF m 148 #[.val (.int p1), .val (.int p2), .val (.int (Int32.ofNat klo1 - 8)), .val (.int (Int32.ofNat khi1 - 8)), .val (.int (Int32.ofNat kcl1 - 8)), .val (.int (Int32.ofNat kch1 - 8)), .val (.int (Int32.ofNat klo2 - 8)), .val (.int (Int32.ofNat khi2 - 8)), .val (.int (Int32.ofNat kcl2 - 8)), .val (.int (Int32.ofNat kch2 - 8)), .val (.ref a), .val (.ref b), .val (.int (0 : Int32))] [(.ref a)])) (OEnd s (fun v h L => v = some (.int (1 : Int32)) ∧ Fr n0 L) room_1.cells room_1.slots)
      refine OGo.step (fun _ kk => XS.aload X58.here hx rfl (hb hby at_148) rfl rfl kk) ?_
      show OGo p e below (T58.setTop (mkF m 150 #[.val (.int p1), .val (.int p2), .val (.int (Int32.ofNat klo1 - 8)), .val (.int (Int32.ofNat khi1 - 8)), .val (.int (Int32.ofNat kcl1 - 8)), .val (.int (Int32.ofNat kch1 - 8)), .val (.int (Int32.ofNat klo2 - 8)), .val (.int (Int32.ofNat khi2 - 8)), .val (.int (Int32.ofNat kcl2 - 8)), .val (.int (Int32.ofNat kch2 - 8)), .val (.ref a), .val (.ref b), .val (.int (0 : Int32))] [(.ref b), (.ref a)])) (OEnd s (fun v h L => v = some (.int (1 : Int32)) ∧ Fr n0 L) room_1.cells room_1.slots)
      refine own_virtual X58 hx hZ (y := (⟨"com/example/haze_to_match/hazetomatch/UnitBounds", "isBelow", "(Lcom/example/haze_to_match/hazetomatch/UnitBounds;)Z"⟩ : MethodName)) (z := (⟨"com/example/haze_to_match/hazetomatch/UnitBounds", "isBelow", "(Lcom/example/haze_to_match/hazetomatch/UnitBounds;)Z"⟩ : MethodName)) hown (hw _ (List.mem_of_getElem? (i := 49) rfl)) (hw _ (List.mem_of_getElem? (i := 50) rfl)) (notFace_of_selects (args := #[]) (mvT hZ (hw _ (List.mem_of_getElem? (i := 52) rfl)))) (hw _ (List.mem_of_getElem? (i := 52) rfl)) (hw _ (List.mem_of_getElem? (i := 51) rfl)) (by decide) (hw _ (List.mem_of_getElem? (i := 53) rfl)) (hw _ (List.mem_of_getElem? (i := 6) rfl)) (b := a) fc53 (W := 0) (own_rm5 l Z a0 hw [] a b _ _ _ _ T48.heap n0 sz48 fc50 F_b_low fc51 F_b_complementHigh) e58  (pc := 150) (Ls := #[.val (.int p1), .val (.int p2), .val (.int (Int32.ofNat klo1 - 8)), .val (.int (Int32.ofNat khi1 - 8)), .val (.int (Int32.ofNat kcl1 - 8)), .val (.int (Int32.ofNat kch1 - 8)), .val (.int (Int32.ofNat klo2 - 8)), .val (.int (Int32.ofNat khi2 - 8)), .val (.int (Int32.ofNat kcl2 - 8)), .val (.int (Int32.ofNat kch2 - 8)), .val (.ref a), .val (.ref b), .val (.int (0 : Int32))]) (argsL := [(.ref b)]) (rest := []) (by rw [hml]; rfl) (lenOf own_pd7 rfl) rfl (hb hby at_150) (by decide) (by decide) (by decide) (by decide) ?_
      intro v60 T60 L60 X60 hQ60
      obtain ⟨rfl, N60, e60⟩ := hQ60
      show OGo p e below (T60.setTop (mkF m 153 #[.val (.int p1), .val (.int p2), .val (.int (Int32.ofNat klo1 - 8)), .val (.int (Int32.ofNat khi1 - 8)), .val (.int (Int32.ofNat kcl1 - 8)), .val (.int (Int32.ofNat kch1 - 8)), .val (.int (Int32.ofNat klo2 - 8)), .val (.int (Int32.ofNat khi2 - 8)), .val (.int (Int32.ofNat kcl2 - 8)), .val (.int (Int32.ofNat kch2 - 8)), .val (.ref a), .val (.ref b), .val (.int (0 : Int32))] [(.int (if cmpValue (FP.dcmp (own_un (own_ab khi1)) (own_un (own_ab klo2))) .g < 0 ∨ 0 < cmpValue (FP.dcmp (own_un (own_ab kcl1)) (own_un (own_ab kch2))) .l then (1 : Int32) else 0))])) (OEnd s (fun v h L => v = some (.int (1 : Int32)) ∧ Fr n0 L) room_1.cells room_1.slots)
      have Nc60 := Fr.app Nc58 N60
      rw [if_neg (fun q => q.elim (fun z => hc1 (q1.mp z)) (fun z => hc2 (q2.mp z)))]
      show OGo p e below (T60.setTop (mkF m 153 #[.val (.int p1), .val (.int p2), .val (.int (Int32.ofNat klo1 - 8)), .val (.int (Int32.ofNat khi1 - 8)), .val (.int (Int32.ofNat kcl1 - 8)), .val (.int (Int32.ofNat kch1 - 8)), .val (.int (Int32.ofNat klo2 - 8)), .val (.int (Int32.ofNat khi2 - 8)), .val (.int (Int32.ofNat kcl2 - 8)), .val (.int (Int32.ofNat kch2 - 8)), .val (.ref a), .val (.ref b), .val (.int (0 : Int32))] [(.int (0 : Int32))])) (OEnd s (fun v h L => v = some (.int (1 : Int32)) ∧ Fr n0 L) room_1.cells room_1.slots)
      refine OGo.step (fun _ kk => XS.iload X60.here hx rfl (hb hby at_153) rfl kk) ?_
      show OGo p e below (T60.setTop (mkF m 155 #[.val (.int p1), .val (.int p2), .val (.int (Int32.ofNat klo1 - 8)), .val (.int (Int32.ofNat khi1 - 8)), .val (.int (Int32.ofNat kcl1 - 8)), .val (.int (Int32.ofNat kch1 - 8)), .val (.int (Int32.ofNat klo2 - 8)), .val (.int (Int32.ofNat khi2 - 8)), .val (.int (Int32.ofNat kcl2 - 8)), .val (.int (Int32.ofNat kch2 - 8)), .val (.ref a), .val (.ref b), .val (.int (0 : Int32))] [(.int (0 : Int32)), (.int (0 : Int32))])) (OEnd s (fun v h L => v = some (.int (1 : Int32)) ∧ Fr n0 L) room_1.cells room_1.slots)
      refine OGo.step (fun _ kk => XS.icmpNo X60.here hx rfl (hb hby at_155) rfl (teq rfl).2 kk) ?_
      show OGo p e below (T60.setTop (mkF m 158 #[.val (.int p1), .val (.int p2), .val (.int (Int32.ofNat klo1 - 8)), .val (.int (Int32.ofNat khi1 - 8)), .val (.int (Int32.ofNat kcl1 - 8)), .val (.int (Int32.ofNat kch1 - 8)), .val (.int (Int32.ofNat klo2 - 8)), .val (.int (Int32.ofNat khi2 - 8)), .val (.int (Int32.ofNat kcl2 - 8)), .val (.int (Int32.ofNat kch2 - 8)), .val (.ref a), .val (.ref b), .val (.int (0 : Int32))] [])) (OEnd s (fun v h L => v = some (.int (1 : Int32)) ∧ Fr n0 L) room_1.cells room_1.slots)
      refine OGo.step (fun _ kk => XS.iconst X60.here hx rfl (hb hby at_158) kk) ?_
      show OGo p e below (T60.setTop (mkF m 159 #[.val (.int p1), .val (.int p2), .val (.int (Int32.ofNat klo1 - 8)), .val (.int (Int32.ofNat khi1 - 8)), .val (.int (Int32.ofNat kcl1 - 8)), .val (.int (Int32.ofNat kch1 - 8)), .val (.int (Int32.ofNat klo2 - 8)), .val (.int (Int32.ofNat khi2 - 8)), .val (.int (Int32.ofNat kcl2 - 8)), .val (.int (Int32.ofNat kch2 - 8)), .val (.ref a), .val (.ref b), .val (.int (0 : Int32))] [(.int (1 : Int32))])) (OEnd s (fun v h L => v = some (.int (1 : Int32)) ∧ Fr n0 L) room_1.cells room_1.slots)
      refine OGo.step (fun _ kk => XS.goto X60.here hx rfl (pc0 := 159) (pc' := 163) rfl (hb hby at_159) (by decide) (by decide) kk) ?_
      show OGo p e below (T60.setTop (mkF m 163 #[.val (.int p1), .val (.int p2), .val (.int (Int32.ofNat klo1 - 8)), .val (.int (Int32.ofNat khi1 - 8)), .val (.int (Int32.ofNat kcl1 - 8)), .val (.int (Int32.ofNat kch1 - 8)), .val (.int (Int32.ofNat klo2 - 8)), .val (.int (Int32.ofNat khi2 - 8)), .val (.int (Int32.ofNat kcl2 - 8)), .val (.int (Int32.ofNat kch2 - 8)), .val (.ref a), .val (.ref b), .val (.int (0 : Int32))] [(.int (1 : Int32))])) (OEnd s (fun v h L => v = some (.int (1 : Int32)) ∧ Fr n0 L) room_1.cells room_1.slots)
      exact own_retN X60 hx hlk hret (by simp) (hb hby at_163) ⟨rfl, Nc60⟩ (by decide) (by decide)

set_option maxRecDepth 65536 in
set_option maxHeartbeats 40000000 in
theorem comes_1 {Post : Tables → Env → Array Value → State → Outcome → State → Prop} (hpost : ∀ tb e args s v u, (limb_1_1.after args s (.returned v) u = true ∧ limb_1_2.after args s (.returned v) u = true ∧ True) → FrameEnd s (.returned v) u (Jvm.fieldLocs frame_1_writes args s ++ Jvm.arrayLocs frame_1_arrays args s ++ Jvm.staticLocs frame_1_statics s) 16 128 → Post tb e args s (.returned v) u) :
    ArmFor flags0 classFile x code maxLocals ret World_1 tables_1 room_1 Calls_1 rest_1 Pre_1 Post := by
  intro l hfl _ _ p e ha hc hk s m args below hf hA hF happ hP
  obtain ⟨hcalls, hrest, hpre⟩ := hP
  obtain ⟨-, -, -, hnamed, -, -, -, hat⟩ := (Spec.applies_iff hf).mp happ
  obtain ⟨hg, hn⟩ := and_e (Cond.before_iff.mp (show (Jvm.Cond.and given_1 narrow_1).before args s = true from hpre))
  obtain ⟨k61, k61'⟩ := and_e hg
  obtain ⟨k62, k62'⟩ := and_e k61'
  obtain ⟨w0_, w1_, rfl⟩ : ∃ w0_ w1_ : Value, args = #[w0_, w1_] := by
    have hs : args.size = 2 := by simpa [Cond.value, given_1] using k61
    obtain ⟨L⟩ := args
    match L, hs with
    | [w0_, w1_], _ => exact ⟨w0_, w1_, rfl⟩
  have hw := fun d (hd : d ∈ tables_1) => atoms_spec (ws := Jvm.Cond.code x code maxLocals ret :: tables_1) hat d (List.mem_cons_of_mem _ hd)
  have hfit : Fit s := fun {y c} hc i hi => by
    obtain ⟨ha, rfl⟩ := Array.getElem?_eq_some_iff.mp hc
    have q := List.all_eq_true.mp ((Array.all_eq_true_iff_forall_mem.mp hF) _ (Array.getElem_mem ha)) i (List.mem_range.mpr hi)
    simpa [Array.getElem?_eq_getElem hi] using q
  obtain ⟨i0, ei0⟩ := is_v k62
  obtain rfl : w0_ = (.int i0) := Option.some.inj ei0
  obtain ⟨i1, ei1⟩ := is_v k62'
  obtain rfl : w1_ = (.int i1) := Option.some.inj ei1
  obtain ⟨n, o, h1, h2, h3, _, L, rfl, ⟨rfl, N⟩, hq⟩ := own_rm0 l s _ hw tables_1 i0 i1  s.heap s.heap.size (Nat.le_refl _)  p e ha hc hk s m _ below hf ((Spec.applies_iff_loose hf).mp happ).1 ⟨rfl, State.Warmed39.refl s, rfl⟩ trivial
  exact ⟨n, _, h1, h2, h3, hpost _ _ _ _ _ _ ⟨Cond.after_iff.mpr rfl, Cond.after_iff.mpr (eq_i res_at (Term.int_eval (1)) rfl), trivial⟩ ⟨hq.1, hq.2.1, (hq.2.2.sift fun y hy => Or.inr (N y hy)).mono (by decide) (by decide)⟩⟩
theorem main_1_1 : Claimed_1_1 := comes_1 fun _ _ _ _ _ _ h hF => ⟨h.1, hF⟩
theorem main_1_2 : Claimed_1_2 := comes_1 fun _ _ _ _ _ _ h hF => ⟨h.2.1, hF⟩
end Jvm.Pilot.@@N@@
namespace Jvm.Pilot.@@N@@
open Jvm Jvm.ClassFile Sem Op Lib Jvm.Free Jvm.Stand Jvm.Pilot.@@N@@.Jvm.D
/-! MADE BY PROGRAM (witnessworld.py) out of the Statement's table words and the real class files: 12 classes; the members and pool entries that the words name. The judged class is class 1, her method 4. -/
namespace start1
open Jvm.ClassFile
def u (s : String) : CpInfo := .utf8 (stringToUtf16 s)
/-- a pool by its gaps: so many unusable entries, then the entry; so many at the end -/
def gap : Nat → List CpInfo → List CpInfo
  | 0, r => r
  | n + 1, r => .unusable :: gap n r
def poolList (es : List (Nat × CpInfo)) (last : Nat) : List CpInfo := es.foldr (fun e r => gap e.1 (e.2 :: r)) (gap last [])
def pool (es : List (Nat × CpInfo)) (last : Nat) : Array CpInfo := ⟨poolList es last⟩
def fileOf (pool : Array CpInfo) (this : Nat) (attrs : Array Attribute := #[]) (ms : Array MethodInfo := #[]) (fl : Nat := 33) (sup : Nat := 0) (ifs : Array Nat := #[]) (fds : Array FieldInfo := #[]) : ClassFile where
  minorVersion := 0
  majorVersion := 65
  constantPool := pool
  accessFlags := fl
  thisClass := this
  superClass := sup
  interfaces := ifs
  fields := fds
  methods := ms
  attributes := attrs
def plain (name : String) (sup : Option ClassId) : Class where
  name := name
  kind := .ordinary
  loader := none
  accessFlags := 33
  super := sup
  interfaces := #[]
  cf := none
  fields := #[]
  methods := #[]
  instanceTypes := #[]
  staticTypes := #[]
  resolved := #[]
  callSites := []
  init := .initialized
  statics := none
  mirror := none

def pool0 : Array CpInfo := pool [(5, u "<init>"), (0, u "()V"), (1, .class_ 10), (1, u "java/lang/Object")] 113

def k0c0 : Code := { maxStack := 0, maxLocals := 1, code := object_method_1_code, exceptionTable := #[], attributes := #[] }
def k0m0 : Method := { name := "<init>", desc := "()V", sig := { parameters := [], returnType := none }, accessFlags := 1, code := some k0c0 }
/-- java/lang/Object -/
def k0 : Class := { plain "java/lang/Object" none with
  accessFlags := 33
  interfaces := #[]
  cf := some (fileOf pool0 8 #[] #[{ accessFlags := 1, nameIndex := 5, descriptorIndex := 6, attributes := #[] }] 33 0 #[] #[])
  fields := #[]
  methods := #[k0m0]
  instanceTypes := #[]
  staticTypes := #[]
  resolved := Array.replicate 124 none
  statics := none }

def pool1 : Array CpInfo := pool [(2, .class_ 4), (1, u "java/lang/Object"), (0, u "<init>"), (0, u "()V"), (0, .double 4625196817309499392), (1, .methodref 10 11), (0, .class_ 12), (0, .nameAndType 13 14), (0, u "java/lang/Math"), (0, u "min"), (0, u "(II)I"), (0, .methodref 10 16), (0, .nameAndType 17 14), (0, u "max"), (0, .methodref 19 20), (0, .class_ 21), (0, .nameAndType 22 14), (0, u "com/example/haze_to_match/hazetomatch/UnitBoundsIsBelowPinLaw"), (0, u "field"), (0, .class_ 24), (0, u "com/example/haze_to_match/hazetomatch/UnitBounds"), (0, .methodref 19 26), (0, .nameAndType 27 28), (0, u "asBound"), (0, u "(I)D"), (0, .methodref 23 30), (0, .nameAndType 5 31), (0, u "(DDDD)V"), (0, .methodref 19 33), (0, .nameAndType 34 35), (0, u "clamp"), (0, u "(I)I"), (0, .methodref 23 37), (0, .nameAndType 38 39), (0, u "isBelow"), (0, u "(Lcom/example/haze_to_match/hazetomatch/UnitBounds;)Z"), (2, u "law"), (0, u "(II)Z")] 3

def k1m0 : Method := { name := "<init>", desc := "()V", sig := { parameters := [], returnType := none }, accessFlags := 2, code := none }
def k1c1 : Code := { maxStack := 2, maxLocals := 2, code := method_2_code, exceptionTable := #[], attributes := #[] }
def k1m1 : Method := { name := "field", desc := "(II)I", sig := { parameters := [.int, .int], returnType := some .int }, accessFlags := 10, code := some k1c1 }
def k1c2 : Code := { maxStack := 4, maxLocals := 1, code := method_3_code, exceptionTable := #[], attributes := #[] }
def k1m2 : Method := { name := "asBound", desc := "(I)D", sig := { parameters := [.int], returnType := some .double }, accessFlags := 10, code := some k1c2 }
def k1c3 : Code := { maxStack := 3, maxLocals := 1, code := method_4_code, exceptionTable := #[], attributes := #[] }
def k1m3 : Method := { name := "clamp", desc := "(I)I", sig := { parameters := [.int], returnType := some .int }, accessFlags := 10, code := some k1c3 }
def k1c4 : Code := { maxStack := 10, maxLocals := 13, code := code, exceptionTable := #[], attributes := #[] }
def k1m4 : Method := { name := "law", desc := "(II)Z", sig := { parameters := [.int, .int], returnType := some .boolean }, accessFlags := 9, code := some k1c4 }
/-- com/example/haze_to_match/hazetomatch/UnitBoundsIsBelowPinLaw -/
def k1 : Class := { plain "com/example/haze_to_match/hazetomatch/UnitBoundsIsBelowPinLaw" (some 0) with
  accessFlags := 49
  interfaces := #[]
  cf := some (fileOf pool1 19 #[] #[{ accessFlags := 2, nameIndex := 5, descriptorIndex := 6, attributes := #[] }, { accessFlags := 10, nameIndex := 22, descriptorIndex := 14, attributes := #[] }, { accessFlags := 10, nameIndex := 27, descriptorIndex := 28, attributes := #[] }, { accessFlags := 10, nameIndex := 34, descriptorIndex := 35, attributes := #[] }, { accessFlags := 9, nameIndex := 42, descriptorIndex := 43, attributes := #[] }] 49 2 #[] #[])
  fields := #[]
  methods := #[k1m0, k1m1, k1m2, k1m3, k1m4]
  instanceTypes := #[]
  staticTypes := #[]
  resolved := Array.replicate 47 none
  statics := none }

def pool2 : Array CpInfo := pool [(1, .methodref 2 3), (0, .class_ 4), (0, .nameAndType 5 6), (0, u "java/lang/Object"), (0, u "<init>"), (0, u "()V"), (0, .class_ 8), (0, u "java/lang/Record")] 13

def k2c0 : Code := { maxStack := 1, maxLocals := 1, code := jdk_30_method_1_code, exceptionTable := #[], attributes := #[] }
def k2m0 : Method := { name := "<init>", desc := "()V", sig := { parameters := [], returnType := none }, accessFlags := 4, code := some k2c0 }
/-- java/lang/Record -/
def k2 : Class := { plain "java/lang/Record" (some 0) with
  accessFlags := 1057
  interfaces := #[]
  cf := some (fileOf pool2 7 #[] #[{ accessFlags := 4, nameIndex := 5, descriptorIndex := 6, attributes := #[] }] 1057 2 #[] #[])
  fields := #[]
  methods := #[k2m0]
  instanceTypes := #[]
  staticTypes := #[]
  resolved := Array.replicate 22 none
  statics := none }

def pool3 : Array CpInfo := pool [(1, .class_ 2), (0, u "com/example/haze_to_match/hazetomatch/Reshapable"), (0, .class_ 4), (0, u "java/lang/Object")] 9

/-- com/example/haze_to_match/hazetomatch/Reshapable -/
def k3 : Class := { plain "com/example/haze_to_match/hazetomatch/Reshapable" (some 0) with
  accessFlags := 1536
  interfaces := #[]
  cf := some (fileOf pool3 1 #[] #[] 1536 3 #[] #[])
  fields := #[]
  methods := #[]
  instanceTypes := #[]
  staticTypes := #[]
  resolved := Array.replicate 14 none
  statics := none }

def pool4 : Array CpInfo := pool [(1, .methodref 2 3), (0, .class_ 4), (0, .nameAndType 5 6), (0, u "java/lang/Record"), (0, u "<init>"), (0, u "()V"), (0, .methodref 8 9), (0, .class_ 10), (0, .nameAndType 11 12), (0, u "com/example/haze_to_match/hazetomatch/UnitBounds"), (0, u "unit"), (0, u "(D)D"), (0, .fieldref 8 14), (0, .nameAndType 15 16), (0, u "low"), (0, u "D"), (0, .fieldref 8 18), (0, .nameAndType 19 16), (0, u "high"), (0, .fieldref 8 21), (0, .nameAndType 22 16), (0, u "complementLow"), (0, .fieldref 8 24), (0, .nameAndType 25 16), (0, u "complementHigh"), (11, .class_ 39), (1, u "java/lang/Math"), (6, u "(DDDD)V"), (3, .methodref 37 51), (0, .nameAndType 52 53), (0, u "min"), (0, u "(DD)D"), (0, .methodref 37 55), (0, .nameAndType 56 53), (0, u "max"), (21, .class_ 79), (0, u "com/example/haze_to_match/hazetomatch/Reshapable"), (5, u "isBelow"), (0, u "(Lcom/example/haze_to_match/hazetomatch/UnitBounds;)Z")] 32

def k4c0 : Code := { maxStack := 3, maxLocals := 9, code := prog_70_method_1_code, exceptionTable := #[], attributes := #[] }
def k4m0 : Method := { name := "<init>", desc := "(DDDD)V", sig := { parameters := [.double, .double, .double, .double], returnType := none }, accessFlags := 0, code := some k4c0 }
def k4c1 : Code := { maxStack := 4, maxLocals := 2, code := prog_70_method_6_code, exceptionTable := #[], attributes := #[] }
def k4m1 : Method := { name := "isBelow", desc := "(Lcom/example/haze_to_match/hazetomatch/UnitBounds;)Z", sig := { parameters := [(.object "com/example/haze_to_match/hazetomatch/UnitBounds")], returnType := some .boolean }, accessFlags := 0, code := some k4c1 }
def k4c2 : Code := { maxStack := 6, maxLocals := 2, code := prog_70_method_8_code, exceptionTable := #[], attributes := #[] }
def k4m2 : Method := { name := "unit", desc := "(D)D", sig := { parameters := [.double], returnType := some .double }, accessFlags := 10, code := some k4c2 }
/-- com/example/haze_to_match/hazetomatch/UnitBounds -/
def k4 : Class := { plain "com/example/haze_to_match/hazetomatch/UnitBounds" (some 2) with
  accessFlags := 48
  interfaces := #[3]
  cf := some (fileOf pool4 8 #[] #[{ accessFlags := 0, nameIndex := 5, descriptorIndex := 46, attributes := #[] }, { accessFlags := 0, nameIndex := 85, descriptorIndex := 86, attributes := #[] }, { accessFlags := 10, nameIndex := 11, descriptorIndex := 12, attributes := #[] }] 48 2 #[78] #[{ accessFlags := 18, nameIndex := 15, descriptorIndex := 16, attributes := #[] }, { accessFlags := 18, nameIndex := 19, descriptorIndex := 16, attributes := #[] }, { accessFlags := 18, nameIndex := 22, descriptorIndex := 16, attributes := #[] }, { accessFlags := 18, nameIndex := 25, descriptorIndex := 16, attributes := #[] }])
  fields := #[{ name := "low", type := .double, accessFlags := 18, slot := 0, constantValue := 0 }, { name := "high", type := .double, accessFlags := 18, slot := 1, constantValue := 0 }, { name := "complementLow", type := .double, accessFlags := 18, slot := 2, constantValue := 0 }, { name := "complementHigh", type := .double, accessFlags := 18, slot := 3, constantValue := 0 }]
  methods := #[k4m0, k4m1, k4m2]
  instanceTypes := #[.double, .double, .double, .double]
  staticTypes := #[]
  resolved := Array.replicate 119 none
  statics := none }

def pool5 : Array CpInfo := pool [(1, .class_ 2), (0, u "java/lang/Math"), (1, .class_ 6), (1, u "java/lang/Object"), (0, u "<init>"), (0, u "()V"), (43, u "(DD)D"), (45, .class_ 100), (1, u "java/lang/Math$RandomNumberGeneratorHolder"), (71, u "negativeZeroFloatBits"), (0, u "J"), (2, u "negativeZeroDoubleBits"), (21, u "max"), (2, u "min"), (43, u "$assertionsDisabled"), (0, u "Z"), (88, u "(II)I"), (2, u "twoToTheDoubleScaleDown"), (0, u "D"), (4, u "twoToTheDoubleScaleUp"), (9, u "E"), (3, u "PI"), (2, u "TAU"), (2, u "DEGREES_TO_RADIANS"), (0, u "RADIANS_TO_DEGREES")] 94

def k5m0 : Method := { name := "<init>", desc := "()V", sig := { parameters := [], returnType := none }, accessFlags := 2, code := none }
def k5c1 : Code := { maxStack := 2, maxLocals := 2, code := jdk_29_method_65_code, exceptionTable := #[], attributes := #[] }
def k5m1 : Method := { name := "max", desc := "(II)I", sig := { parameters := [.int, .int], returnType := some .int }, accessFlags := 9, code := some k5c1 }
def k5c2 : Code := { maxStack := 4, maxLocals := 4, code := jdk_29_method_68_code, exceptionTable := #[], attributes := #[] }
def k5m2 : Method := { name := "max", desc := "(DD)D", sig := { parameters := [.double, .double], returnType := some .double }, accessFlags := 9, code := some k5c2 }
def k5c3 : Code := { maxStack := 2, maxLocals := 2, code := jdk_29_method_69_code, exceptionTable := #[], attributes := #[] }
def k5m3 : Method := { name := "min", desc := "(II)I", sig := { parameters := [.int, .int], returnType := some .int }, accessFlags := 9, code := some k5c3 }
def k5c4 : Code := { maxStack := 4, maxLocals := 4, code := jdk_29_method_72_code, exceptionTable := #[], attributes := #[] }
def k5m4 : Method := { name := "min", desc := "(DD)D", sig := { parameters := [.double, .double], returnType := some .double }, accessFlags := 9, code := some k5c4 }
/-- java/lang/Math -/
def k5 : Class := { plain "java/lang/Math" (some 0) with
  accessFlags := 49
  interfaces := #[]
  cf := some (fileOf pool5 1 #[.nestMembers #[98]] #[{ accessFlags := 2, nameIndex := 7, descriptorIndex := 8, attributes := #[] }, { accessFlags := 9, nameIndex := 198, descriptorIndex := 335, attributes := #[] }, { accessFlags := 9, nameIndex := 198, descriptorIndex := 52, attributes := #[] }, { accessFlags := 9, nameIndex := 201, descriptorIndex := 335, attributes := #[] }, { accessFlags := 9, nameIndex := 201, descriptorIndex := 52, attributes := #[] }] 49 4 #[] #[{ accessFlags := 25, nameIndex := 354, descriptorIndex := 339, attributes := #[] }, { accessFlags := 25, nameIndex := 358, descriptorIndex := 339, attributes := #[] }, { accessFlags := 25, nameIndex := 361, descriptorIndex := 339, attributes := #[] }, { accessFlags := 26, nameIndex := 364, descriptorIndex := 339, attributes := #[] }, { accessFlags := 26, nameIndex := 365, descriptorIndex := 339, attributes := #[] }, { accessFlags := 26, nameIndex := 172, descriptorIndex := 173, attributes := #[] }, { accessFlags := 26, nameIndex := 176, descriptorIndex := 173, attributes := #[] }, { accessFlags := 8, nameIndex := 344, descriptorIndex := 339, attributes := #[] }, { accessFlags := 8, nameIndex := 338, descriptorIndex := 339, attributes := #[] }, { accessFlags := 4120, nameIndex := 245, descriptorIndex := 246, attributes := #[] }])
  fields := #[{ name := "E", type := .double, accessFlags := 25, slot := 0, constantValue := 0 }, { name := "PI", type := .double, accessFlags := 25, slot := 1, constantValue := 0 }, { name := "TAU", type := .double, accessFlags := 25, slot := 2, constantValue := 0 }, { name := "DEGREES_TO_RADIANS", type := .double, accessFlags := 26, slot := 3, constantValue := 0 }, { name := "RADIANS_TO_DEGREES", type := .double, accessFlags := 26, slot := 4, constantValue := 0 }, { name := "negativeZeroFloatBits", type := .long, accessFlags := 26, slot := 5, constantValue := 0 }, { name := "negativeZeroDoubleBits", type := .long, accessFlags := 26, slot := 6, constantValue := 0 }, { name := "twoToTheDoubleScaleUp", type := .double, accessFlags := 8, slot := 7, constantValue := 0 }, { name := "twoToTheDoubleScaleDown", type := .double, accessFlags := 8, slot := 8, constantValue := 0 }, { name := "$assertionsDisabled", type := .boolean, accessFlags := 4120, slot := 9, constantValue := 0 }]
  methods := #[k5m0, k5m1, k5m2, k5m3, k5m4]
  instanceTypes := #[]
  staticTypes := #[.double, .double, .double, .double, .double, .long, .long, .double, .double, .boolean]
  resolved := Array.replicate 460 none
  statics := none }

def pool6 : Array CpInfo := pool [(1, u "java/lang/Cloneable"), (0, .class_ 1), (0, u "java/lang/Object"), (0, .class_ 3)] 3

/-- java/lang/Cloneable -/
def k6 : Class := { plain "java/lang/Cloneable" (some 0) with
  accessFlags := 1537
  interfaces := #[]
  cf := some (fileOf pool6 2 #[] #[] 1537 4 #[] #[])
  fields := #[]
  methods := #[]
  instanceTypes := #[]
  staticTypes := #[]
  resolved := Array.replicate 8 none
  statics := none }

def pool7 : Array CpInfo := pool [(1, u "java/io/Serializable"), (0, .class_ 1), (0, u "java/lang/Object"), (0, .class_ 3)] 3

/-- java/io/Serializable -/
def k7 : Class := { plain "java/io/Serializable" (some 0) with
  accessFlags := 1537
  interfaces := #[]
  cf := some (fileOf pool7 2 #[] #[] 1537 4 #[] #[])
  fields := #[]
  methods := #[]
  instanceTypes := #[]
  staticTypes := #[]
  resolved := Array.replicate 8 none
  statics := none }

/-- the primitive byte -/
def k8 : Class := { plain "byte" none with kind := .primitive 'B', accessFlags := 0x411 }
/-- [B -/
def k9 : Class := { plain "[B" (some 0) with kind := .array 8 .byte, interfaces := #[6, 7], accessFlags := 1041 }

/-- the primitive int -/
def k10 : Class := { plain "int" none with kind := .primitive 'I', accessFlags := 0x411 }
/-- [I -/
def k11 : Class := { plain "[I" (some 0) with kind := .array 10 .int, interfaces := #[6, 7], accessFlags := 1041 }

def heap : Heap := #[]
def classes : Array Class := #[k0, k1, k2, k3, k4, k5, k6, k7, k8, k9, k10, k11]
def interned : List (Array UInt16 × Addr) := []
def slotsUsed : Nat := 0
def theMethod : MethodId := ⟨1, 4⟩
def args0 : Array Value := #[.int 5, .int 3]
def aboutOver (below : List Frame) : State where
  vm := { classes := classes, interned := interned.toArray }
  heap := heap
  slotsUsed := slotsUsed
  threads := #[{ frames := .invoking theMethod args0 :: below }]
def below0 : List Frame := [.native { method := ⟨0, 0⟩, args := #[] }]
def about1 : State := aboutOver below0
def p0 : Program := .bare "" "" ""
def e0 : Env := launch0.env 0 0 0
theorem w_frames : about1.frames = Frame.invoking theMethod args0 :: below0 := rfl
set_option maxRecDepth 65536 in
theorem w_args : argsFit about1.vm theMethod args0 = true := by decide +kernel
set_option maxRecDepth 65536 in
theorem w_heap : heapFits about1 = true := by decide +kernel
set_option maxRecDepth 65536 in
theorem w_runnable : about1.curStatus? = some .runnable := by decide +kernel
set_option maxRecDepth 65536 in
theorem w_alone : about1.alone = true := by decide +kernel
set_option maxRecDepth 65536 in
theorem w_named : about1.methodNamed? x = some theMethod := by decide +kernel
set_option maxRecDepth 65536 in
theorem w_hears : about1.hears theMethod below0 = true := by decide +kernel
set_option maxRecDepth 65536 in
theorem w_ripe : about1.ripe theMethod args0 below0 = true := by decide +kernel
theorem w_running : about1.status = .running := rfl
set_option maxRecDepth 65536 in
theorem w_room : about1.hasRoom e0.platform room_1 = true :=
  launch0.hasRoom_least _ room_1 (by decide +kernel) (by decide +kernel) (by decide +kernel) (by decide +kernel) (by decide +kernel) (by decide +kernel)
theorem allAtoms_all (ts : List Jvm.Cond) (a : Array Jvm.Value) (st : Jvm.State) : (allAtoms ts).before a st = ts.all (fun c => c.before a st) := by
  induction ts with
  | nil => rfl
  | cons c t ih =>
    show (Jvm.Cond.and c (allAtoms t)).before a st = _
    rw [Jvm.Cond.before_and, ih, List.all_cons]
def words1 : List Jvm.Cond := Jvm.Cond.code x code maxLocals ret :: tables_1
/-- a 'code' word, met by the world's own term for the bytes: nothing is compared byte by byte -/
theorem code_word {y : MethodName} {bytes : ByteArray} {mx : Nat} {rt : Option FieldType} {a : Array Value} {s : State} {m : MethodId} {meth : Method} {c : Code} (h1 : s.methodNamed? y = some m) (h2 : s.vm.method? m = some meth) (h3 : meth.code = some c) (h4 : c.code = bytes)
    (h5 : (c.maxLocals == mx && c.exceptionTable.isEmpty && decide (c.maxStack ≤ mostOperands) && decide (meth.sig.returnType = rt) && !meth.locks && decide (parseMethodDescriptor y.desc = some meth.sig)) = true) : (Jvm.Cond.code y bytes mx rt).before a s = true := by
  simp only [Bool.and_eq_true, beq_iff_eq, Bool.not_eq_true', decide_eq_true_eq] at h5
  obtain ⟨⟨⟨⟨⟨g1, g2⟩, g3⟩, g4⟩, g5⟩, g6⟩ := h5
  simp [Cond.before, Cond.holds, Cond.value, h1, h2, h3, h4, g1, g2, g3, g4, g5, g6]
def isCode : Jvm.Cond → Bool
  | .code _ _ _ _ => true
  | _ => false
theorem all_split {L : List Jvm.Cond} {P : Jvm.Cond → Bool} (h1 : L.all (fun c => isCode c || P c) = true) (h2 : ∀ c ∈ L.filter isCode, P c = true) : L.all P = true := by
  refine List.all_eq_true.mpr fun c hc => ?_
  have h := List.all_eq_true.mp h1 c hc
  rcases Bool.eq_false_or_eq_true (isCode c) with hi | hi
  · exact h2 c (List.mem_filter.mpr ⟨hc, hi⟩)
  · simpa [hi] using h
set_option maxRecDepth 65536 in
theorem w_c0 : (Jvm.Cond.code x code maxLocals ret).before args0 about1 = true := code_word (m := ⟨1, 4⟩) (meth := k1m4) (c := k1c4) (by decide +kernel) rfl rfl rfl (by decide +kernel)
set_option maxRecDepth 65536 in
theorem w_c1 : (Jvm.Cond.code ({ cls := "com/example/haze_to_match/hazetomatch/UnitBoundsIsBelowPinLaw", name := "field", desc := "(II)I" } : Jvm.MethodName) method_2_code (2 : Nat) (Option.some Jvm.ClassFile.FieldType.int)).before args0 about1 = true := code_word (m := ⟨1, 1⟩) (meth := k1m1) (c := k1c1) (by decide +kernel) rfl rfl rfl (by decide +kernel)
set_option maxRecDepth 65536 in
theorem w_c2 : (Jvm.Cond.code ({ cls := "com/example/haze_to_match/hazetomatch/UnitBoundsIsBelowPinLaw", name := "asBound", desc := "(I)D" } : Jvm.MethodName) method_3_code (1 : Nat) (Option.some Jvm.ClassFile.FieldType.double)).before args0 about1 = true := code_word (m := ⟨1, 2⟩) (meth := k1m2) (c := k1c2) (by decide +kernel) rfl rfl rfl (by decide +kernel)
set_option maxRecDepth 65536 in
theorem w_c3 : (Jvm.Cond.code ({ cls := "com/example/haze_to_match/hazetomatch/UnitBounds", name := "<init>", desc := "(DDDD)V" } : Jvm.MethodName) prog_70_method_1_code (9 : Nat) (Option.none : Option Jvm.ClassFile.FieldType)).before args0 about1 = true := code_word (m := ⟨4, 0⟩) (meth := k4m0) (c := k4c0) (by decide +kernel) rfl rfl rfl (by decide +kernel)
set_option maxRecDepth 65536 in
theorem w_c4 : (Jvm.Cond.code ({ cls := "java/lang/Record", name := "<init>", desc := "()V" } : Jvm.MethodName) jdk_30_method_1_code (1 : Nat) (Option.none : Option Jvm.ClassFile.FieldType)).before args0 about1 = true := code_word (m := ⟨2, 0⟩) (meth := k2m0) (c := k2c0) (by decide +kernel) rfl rfl rfl (by decide +kernel)
set_option maxRecDepth 65536 in
theorem w_c5 : (Jvm.Cond.code ({ cls := "java/lang/Object", name := "<init>", desc := "()V" } : Jvm.MethodName) object_method_1_code (1 : Nat) (Option.none : Option Jvm.ClassFile.FieldType)).before args0 about1 = true := code_word (m := ⟨0, 0⟩) (meth := k0m0) (c := k0c0) (by decide +kernel) rfl rfl rfl (by decide +kernel)
set_option maxRecDepth 65536 in
theorem w_c6 : (Jvm.Cond.code ({ cls := "com/example/haze_to_match/hazetomatch/UnitBounds", name := "unit", desc := "(D)D" } : Jvm.MethodName) prog_70_method_8_code (2 : Nat) (Option.some Jvm.ClassFile.FieldType.double)).before args0 about1 = true := code_word (m := ⟨4, 2⟩) (meth := k4m2) (c := k4c2) (by decide +kernel) rfl rfl rfl (by decide +kernel)
set_option maxRecDepth 65536 in
theorem w_c7 : (Jvm.Cond.code ({ cls := "java/lang/Math", name := "min", desc := "(DD)D" } : Jvm.MethodName) jdk_29_method_72_code (4 : Nat) (Option.some Jvm.ClassFile.FieldType.double)).before args0 about1 = true := code_word (m := ⟨5, 4⟩) (meth := k5m4) (c := k5c4) (by decide +kernel) rfl rfl rfl (by decide +kernel)
set_option maxRecDepth 65536 in
theorem w_c8 : (Jvm.Cond.code ({ cls := "java/lang/Math", name := "max", desc := "(DD)D" } : Jvm.MethodName) jdk_29_method_68_code (4 : Nat) (Option.some Jvm.ClassFile.FieldType.double)).before args0 about1 = true := code_word (m := ⟨5, 2⟩) (meth := k5m2) (c := k5c2) (by decide +kernel) rfl rfl rfl (by decide +kernel)
set_option maxRecDepth 65536 in
theorem w_c9 : (Jvm.Cond.code ({ cls := "com/example/haze_to_match/hazetomatch/UnitBoundsIsBelowPinLaw", name := "clamp", desc := "(I)I" } : Jvm.MethodName) method_4_code (1 : Nat) (Option.some Jvm.ClassFile.FieldType.int)).before args0 about1 = true := code_word (m := ⟨1, 3⟩) (meth := k1m3) (c := k1c3) (by decide +kernel) rfl rfl rfl (by decide +kernel)
set_option maxRecDepth 65536 in
theorem w_c10 : (Jvm.Cond.code ({ cls := "java/lang/Math", name := "min", desc := "(II)I" } : Jvm.MethodName) jdk_29_method_69_code (2 : Nat) (Option.some Jvm.ClassFile.FieldType.int)).before args0 about1 = true := code_word (m := ⟨5, 3⟩) (meth := k5m3) (c := k5c3) (by decide +kernel) rfl rfl rfl (by decide +kernel)
set_option maxRecDepth 65536 in
theorem w_c11 : (Jvm.Cond.code ({ cls := "java/lang/Math", name := "max", desc := "(II)I" } : Jvm.MethodName) jdk_29_method_65_code (2 : Nat) (Option.some Jvm.ClassFile.FieldType.int)).before args0 about1 = true := code_word (m := ⟨5, 1⟩) (meth := k5m1) (c := k5c1) (by decide +kernel) rfl rfl rfl (by decide +kernel)
set_option maxRecDepth 65536 in
theorem w_c12 : (Jvm.Cond.code ({ cls := "com/example/haze_to_match/hazetomatch/UnitBounds", name := "isBelow", desc := "(Lcom/example/haze_to_match/hazetomatch/UnitBounds;)Z" } : Jvm.MethodName) prog_70_method_6_code (2 : Nat) (Option.some Jvm.ClassFile.FieldType.boolean)).before args0 about1 = true := code_word (m := ⟨4, 1⟩) (meth := k4m1) (c := k4c1) (by decide +kernel) rfl rfl rfl (by decide +kernel)
def codes1 : List Jvm.Cond := [Jvm.Cond.code x code maxLocals ret, Jvm.Cond.code ({ cls := "com/example/haze_to_match/hazetomatch/UnitBoundsIsBelowPinLaw", name := "field", desc := "(II)I" } : Jvm.MethodName) method_2_code (2 : Nat) (Option.some Jvm.ClassFile.FieldType.int), Jvm.Cond.code ({ cls := "com/example/haze_to_match/hazetomatch/UnitBoundsIsBelowPinLaw", name := "asBound", desc := "(I)D" } : Jvm.MethodName) method_3_code (1 : Nat) (Option.some Jvm.ClassFile.FieldType.double), Jvm.Cond.code ({ cls := "com/example/haze_to_match/hazetomatch/UnitBounds", name := "<init>", desc := "(DDDD)V" } : Jvm.MethodName) prog_70_method_1_code (9 : Nat) (Option.none : Option Jvm.ClassFile.FieldType), Jvm.Cond.code ({ cls := "java/lang/Record", name := "<init>", desc := "()V" } : Jvm.MethodName) jdk_30_method_1_code (1 : Nat) (Option.none : Option Jvm.ClassFile.FieldType), Jvm.Cond.code ({ cls := "java/lang/Object", name := "<init>", desc := "()V" } : Jvm.MethodName) object_method_1_code (1 : Nat) (Option.none : Option Jvm.ClassFile.FieldType), Jvm.Cond.code ({ cls := "com/example/haze_to_match/hazetomatch/UnitBounds", name := "unit", desc := "(D)D" } : Jvm.MethodName) prog_70_method_8_code (2 : Nat) (Option.some Jvm.ClassFile.FieldType.double), Jvm.Cond.code ({ cls := "java/lang/Math", name := "min", desc := "(DD)D" } : Jvm.MethodName) jdk_29_method_72_code (4 : Nat) (Option.some Jvm.ClassFile.FieldType.double), Jvm.Cond.code ({ cls := "java/lang/Math", name := "max", desc := "(DD)D" } : Jvm.MethodName) jdk_29_method_68_code (4 : Nat) (Option.some Jvm.ClassFile.FieldType.double), Jvm.Cond.code ({ cls := "com/example/haze_to_match/hazetomatch/UnitBoundsIsBelowPinLaw", name := "clamp", desc := "(I)I" } : Jvm.MethodName) method_4_code (1 : Nat) (Option.some Jvm.ClassFile.FieldType.int), Jvm.Cond.code ({ cls := "java/lang/Math", name := "min", desc := "(II)I" } : Jvm.MethodName) jdk_29_method_69_code (2 : Nat) (Option.some Jvm.ClassFile.FieldType.int), Jvm.Cond.code ({ cls := "java/lang/Math", name := "max", desc := "(II)I" } : Jvm.MethodName) jdk_29_method_65_code (2 : Nat) (Option.some Jvm.ClassFile.FieldType.int), Jvm.Cond.code ({ cls := "com/example/haze_to_match/hazetomatch/UnitBounds", name := "isBelow", desc := "(Lcom/example/haze_to_match/hazetomatch/UnitBounds;)Z" } : Jvm.MethodName) prog_70_method_6_code (2 : Nat) (Option.some Jvm.ClassFile.FieldType.boolean)]
set_option maxRecDepth 65536 in
theorem codes_eq : words1.filter isCode = codes1 := rfl
theorem w_codes : ∀ c ∈ words1.filter isCode, c.before args0 about1 = true := by
  rw [codes_eq]
  intro c hc
  simp only [codes1, List.mem_cons, List.not_mem_nil, or_false] at hc
  rcases hc with rfl | rfl | rfl | rfl | rfl | rfl | rfl | rfl | rfl | rfl | rfl | rfl | rfl
  · exact w_c0
  · exact w_c1
  · exact w_c2
  · exact w_c3
  · exact w_c4
  · exact w_c5
  · exact w_c6
  · exact w_c7
  · exact w_c8
  · exact w_c9
  · exact w_c10
  · exact w_c11
  · exact w_c12
set_option maxRecDepth 65536 in
theorem w_t1 : (words1.take 24).all (fun c => isCode c || c.before args0 about1) = true := by decide +kernel
set_option maxRecDepth 65536 in
theorem w_t2 : ((words1.drop 24).take 24).all (fun c => isCode c || c.before args0 about1) = true := by decide +kernel
set_option maxRecDepth 65536 in
theorem w_t3 : ((words1.drop 24).drop 24).all (fun c => isCode c || c.before args0 about1) = true := by decide +kernel
theorem w_tables : (allAtoms (Jvm.Cond.code x code maxLocals ret :: tables_1)).before args0 about1 = true := by
  rw [allAtoms_all]
  show words1.all (fun c => c.before args0 about1) = true
  refine all_split ?_ w_codes
  rw [← List.take_append_drop 24 words1, List.all_append, w_t1, ← List.take_append_drop 24 (words1.drop 24), List.all_append, w_t2, w_t3]
  rfl
set_option maxRecDepth 65536 in
theorem w_case : (Jvm.Cond.and given_1 narrow_1).before args0 about1 = true := by decide +kernel
theorem w_applies : (headSpec (Jvm.Cond.code x code maxLocals ret :: tables_1) room_1).applies x e0.platform about1 = true :=
  (Spec.applies_iff w_frames).mpr ⟨w_running, w_runnable, w_alone, w_named, w_hears, w_ripe, w_room, w_tables⟩
theorem atStart : AtStart classFile x code maxLocals ret World_1 tables_1 room_1 Calls_1 rest_1 Pre_1 launch0 p0 e0 about1 theMethod args0 below0 :=
  ⟨lists_1, trivial, launch0.admits_env _ _ _, launch0.least_env, fairChoices_fair.cas, fairChoices_fair.clock, w_frames, w_args, w_heap, w_applies, trivial, trivial, w_case⟩
end start1
theorem witness_1 : WitnessClaimed_1 := ⟨start1.p0, start1.e0, start1.about1, start1.theMethod, start1.args0, start1.below0, start1.atStart⟩
end Jvm.Pilot.@@N@@
