import JvmDerived
import JvmDerived.Pilot.@@N@@Statement
import JvmDerived.Pilot.@@N@@Code
set_option linter.unusedVariables false
set_option linter.unusedSimpArgs false
@@BLOCK:NumsL.lean.txt@@
namespace Jvm.Pilot.@@N@@
open Jvm Jvm.ClassFile Sem Op Lib Jvm.Free Jvm.Stand Jvm.LawKit Jvm.RoadKit Bundle Jvm.Pilot.@@N@@.Jvm.D
section Own
variable {p : Program} {l : Launch} {e : Env} {R : Room} {s : State} {m : MethodId} {args : Array Value} {below : List Frame} {meth : Method} {c : Code} {T : State} {locs : List Loc} {cells slots : Nat} {Z : State} {a0 : Array Value} {h : Heap}
/-- from U the run comes to the method's end, and P holds there -/
def OGo (p : Program) (e : Env) (below : List Frame) (U : State) (P : State → Outcome → Prop) : Prop :=
  ∃ t o, Steps p.tables e below U t ∧ t.status = .running ∧ Ended t below o ∧ P t o
theorem OGo.step {U U' : State} {P : State → Outcome → Prop} (k : ∀ t, Steps p.tables e below U' t → Steps p.tables e below U t) (g : OGo p e below U' P) : OGo p e below U P := by
  obtain ⟨t, o, h1, h2⟩ := g
  exact ⟨t, o, k t h1, h2⟩
def OEnd (s : State) (Q : Option Value → Heap → List Loc → Prop) (kc ks : Nat) (t : State) (o : Outcome) : Prop :=
  ∃ v L, o = .returned v ∧ Q v t.heap L ∧ FrameEnd s o t L kc ks
/-- the contract of one body, at one array of arguments and one heap -/
abbrev OMet (l : Launch) (Z : State) (y : MethodName) (bytes : ByteArray) (maxL : Nat) (ret : Option FieldType) (ws : List Jvm.Cond) (rm : Room) (as' : Array Value) (h0 : Heap) (Q : Option Value → Heap → List Loc → Prop) : Prop :=
  MetFree l y (head1 (Jvm.Cond.code y bytes maxL ret :: ws) rm) (fun a U => a = as' ∧ Z.Warmed39 U.vm ∧ U.heap = h0) (fun _ _ _ _ _ => True) (fun _ U o U' => ∃ v L, o = .returned v ∧ Q v U'.heap L ∧ FrameEnd U o U' L rm.cells rm.slots)
theorem OMet.body {y : MethodName} {bytes : ByteArray} {maxL : Nat} {ret : Option FieldType} {ws : List Jvm.Cond} {rm : Room} {as' : Array Value} {h0 : Heap} {Q : Option Value → Heap → List Loc → Prop} (hpn : plainFor y = true)
    (b : ∀ (p : Program) (e : Env) (s : State) (m : MethodId) (below : List Frame) (meth : Method) (c : Code) (s₁ : State), p.tables.exec = Jvm.exec → c.code = bytes → c.maxLocals = maxL → s.vm.findClass y.cls = some m.cls → meth.name = y.name → meth.sig.returnType = ret → meth.locks = false → Z.Warmed39 s.vm →
      Stand p l e rm s m as' below meth c s₁ [] 0 0 → s₁.heap = h0 → OGo p e below (s₁.setTop (entryFrame m as' maxL)) (OEnd s Q rm.cells rm.slots)) : OMet l Z y bytes maxL ret ws rm as' h0 Q := by
  refine MetFree.of_bodySF hpn hisR ?_
  intro p e s m args below meth c s₁ Bd hml0 hP hK
  obtain ⟨rfl, hZ, hh⟩ := hP
  exact b p e s m below meth c s₁ Bd.exec Bd.bytes hml0 (findClass_of_methodNamed Bd.named) (name_of_methodNamed Bd.named Bd.method).1 Bd.returns Bd.notSynchronized hZ (Stand.of_body Bd) (by rw [← hh, Bd.state]; rfl)
theorem own_ret (X : Stand p l e R s m args below meth c T locs cells slots) (hx : p.tables.exec = Jvm.exec) (hlk : meth.locks = false) {pc : Nat} {Ls : Array Slot} {w : Value} {t : FieldType} {i : Instr} {rest : List Value} (hret : meth.sig.returnType = some t) (hn : narrow t w = w)
    (hi : (i = .ireturn ∧ (t = .int ∨ t = .boolean ∨ t = .byte ∨ t = .char ∨ t = .short) ∧ ∃ z, w = .int z) ∨ (i = .lreturn ∧ t = .long ∧ ∃ z, w = .long z) ∨ (i = .dreturn ∧ t = .double ∧ ∃ z, w = .double z) ∨ (i = .freturn ∧ t = .float ∧ ∃ z, w = .float z) ∨ (i = .areturn ∧ t.isReference = true ∧ w.isRef = true))
    (hd : decode c.code pc = .ok (i, 1)) {Q : Option Value → Heap → List Loc → Prop} {kc ks : Nat} (hQ : Q (some w) T.heap locs) (h1 : cells ≤ kc) (h2 : slots ≤ ks) : OGo p e below (T.setTop (mkF m pc Ls (w :: rest))) (OEnd s Q kc ks) := by
  obtain ⟨fs, hr, hrun, hended, hW, hsame⟩ := X.leave (v := some w) (fun h => by rw [hret] at h; cases h) hlk
  exact ⟨_, _, retOut X hx hret hn hi hd hr, hrun, hended, _, _, rfl, hQ, ⟨_, rfl⟩, hW, hsame.mono h1 h2⟩
theorem own_retN (X : Stand p l e R s m args below meth c T locs cells slots) (hx : p.tables.exec = Jvm.exec) (hlk : meth.locks = false) {pc : Nat} {Ls : Array Slot} {z : Int32} {t : FieldType} {rest : List Value} (hret : meth.sig.returnType = some t) (ht : t = .boolean ∨ t = .byte ∨ t = .char ∨ t = .short)
    (hd : decode c.code pc = .ok (.ireturn, 1)) {Q : Option Value → Heap → List Loc → Prop} {kc ks : Nat} (hQ : Q (some (.int (nar t z))) T.heap locs) (h1 : cells ≤ kc) (h2 : slots ≤ ks) : OGo p e below (T.setTop (mkF m pc Ls (.int z :: rest))) (OEnd s Q kc ks) := by
  obtain ⟨fs, hr, hrun, hended, hW, hsame⟩ := X.leave (v := some (.int (nar t z))) (fun h => by rw [hret] at h; cases h) hlk
  exact ⟨_, _, retN X hx hret ht hd hr, hrun, hended, _, _, rfl, hQ, ⟨_, rfl⟩, hW, hsame.mono h1 h2⟩
theorem own_ret0 (X : Stand p l e R s m args below meth c T locs cells slots) (hx : p.tables.exec = Jvm.exec) (hlk : meth.locks = false) {pc : Nat} {Ls : Array Slot} (hret : meth.sig.returnType = none)
    (hd : decode c.code pc = .ok (.return_, 1)) {Q : Option Value → Heap → List Loc → Prop} {kc ks : Nat} (hQ : Q none T.heap locs) (h1 : cells ≤ kc) (h2 : slots ≤ ks) : OGo p e below (T.setTop (mkF m pc Ls [])) (OEnd s Q kc ks) := by
  obtain ⟨fs, hr, hrun, hended, hW, hsame⟩ := X.leave (v := none) (fun _ => rfl) hlk
  exact ⟨_, _, X.returnOut hx hret hd hr, hrun, hended, _, _, rfl, hQ, ⟨_, rfl⟩, hW, hsame.mono h1 h2⟩
/-- who pays a call: at these arguments and this heap -/
abbrev OBack (l : Launch) (R : Room) (p : Program) (e : Env) (below : List Frame) (s : State) (args : Array Value) (y : MethodName) (len W : Nat) (as' : Array Value) (h : Heap) (kc ks : Nat) (Q : Option Value → Heap → List Loc → Prop) : Prop :=
  Back l R p e below s args y len W (fun P a => a = as' ∧ P.U.heap = h ∧ P.cells + kc ≤ R.cells ∧ P.slots + ks ≤ R.slots) (fun P _ v B => ∃ L, Q v B.U.heap L ∧ B.locs = P.locs ++ L ∧ B.cells = P.cells + kc ∧ B.slots = P.slots + ks)
/-- a static call by the callee's contract -/
theorem own_callSK (X : Stand p l e R s m args below meth c T locs cells slots) (hx : p.tables.exec = Jvm.exec) (hZ : Z.Warmed39 s.vm) {own : String} {index : Nat} {y : MethodName} {bytes : ByteArray} {maxL : Nat} {ret : Option FieldType}
    (hown : s.vm.findClass own = some m.cls) (w1 : (Jvm.Cond.methodLink own index y).before a0 Z = true) (w2 : (Jvm.Cond.static y).before a0 Z = true) (w3 : (Jvm.Cond.initialized y.cls).before a0 Z = true)
    (w4 : (Jvm.Cond.code y bytes maxL ret).before a0 Z = true) (hy : y.cls ≠ "java/lang/invoke/MethodHandle" ∧ y.cls ≠ "java/lang/invoke/VarHandle")
    {W : Nat} {kc ks : Nat} {argsL rest : List Value} {Q : Option Value → Heap → List Loc → Prop} (hK : OBack l R p e below s args y 3 W argsL.toArray h kc ks Q) (eT : T.heap = h)
    {pc : Nat} {Ls : Array Slot} (hsize : Ls.size = c.maxLocals) (hlen : ∀ sig, parseMethodDescriptor y.desc = some sig → argsL.length = sig.parameters.length) (hW : (rest.map fun v => v.category).sum = W)
    (hd : decode c.code pc = .ok (.invokestatic index, 3)) (hc : cells + kc ≤ R.cells) (hs : slots + ks ≤ R.slots) {P : State → Outcome → Prop}
    (k : ∀ (v : Option Value) (T' : State) (L : List Loc), Stand p l e R s m args below meth c T' (locs ++ L) (cells + kc) (slots + ks) → Q v T'.heap L → OGo p e below (T'.setTop (mkF m (pc + 3) Ls (v.toList ++ rest))) P) :
    OGo p e below (T.setTop (mkF m pc Ls (argsL.reverse ++ rest))) P := by
  obtain ⟨v, vm, ⟨T', L', k', n'⟩, -, X', ⟨L, hQ, l1, y1, z1⟩, st⟩ := Jvm.LawKit.callS X hx (y := y) hown (mvT hZ w1) (mvT hZ w2) (mvT hZ w3) (mvT hZ w4) hy hK (g := mkF m pc Ls (argsL.reverse ++ rest)) rfl hsize (argsL := argsL) (rest := rest) hlen rfl
    (by show 2 * 0 + _ ≤ _; rw [hW]; omega) hd (fun _ _ => ⟨rfl, eT, hc, hs⟩)
  dsimp only [Pt.U, Pt.locs, Pt.cells, Pt.slots] at X' l1 y1 z1 st hQ
  subst l1 y1 z1
  exact OGo.step st (k v T' L X' hQ)
theorem own_callS (X : Stand p l e R s m args below meth c T locs cells slots) (hx : p.tables.exec = Jvm.exec) (hZ : Z.Warmed39 s.vm) {own : String} {index : Nat} {y : MethodName} {bytes : ByteArray} {maxL : Nat} {ret : Option FieldType}
    (hown : s.vm.findClass own = some m.cls) (w1 : (Jvm.Cond.methodLink own index y).before a0 Z = true) (w2 : (Jvm.Cond.static y).before a0 Z = true) (w3 : (Jvm.Cond.initialized y.cls).before a0 Z = true)
    (w4 : (Jvm.Cond.code y bytes maxL ret).before a0 Z = true) (hy : y.cls ≠ "java/lang/invoke/MethodHandle" ∧ y.cls ≠ "java/lang/invoke/VarHandle")
    {W : Nat} {rm : Room} {argsL rest : List Value} {Q : Option Value → Heap → List Loc → Prop} (hM : OMet l Z y bytes maxL ret [] rm argsL.toArray h Q) (eT : T.heap = h)
    {pc : Nat} {Ls : Array Slot} (hsize : Ls.size = c.maxLocals) (hlen : ∀ sig, parseMethodDescriptor y.desc = some sig → argsL.length = sig.parameters.length) (hW : (rest.map fun v => v.category).sum = W)
    (hd : decode c.code pc = .ok (.invokestatic index, 3)) (hf : rm.frames + 1 ≤ R.frames) (hl : W + (maxL + 11) + rm.locals ≤ R.locals) (hc : cells + rm.cells ≤ R.cells) (hs : slots + rm.slots ≤ R.slots) {P : State → Outcome → Prop}
    (k : ∀ (v : Option Value) (T' : State) (L : List Loc), Stand p l e R s m args below meth c T' (locs ++ L) (cells + rm.cells) (slots + rm.slots) → Q v T'.heap L → OGo p e below (T'.setTop (mkF m (pc + 3) Ls (v.toList ++ rest))) P) :
    OGo p e below (T.setTop (mkF m pc Ls (argsL.reverse ++ rest))) P := 
  own_callSK X hx hZ hown w1 w2 w3 w4 hy (backOf (W := W) hM hZ w4 w3 hf hl) eT hsize hlen hW hd hc hs k
/-- a constructor by its contract -/
theorem own_specialK (X : Stand p l e R s m args below meth c T locs cells slots) (hx : p.tables.exec = Jvm.exec) (hZ : Z.Warmed39 s.vm) {own : String} {index : Nat} {y : MethodName} {bytes : ByteArray} {maxL : Nat} (hy1 : y.name = "<init>")
    (hown : s.vm.findClass own = some m.cls) (w1 : (Jvm.Cond.methodLink own index y).before a0 Z = true) (w2 : (Jvm.Cond.instanceMethod y).before a0 Z = true)
    (w4 : (Jvm.Cond.code y bytes maxL none).before a0 Z = true) (hy : y.cls ≠ "java/lang/invoke/MethodHandle" ∧ y.cls ≠ "java/lang/invoke/VarHandle") {a : Addr}
    {W : Nat} {kc ks : Nat} {argsL rest : List Value} {Q : Option Value → Heap → List Loc → Prop} (hK : OBack l R p e below s args y 3 W (.ref a :: argsL).toArray h kc ks Q) (eT : T.heap = h)
    {pc : Nat} {Ls : Array Slot} (hsize : Ls.size = c.maxLocals) (hlen : ∀ sig, parseMethodDescriptor y.desc = some sig → argsL.length = sig.parameters.length) (hW : (rest.map fun v => v.category).sum = W)
    (hd : decode c.code pc = .ok (.invokespecial index, 3)) (hc : cells + kc ≤ R.cells) (hs : slots + ks ≤ R.slots) {P : State → Outcome → Prop}
    (k : ∀ (v : Option Value) (T' : State) (L : List Loc), Stand p l e R s m args below meth c T' (locs ++ L) (cells + kc) (slots + ks) → Q v T'.heap L → OGo p e below (T'.setTop (mkF m (pc + 3) Ls (v.toList ++ rest))) P) :
    OGo p e below (T.setTop (mkF m pc Ls (argsL.reverse ++ .ref a :: rest))) P := by
  obtain ⟨v, vm, ⟨T', L', k', n'⟩, -, X', ⟨L, hQ, l1, y1, z1⟩, st⟩ := X.specialBack hx (y := y) hy1 hown (mvT hZ w1) (mvT hZ w2) (mvT hZ w4) hy hK (g := mkF m pc Ls (argsL.reverse ++ .ref a :: rest)) rfl hsize (Steps.refl _) (a := a) (argsL := argsL) (rest := rest) hlen rfl
    (by show 2 * 0 + _ ≤ _; rw [hW]; omega) hd (fun _ _ => ⟨rfl, eT, hc, hs⟩)
  dsimp only [Pt.U, Pt.locs, Pt.cells, Pt.slots] at X' l1 y1 z1 st hQ
  subst l1 y1 z1
  exact OGo.step (fun _ kk => st.trans kk) (k v T' L X' hQ)
theorem own_special (X : Stand p l e R s m args below meth c T locs cells slots) (hx : p.tables.exec = Jvm.exec) (hZ : Z.Warmed39 s.vm) {own : String} {index : Nat} {y : MethodName} {bytes : ByteArray} {maxL : Nat} (hy1 : y.name = "<init>")
    (hown : s.vm.findClass own = some m.cls) (w1 : (Jvm.Cond.methodLink own index y).before a0 Z = true) (w2 : (Jvm.Cond.instanceMethod y).before a0 Z = true)
    (w4 : (Jvm.Cond.code y bytes maxL none).before a0 Z = true) (w3 : (Jvm.Cond.initialized y.cls).before a0 Z = true) (hy : y.cls ≠ "java/lang/invoke/MethodHandle" ∧ y.cls ≠ "java/lang/invoke/VarHandle") {a : Addr}
    {W : Nat} {rm : Room} {argsL rest : List Value} {Q : Option Value → Heap → List Loc → Prop} (hM : OMet l Z y bytes maxL none [] rm (.ref a :: argsL).toArray h Q) (eT : T.heap = h)
    {pc : Nat} {Ls : Array Slot} (hsize : Ls.size = c.maxLocals) (hlen : ∀ sig, parseMethodDescriptor y.desc = some sig → argsL.length = sig.parameters.length) (hW : (rest.map fun v => v.category).sum = W)
    (hd : decode c.code pc = .ok (.invokespecial index, 3)) (hf : rm.frames + 1 ≤ R.frames) (hl : W + (maxL + 11) + rm.locals ≤ R.locals) (hc : cells + rm.cells ≤ R.cells) (hs : slots + rm.slots ≤ R.slots) {P : State → Outcome → Prop}
    (k : ∀ (v : Option Value) (T' : State) (L : List Loc), Stand p l e R s m args below meth c T' (locs ++ L) (cells + rm.cells) (slots + rm.slots) → Q v T'.heap L → OGo p e below (T'.setTop (mkF m (pc + 3) Ls (v.toList ++ rest))) P) :
    OGo p e below (T.setTop (mkF m pc Ls (argsL.reverse ++ .ref a :: rest))) P := 
  own_specialK X hx hZ hy1 hown w1 w2 w4 hy (backOf (W := W) hM hZ w4 w3 hf hl) eT hsize hlen hW hd hc hs k
/-- an instance method by its contract -/
theorem own_virtualK (X : Stand p l e R s m args below meth c T locs cells slots) (hx : p.tables.exec = Jvm.exec) (hZ : Z.Warmed39 s.vm) {own C : String} {index : Nat} {y z : MethodName}
    (hown : s.vm.findClass own = some m.cls) (w1 : (Jvm.Cond.methodLink own index y).before a0 Z = true) (w2 : (Jvm.Cond.declares y).before a0 Z = true) (hnf : NotFace s y) (w5 : (Jvm.Cond.selects C y z).before a0 Z = true) (w6 : (Jvm.Cond.instanceMethod z).before a0 Z = true)
    (hy : y.cls ≠ "java/lang/invoke/MethodHandle" ∧ y.cls ≠ "java/lang/invoke/VarHandle") {b : Addr} (hb : Exa Z h b C)
    {W : Nat} {kc ks : Nat} {argsL rest : List Value} {Q : Option Value → Heap → List Loc → Prop} (hK : OBack l R p e below s args z 3 W (.ref b :: argsL).toArray h kc ks Q) (eT : T.heap = h)
    {pc : Nat} {Ls : Array Slot} (hsize : Ls.size = c.maxLocals) (hlen : ∀ sig, parseMethodDescriptor y.desc = some sig → argsL.length = sig.parameters.length) (hW : (rest.map fun v => v.category).sum = W)
    (hd : decode c.code pc = .ok (.invokevirtual index, 3)) (hc : cells + kc ≤ R.cells) (hs : slots + ks ≤ R.slots) {P : State → Outcome → Prop}
    (k : ∀ (v : Option Value) (T' : State) (L : List Loc), Stand p l e R s m args below meth c T' (locs ++ L) (cells + kc) (slots + ks) → Q v T'.heap L → OGo p e below (T'.setTop (mkF m (pc + 3) Ls (v.toList ++ rest))) P) :
    OGo p e below (T.setTop (mkF m pc Ls (argsL.reverse ++ .ref b :: rest))) P := by
  obtain ⟨cq, kq, qa, qb, qc⟩ := isOf hZ eT hb
  obtain ⟨v, vm, ⟨T', L', k', n'⟩, -, X', ⟨L, hQ, l1, y1, z1⟩, st⟩ := X.virtualBack hx (y := y) (z := z) hown (mvT hZ w1) (mvT hZ w2) hnf (mvT hZ w5) (mvT hZ w6) hy hK qa qc (g := mkF m pc Ls (argsL.reverse ++ .ref b :: rest)) rfl hsize (Steps.refl _) (argsL := argsL) (rest := rest) hlen rfl
    (by show 2 * 0 + _ ≤ _; rw [hW]; omega) hd (fun _ _ => ⟨rfl, eT, hc, hs⟩)
  dsimp only [Pt.U, Pt.locs, Pt.cells, Pt.slots] at X' l1 y1 z1 st hQ
  subst l1 y1 z1
  exact OGo.step (fun _ kk => st.trans kk) (k v T' L X' hQ)
theorem own_virtual (X : Stand p l e R s m args below meth c T locs cells slots) (hx : p.tables.exec = Jvm.exec) (hZ : Z.Warmed39 s.vm) {own C : String} {index : Nat} {y z : MethodName} {bytes : ByteArray} {maxL : Nat} {ret : Option FieldType}
    (hown : s.vm.findClass own = some m.cls) (w1 : (Jvm.Cond.methodLink own index y).before a0 Z = true) (w2 : (Jvm.Cond.declares y).before a0 Z = true) (hnf : NotFace s y) (w5 : (Jvm.Cond.selects C y z).before a0 Z = true) (w6 : (Jvm.Cond.instanceMethod z).before a0 Z = true)
    (hy : y.cls ≠ "java/lang/invoke/MethodHandle" ∧ y.cls ≠ "java/lang/invoke/VarHandle") (w4 : (Jvm.Cond.code z bytes maxL ret).before a0 Z = true) (w3 : (Jvm.Cond.initialized z.cls).before a0 Z = true) {b : Addr} (hb : Exa Z h b C)
    {W : Nat} {rm : Room} {argsL rest : List Value} {Q : Option Value → Heap → List Loc → Prop} (hM : OMet l Z z bytes maxL ret [] rm (.ref b :: argsL).toArray h Q) (eT : T.heap = h)
    {pc : Nat} {Ls : Array Slot} (hsize : Ls.size = c.maxLocals) (hlen : ∀ sig, parseMethodDescriptor y.desc = some sig → argsL.length = sig.parameters.length) (hW : (rest.map fun v => v.category).sum = W)
    (hd : decode c.code pc = .ok (.invokevirtual index, 3)) (hf : rm.frames + 1 ≤ R.frames) (hl : W + (maxL + 11) + rm.locals ≤ R.locals) (hc : cells + rm.cells ≤ R.cells) (hs : slots + rm.slots ≤ R.slots) {P : State → Outcome → Prop}
    (k : ∀ (v : Option Value) (T' : State) (L : List Loc), Stand p l e R s m args below meth c T' (locs ++ L) (cells + rm.cells) (slots + rm.slots) → Q v T'.heap L → OGo p e below (T'.setTop (mkF m (pc + 3) Ls (v.toList ++ rest))) P) :
    OGo p e below (T.setTop (mkF m pc Ls (argsL.reverse ++ .ref b :: rest))) P := 
  own_virtualK X hx hZ hown w1 w2 hnf w5 w6 hy hb (backOf (W := W) hM hZ w4 w3 hf hl) eT hsize hlen hW hd hc hs k
/-- an instance method that an ancestor declares, by its contract -/
theorem own_virtualUpK (X : Stand p l e R s m args below meth c T locs cells slots) (hx : p.tables.exec = Jvm.exec) (hZ : Z.Warmed39 s.vm) {own C owner : String} {index : Nat} {y z : MethodName}
    (hown : s.vm.findClass own = some m.cls) (w1 : (Jvm.Cond.methodLink own index y).before a0 Z = true) (w7 : (Jvm.Cond.sameMethod y.cls owner y.name y.desc).before a0 Z = true) (w2 : (Jvm.Cond.declares ⟨owner, y.name, y.desc⟩).before a0 Z = true) (w5 : (Jvm.Cond.selects C y z).before a0 Z = true) (w6 : (Jvm.Cond.instanceMethod z).before a0 Z = true)
    (hy : owner ≠ "java/lang/invoke/MethodHandle" ∧ owner ≠ "java/lang/invoke/VarHandle") {b : Addr} (hb : Exa Z h b C)
    {W : Nat} {kc ks : Nat} {argsL rest : List Value} {Q : Option Value → Heap → List Loc → Prop} (hK : OBack l R p e below s args z 3 W (.ref b :: argsL).toArray h kc ks Q) (eT : T.heap = h)
    {pc : Nat} {Ls : Array Slot} (hsize : Ls.size = c.maxLocals) (hlen : ∀ sig, parseMethodDescriptor y.desc = some sig → argsL.length = sig.parameters.length) (hW : (rest.map fun v => v.category).sum = W)
    (hd : decode c.code pc = .ok (.invokevirtual index, 3)) (hc : cells + kc ≤ R.cells) (hs : slots + ks ≤ R.slots) {P : State → Outcome → Prop}
    (k : ∀ (v : Option Value) (T' : State) (L : List Loc), Stand p l e R s m args below meth c T' (locs ++ L) (cells + kc) (slots + ks) → Q v T'.heap L → OGo p e below (T'.setTop (mkF m (pc + 3) Ls (v.toList ++ rest))) P) :
    OGo p e below (T.setTop (mkF m pc Ls (argsL.reverse ++ .ref b :: rest))) P := by
  obtain ⟨cq, kq, qa, qb, qc⟩ := isOf hZ eT hb
  obtain ⟨v, vm, ⟨T', L', k', n'⟩, -, X', ⟨L, hQ, l1, y1, z1⟩, st⟩ := X.virtualBackUp hx (x := y) (y := z) hown (mvT hZ w1) (mvT hZ w7) (mvT hZ w2) hy (mvT hZ w5) (mvT hZ w6) hK qa qc (g := mkF m pc Ls (argsL.reverse ++ .ref b :: rest)) rfl hsize (Steps.refl _) (argsL := argsL) (rest := rest) hlen rfl
    (by show 2 * 0 + _ ≤ _; rw [hW]; omega) hd (fun _ _ => ⟨rfl, eT, hc, hs⟩)
  dsimp only [Pt.U, Pt.locs, Pt.cells, Pt.slots] at X' l1 y1 z1 st hQ
  subst l1 y1 z1
  exact OGo.step (fun _ kk => st.trans kk) (k v T' L X' hQ)
theorem own_virtualUp (X : Stand p l e R s m args below meth c T locs cells slots) (hx : p.tables.exec = Jvm.exec) (hZ : Z.Warmed39 s.vm) {own C owner : String} {index : Nat} {y z : MethodName} {bytes : ByteArray} {maxL : Nat} {ret : Option FieldType}
    (hown : s.vm.findClass own = some m.cls) (w1 : (Jvm.Cond.methodLink own index y).before a0 Z = true) (w7 : (Jvm.Cond.sameMethod y.cls owner y.name y.desc).before a0 Z = true) (w2 : (Jvm.Cond.declares ⟨owner, y.name, y.desc⟩).before a0 Z = true) (w5 : (Jvm.Cond.selects C y z).before a0 Z = true) (w6 : (Jvm.Cond.instanceMethod z).before a0 Z = true)
    (hy : owner ≠ "java/lang/invoke/MethodHandle" ∧ owner ≠ "java/lang/invoke/VarHandle") (w4 : (Jvm.Cond.code z bytes maxL ret).before a0 Z = true) (w3 : (Jvm.Cond.initialized z.cls).before a0 Z = true) {b : Addr} (hb : Exa Z h b C)
    {W : Nat} {rm : Room} {argsL rest : List Value} {Q : Option Value → Heap → List Loc → Prop} (hM : OMet l Z z bytes maxL ret [] rm (.ref b :: argsL).toArray h Q) (eT : T.heap = h)
    {pc : Nat} {Ls : Array Slot} (hsize : Ls.size = c.maxLocals) (hlen : ∀ sig, parseMethodDescriptor y.desc = some sig → argsL.length = sig.parameters.length) (hW : (rest.map fun v => v.category).sum = W)
    (hd : decode c.code pc = .ok (.invokevirtual index, 3)) (hf : rm.frames + 1 ≤ R.frames) (hl : W + (maxL + 11) + rm.locals ≤ R.locals) (hc : cells + rm.cells ≤ R.cells) (hs : slots + rm.slots ≤ R.slots) {P : State → Outcome → Prop}
    (k : ∀ (v : Option Value) (T' : State) (L : List Loc), Stand p l e R s m args below meth c T' (locs ++ L) (cells + rm.cells) (slots + rm.slots) → Q v T'.heap L → OGo p e below (T'.setTop (mkF m (pc + 3) Ls (v.toList ++ rest))) P) :
    OGo p e below (T.setTop (mkF m pc Ls (argsL.reverse ++ .ref b :: rest))) P := 
  own_virtualUpK X hx hZ hown w1 w7 w2 w5 w6 hy hb (backOf (W := W) hM hZ w4 w3 hf hl) eT hsize hlen hW hd hc hs k
theorem own_cat {v : Value} (q : v.isRef = true) : v.category = 1 := by cases v <;> first | rfl | (simp [Value.isRef] at q)
theorem own_narR {v : Value} {t : FieldType} (q : v.isRef = true) (ht : t.isReference = true := by rfl) : narrow t v = v := by cases v <;> first | (simp [Value.isRef] at q; done) | (cases t <;> first | rfl | (cases ht))
theorem own_fitR {v : Value} {t : FieldType} (q : v.isRef = true) (ht : t.isReference = true := by rfl) : fits t v = true := by cases v <;> first | (simp [Value.isRef] at q; done) | (cases t <;> first | rfl | (cases ht))
theorem own_store1 {l l' : Array Slot} {i : Nat} {v : Value} {o : Slot} (hold : l[i]? = some o) (ho : o = .unset ∨ ∃ w, o = .val w ∧ w.category = 1) (hv : v.category = 1) (hl' : l.setIfInBounds i (.val v) = l' := by rfl) : storeLocals l i v = some l' := by
  rw [XS.store1 hold ho hv, hl']
end Own
theorem own_eqv {args : Array Value} {s : State} {a b : Term} {y : Value} (h : (Jvm.Cond.eq a b).value args s none s [] = some true) (hb : b.eval args s none [] s = some y) : a.eval args s none [] s = some y := by
  cases ha : a.eval args s none [] s with
  | none => simp [Cond.value, ha] at h
  | some x => cases x <;> cases y <;> simp_all [Cond.value]
theorem own_len {args : Array Value} {s : State} {t : Term} {a : Addr} {cl : Cell} {ty : FieldType} {n : Int32} (ev : t.eval args s none [] s = some (.ref a)) (A : Arr s s.heap a cl ty) (h : (Term.length t).eval args s none [] s = some (.int n)) : cl.slots.size < 2 ^ 31 ∧ cl.slots.size.toInt32 = n := by
  have ha : s.arrayAt? a = some cl := Arr.fin (State.WarmedH.refl s).alike A
  by_cases q : cl.slots.size < 2 ^ 31
  · rw [len_f ev ha q] at h
    exact ⟨q, Value.int.inj (Option.some.inj h)⟩
  · simp [Term.eval, ev, ha] at h
    omega
theorem own_elem {args : Array Value} {s : State} {t : Term} {a : Addr} {cl : Cell} {ty : FieldType} {j : Int32} {v : Value} (ev : t.eval args s none [] s = some (.ref a)) (A : Arr s s.heap a cl ty) (h : (Term.elem t (Term.int j)).eval args s none [] s = some v) (hn : ¬ j < 0 := by decide) : cl.slots[j.toNatClampNeg]? = some v := by
  have ha : s.arrayAt? a = some cl := Arr.fin (State.WarmedH.refl s).alike A
  rw [← elem_f ev (Term.int_eval j) ha hn]; exact h
theorem own_pd0 : parseMethodDescriptor "(D)D" = some ⟨[.double], some .double⟩ := by decide +kernel
theorem own_pd1 : parseMethodDescriptor "(JD)Z" = some ⟨[.long, .double], some .boolean⟩ := by decide +kernel
theorem own_pn0 : plainName "com/example/tokengauge/tokengauge/Lattice" = true := by first | (simp [plainName, overriddenIn]; done) | decide +kernel
theorem own_pn1 : plainName "com/example/tokengauge/tokengauge/LatticeRelativeErrorPinLaw" = true := by first | (simp [plainName, overriddenIn]; done) | decide +kernel
theorem own_d_prog_72_method_10_code_0 : decode prog_72_method_10_code 0 = .ok (.dload_n 0, 1) := by decide +kernel
theorem own_d_prog_72_method_10_code_1 : decode prog_72_method_10_code 1 = .ok (.ldc2_w 115, 3) := by decide +kernel
theorem own_d_prog_72_method_10_code_4 : decode prog_72_method_10_code 4 = .ok (.dmul, 1) := by decide +kernel
theorem own_d_prog_72_method_10_code_5 : decode prog_72_method_10_code 5 = .ok (.dstore_n 2, 1) := by decide +kernel
theorem own_d_prog_72_method_10_code_6 : decode prog_72_method_10_code 6 = .ok (.dload_n 2, 1) := by decide +kernel
theorem own_d_prog_72_method_10_code_7 : decode prog_72_method_10_code 7 = .ok (.ldc2_w 117, 3) := by decide +kernel
theorem own_d_prog_72_method_10_code_10 : decode prog_72_method_10_code 10 = .ok (.dcmp .g, 1) := by decide +kernel
theorem own_d_prog_72_method_10_code_11 : decode prog_72_method_10_code 11 = .ok (.ifCond .ge 15, 3) := by decide +kernel
theorem own_d_prog_72_method_10_code_14 : decode prog_72_method_10_code 14 = .ok (.dload_n 2, 1) := by decide +kernel
theorem own_d_prog_72_method_10_code_15 : decode prog_72_method_10_code 15 = .ok (.dconst 1, 1) := by decide +kernel
theorem own_d_prog_72_method_10_code_16 : decode prog_72_method_10_code 16 = .ok (.dload_n 2, 1) := by decide +kernel
theorem own_d_prog_72_method_10_code_17 : decode prog_72_method_10_code 17 = .ok (.dsub, 1) := by decide +kernel
theorem own_d_prog_72_method_10_code_18 : decode prog_72_method_10_code 18 = .ok (.ddiv, 1) := by decide +kernel
theorem own_d_prog_72_method_10_code_19 : decode prog_72_method_10_code 19 = .ok (.ldc2_w 119, 3) := by decide +kernel
theorem own_d_prog_72_method_10_code_22 : decode prog_72_method_10_code 22 = .ok (.dmul, 1) := by decide +kernel
theorem own_d_prog_72_method_10_code_23 : decode prog_72_method_10_code 23 = .ok (.goto 4, 3) := by decide +kernel
theorem own_d_prog_72_method_10_code_27 : decode prog_72_method_10_code 27 = .ok (.dreturn, 1) := by decide +kernel
theorem own_d_prog_72_method_10_code_26 : decode prog_72_method_10_code 26 = .ok (.dconst 1, 1) := by decide +kernel
theorem own_d_method_3_code_0 : decode method_3_code 0 = .ok (.lload_n 0, 1) := by decide +kernel
theorem own_d_method_3_code_1 : decode method_3_code 1 = .ok (.ldc2_w 9, 3) := by decide +kernel
theorem own_d_method_3_code_4 : decode method_3_code 4 = .ok (.lcmp, 1) := by decide +kernel
theorem own_d_method_3_code_5 : decode method_3_code 5 = .ok (.ifCond .lt 15, 3) := by decide +kernel
theorem own_d_method_3_code_20 : decode method_3_code 20 = .ok (.lload_n 0, 1) := by decide +kernel
theorem own_d_method_3_code_21 : decode method_3_code 21 = .ok (.lconst 0, 1) := by decide +kernel
theorem own_d_method_3_code_22 : decode method_3_code 22 = .ok (.lcmp, 1) := by decide +kernel
theorem own_d_method_3_code_23 : decode method_3_code 23 = .ok (.ifCond .ne 15, 3) := by decide +kernel
theorem own_d_method_3_code_26 : decode method_3_code 26 = .ok (.dload_n 2, 1) := by decide +kernel
theorem own_d_method_3_code_27 : decode method_3_code 27 = .ok (.dconst 0, 1) := by decide +kernel
theorem own_d_method_3_code_28 : decode method_3_code 28 = .ok (.dcmp .l, 1) := by decide +kernel
theorem own_d_method_3_code_29 : decode method_3_code 29 = .ok (.ifCond .ne 7, 3) := by decide +kernel
theorem own_d_method_3_code_32 : decode method_3_code 32 = .ok (.iconst 1, 1) := by decide +kernel
theorem own_d_method_3_code_33 : decode method_3_code 33 = .ok (.goto 4, 3) := by decide +kernel
theorem own_d_method_3_code_37 : decode method_3_code 37 = .ok (.ireturn, 1) := by decide +kernel
theorem own_d_method_3_code_38 : decode method_3_code 38 = .ok (.lload_n 0, 1) := by decide +kernel
theorem own_d_method_3_code_39 : decode method_3_code 39 = .ok (.l2d, 1) := by decide +kernel
theorem own_d_method_3_code_40 : decode method_3_code 40 = .ok (.ldc2_w 29, 3) := by decide +kernel
theorem own_d_method_3_code_43 : decode method_3_code 43 = .ok (.dmul, 1) := by decide +kernel
theorem own_d_method_3_code_44 : decode method_3_code 44 = .ok (.dstore 4, 2) := by decide +kernel
theorem own_d_method_3_code_46 : decode method_3_code 46 = .ok (.dload 4, 2) := by decide +kernel
theorem own_d_method_3_code_48 : decode method_3_code 48 = .ok (.dconst 1, 1) := by decide +kernel
theorem own_d_method_3_code_49 : decode method_3_code 49 = .ok (.dload 4, 2) := by decide +kernel
theorem own_d_method_3_code_51 : decode method_3_code 51 = .ok (.dsub, 1) := by decide +kernel
theorem own_d_method_3_code_52 : decode method_3_code 52 = .ok (.ddiv, 1) := by decide +kernel
theorem own_d_method_3_code_53 : decode method_3_code 53 = .ok (.dstore 6, 2) := by decide +kernel
theorem own_d_method_3_code_55 : decode method_3_code 55 = .ok (.dload 6, 2) := by decide +kernel
theorem own_d_method_3_code_57 : decode method_3_code 57 = .ok (.dload_n 2, 1) := by decide +kernel
theorem own_d_method_3_code_58 : decode method_3_code 58 = .ok (.dcmp .g, 1) := by decide +kernel
theorem own_d_method_3_code_59 : decode method_3_code 59 = .ok (.ifCond .ge 18, 3) := by decide +kernel
theorem own_d_method_3_code_62 : decode method_3_code 62 = .ok (.dload 6, 2) := by decide +kernel
theorem own_d_method_3_code_64 : decode method_3_code 64 = .ok (.ldc2_w 31, 3) := by decide +kernel
theorem own_d_method_3_code_67 : decode method_3_code 67 = .ok (.dmul, 1) := by decide +kernel
theorem own_d_method_3_code_68 : decode method_3_code 68 = .ok (.dload_n 2, 1) := by decide +kernel
theorem own_d_method_3_code_69 : decode method_3_code 69 = .ok (.dcmp .g, 1) := by decide +kernel
theorem own_d_method_3_code_70 : decode method_3_code 70 = .ok (.ifCond .lt 7, 3) := by decide +kernel
theorem own_d_method_3_code_73 : decode method_3_code 73 = .ok (.iconst 1, 1) := by decide +kernel
theorem own_d_method_3_code_74 : decode method_3_code 74 = .ok (.goto 4, 3) := by decide +kernel
theorem own_d_method_3_code_78 : decode method_3_code 78 = .ok (.ireturn, 1) := by decide +kernel
theorem own_d_method_3_code_8 : decode method_3_code 8 = .ok (.dload_n 2, 1) := by decide +kernel
theorem own_d_method_3_code_9 : decode method_3_code 9 = .ok (.dconst 1, 1) := by decide +kernel
theorem own_d_method_3_code_10 : decode method_3_code 10 = .ok (.dcmp .l, 1) := by decide +kernel
theorem own_d_method_3_code_11 : decode method_3_code 11 = .ok (.ifCond .ne 7, 3) := by decide +kernel
theorem own_d_method_3_code_14 : decode method_3_code 14 = .ok (.iconst 1, 1) := by decide +kernel
theorem own_d_method_3_code_15 : decode method_3_code 15 = .ok (.goto 4, 3) := by decide +kernel
theorem own_d_method_3_code_19 : decode method_3_code 19 = .ok (.ireturn, 1) := by decide +kernel
section OwnD
open Jvm.FP.Core
def own_sh (k : Nat) : Datum → Datum
  | .fin s c q => .fin s c (q + k)
  | d => d
/-- the datum's value is i / 2^k -/
def own_D (k : Nat) (i : Int) (d : Datum) : Prop := Whole i (own_sh k d)
theorem own_D_fin {k : Nat} {i : Int} {d : Datum} (h : own_D k i d) : ∃ s c q, d = .fin s c q ∧ Whole i (.fin s c (q + k)) := by
  cases d with
  | nan => exact h.elim
  | inf => exact h.elim
  | fin s c q => exact ⟨s, c, q, rfl, h⟩
theorem own_D_sum {k : Nat} {i j : Int} {x y : Datum} (hx : own_D k i x) (hy : own_D k j y) : own_D k (i + j) (exactSum x y) := by
  obtain ⟨s, c, q, rfl, h1⟩ := own_D_fin hx
  obtain ⟨t, d, r, rfl, h2⟩ := own_D_fin hy
  have h := whole_sum h1 h2
  have e : exactSum (.fin s c (q + k)) (.fin t d (r + k)) = own_sh k (exactSum (.fin s c q) (.fin t d r)) := by
    have hm : min (q + (k : Int)) (r + k) = min q r + k := by omega
    have hu : sumUnits s c (q + k) t d (r + k) (min (q + (k : Int)) (r + k)) = sumUnits s c q t d r (min q r) := by
      unfold sumUnits inUnits
      rw [hm, show q + (k : Int) - (min q r + k) = q - min q r by omega, show r + (k : Int) - (min q r + k) = r - min q r by omega]
    show Datum.fin (sumSign s t _) _ _ = Datum.fin (sumSign s t _) _ _
    rw [hu, hm]
  rw [e] at h
  exact h
theorem own_D_neg {k : Nat} {i : Int} {x : Datum} (hx : own_D k i x) : own_D k (-i) (negate x) := by
  obtain ⟨s, c, q, rfl, h1⟩ := own_D_fin hx
  exact whole_negate h1
theorem own_D_mul {k l : Nat} {i j : Int} {x y : Datum} (hx : own_D k i x) (hy : own_D l j y) : own_D (k + l) (i * j) (exactProduct x y) := by
  obtain ⟨s, c, q, rfl, h1⟩ := own_D_fin hx
  obtain ⟨t, d, r, rfl, h2⟩ := own_D_fin hy
  have h := whole_product h1 h2
  have e : exactProduct (.fin s c (q + k)) (.fin t d (r + l)) = own_sh (k + l) (exactProduct (.fin s c q) (.fin t d r)) := by
    show Datum.fin _ _ _ = Datum.fin _ _ _
    congr 1
    push_cast
    omega
  rw [e] at h
  exact h
theorem own_fitK (s : Bool) {n k : Nat} (hn : n ≤ 2 ^ 53) (hk : k ≤ 900) : ∃ c q, Jvm.FP.Core.fits b64 (.fin s c q) ∧ n * 2 ^ (-(k : Int) - q).toNat = c * 1 * 2 ^ (q - -(k : Int)).toNat := by
  have e1 : b64.p = 53 := by decide +kernel
  have e2 : b64.qmin = -1074 := by decide +kernel
  have e3 : b64.qmax = 971 := by decide +kernel
  have e4 : b64.tails = 2 ^ 52 := by decide +kernel
  by_cases h0 : n = 0
  · subst h0
    exact ⟨0, b64.qmin, zero_fits good_b64 s, by simp⟩
  by_cases hp : n = 2 ^ 53
  · refine ⟨2 ^ 52, 1 - (k : Int), ⟨by rw [e1]; decide, by omega, by omega, .inr (by rw [e4]; exact Nat.le_refl _)⟩, ?_⟩
    rw [hp, show (-(k : Int) - (1 - (k : Int))).toNat = 0 by omega, show (1 - (k : Int) - -(k : Int)).toNat = 1 by omega]
  · have l1 : 2 ^ n.log2 ≤ n := Nat.log2_self_le h0
    have l2 : n < 2 ^ (n.log2 + 1) := Nat.lt_log2_self
    have l3 : n.log2 < 53 := (Nat.pow_lt_pow_iff_right (by decide : 1 < 2)).mp (Nat.lt_of_le_of_lt l1 (by omega))
    generalize n.log2 = L at l1 l2 l3
    refine ⟨n * 2 ^ (52 - L), (L : Int) - 52 - k, ⟨?_, by omega, by omega, .inr ?_⟩, ?_⟩
    · rw [e1]
      calc n * 2 ^ (52 - L) < 2 ^ (L + 1) * 2 ^ (52 - L) := Nat.mul_lt_mul_of_pos_right l2 (Nat.two_pow_pos _)
        _ = 2 ^ 53 := by rw [← Nat.pow_add]; congr 1; omega
    · rw [e4]
      calc 2 ^ 52 = 2 ^ L * 2 ^ (52 - L) := by rw [← Nat.pow_add]; congr 1; omega
        _ ≤ n * 2 ^ (52 - L) := Nat.mul_le_mul_right _ l1
    · rw [show (-(k : Int) - ((L : Int) - 52 - k)).toNat = 52 - L by omega, show ((L : Int) - 52 - k - -(k : Int)).toNat = 0 by omega]
      simp
theorem own_D_ratio {s : Bool} {A B k : Nat} {e i : Int} (hB : 0 < B) (hi : i.natAbs ≤ 2 ^ 53) (hk : k ≤ 900) (hs : i ≠ 0 → s = decide (i < 0)) (h : A * 1 * 2 ^ (e - -(k : Int)).toNat = i.natAbs * B * 2 ^ (-(k : Int) - e).toNat) : own_D k i (roundRatio b64 s A B e) := by
  obtain ⟨c', q', hfit, hv⟩ := own_fitK s hi hk
  rw [roundRatio_congr (e' := -(k : Int)) hB (by decide) h, roundRatio_exact good_b64 (by decide) hfit hv]
  show signed s (c' * 2 ^ (q' + (k : Int)).toNat) = i * ((2 ^ (-(q' + (k : Int))).toNat : Nat) : Int)
  rw [show (-(k : Int) - q').toNat = (-(q' + (k : Int))).toNat by omega, show (q' - -(k : Int)).toNat = (q' + (k : Int)).toNat by omega, Nat.mul_one] at hv
  rw [← hv, signed_mul]
  congr 1
  by_cases hi0 : i = 0
  · rw [hi0]; exact signed_zero s
  · rw [hs hi0]
    unfold signed
    by_cases h : i < 0 <;> simp [h] <;> omega
theorem own_D_round {k : Nat} {i : Int} {x : Datum} (hx : own_D k i x) (hi : i.natAbs ≤ 2 ^ 53) (hk : k ≤ 900) : own_D k i (round b64 x) := by
  obtain ⟨s, c, q, rfl, h⟩ := own_D_fin hx
  refine own_D_ratio (A := c) (B := 1) (e := q) (by decide) hi hk (fun z => whole_sign h z) ?_
  have := whole_natAbs h
  rw [show (q - -(k : Int)).toNat = (q + (k : Int)).toNat by omega, show (-(k : Int) - q).toNat = (-(q + (k : Int))).toNat by omega]
  simpa using this
/-- a double whose value is i / 2^k -/
def own_V (k : Nat) (i : Int) (a : UInt64) : Prop := own_D k i (val64 a)
theorem own_V_add {k : Nat} {i j : Int} {a b : UInt64} (ha : own_V k i a) (hb : own_V k j b) (hi : (i + j).natAbs ≤ 2 ^ 53) (hk : k ≤ 900) : own_V k (i + j) (FP.dadd a b) := by
  show own_D k _ (val64 (dadd a b)); rw [val64_dadd]; exact own_D_round (own_D_sum ha hb) hi hk
theorem own_V_sub {k : Nat} {i j : Int} {a b : UInt64} (ha : own_V k i a) (hb : own_V k j b) (hi : (i - j).natAbs ≤ 2 ^ 53) (hk : k ≤ 900) : own_V k (i - j) (FP.dsub a b) := by
  show own_D k _ (val64 (dsub a b)); rw [val64_dsub, Int.sub_eq_add_neg]; exact own_D_round (own_D_sum ha (own_D_neg hb)) (by rw [← Int.sub_eq_add_neg]; exact hi) hk
theorem own_V_mul {k l : Nat} {i j : Int} {a b : UInt64} (ha : own_V k i a) (hb : own_V l j b) (hi : (i * j).natAbs ≤ 2 ^ 53) (hk : k + l ≤ 900) : own_V (k + l) (i * j) (FP.dmul a b) := by
  show own_D _ _ (val64 (dmul a b)); rw [val64_dmul]; exact own_D_round (own_D_mul ha hb) hi hk
theorem own_V_lift {k l : Nat} {i : Int} {a : UInt64} (ha : own_V k i a) : own_V (k + l) (i * (2 ^ l : Nat)) a := by
  unfold own_V at ha ⊢
  obtain ⟨s, c, q, e, h⟩ := own_D_fin ha
  rw [e]
  show signed s (c * 2 ^ (q + ((k + l : Nat) : Int)).toNat) = i * ((2 ^ l : Nat) : Int) * ((2 ^ (-(q + ((k + l : Nat) : Int))).toNat : Nat) : Int)
  have h' : signed s (c * 2 ^ (q + (k : Int)).toNat) = i * ((2 ^ (-(q + (k : Int))).toNat : Nat) : Int) := h
  rcases Int.le_total 0 (q + k) with z | z
  · rw [show (-(q + (k : Int))).toNat = 0 by omega] at h'
    rw [show (q + ((k + l : Nat) : Int)).toNat = (q + (k : Int)).toNat + l by omega, show (-(q + ((k + l : Nat) : Int))).toNat = 0 by omega, Nat.pow_add, ← Nat.mul_assoc, signed_mul, h']
    simp
  · rw [show (q + (k : Int)).toNat = 0 by omega] at h'
    rcases Int.le_total 0 (q + ((k + l : Nat) : Int)) with y | y
    · rw [show (-(q + ((k + l : Nat) : Int))).toNat = 0 by omega, signed_mul]
      rw [Nat.pow_zero, Nat.mul_one] at h'
      rw [h', Int.mul_assoc, Int.mul_assoc, ← Int.natCast_mul, ← Int.natCast_mul, ← Nat.pow_add, Nat.pow_zero, Nat.mul_one]
      congr 3; omega
    · rw [show (q + ((k + l : Nat) : Int)).toNat = 0 by omega, h', Int.mul_assoc, ← Int.natCast_mul, ← Nat.pow_add]
      congr 3; omega
theorem own_V_nn {k : Nat} {i : Int} {a : UInt64} (h : own_V k i a) : val64 a ≠ .nan := by
  obtain ⟨s, c, q, e, -⟩ := own_D_fin h
  rw [e]; exact Datum.noConfusion
theorem own_V_zval {k : Nat} {i : Int} {a : UInt64} (h : own_V k i a) (hk : k ≤ 900) : zval b64 (val64 a) = i * ((2 ^ (1074 - k) : Nat) : Int) := by
  have e2 : b64.qmin = -1074 := by decide +kernel
  have hf := val64_fits a
  obtain ⟨s, c, q, e, h'⟩ := own_D_fin h
  rw [e] at hf ⊢
  obtain ⟨-, hq, -, -⟩ := hf
  rw [e2] at hq
  have h1 : signed s (c * 2 ^ (q + (k : Int)).toNat) = i * ((2 ^ (-(q + (k : Int))).toNat : Nat) : Int) := h'
  show signed s (c * 2 ^ (q - b64.qmin).toNat) = _
  rw [e2]
  rcases Int.le_total 0 (q + k) with z | z
  · rw [show (-(q + (k : Int))).toNat = 0 by omega] at h1
    rw [show (q - -1074).toNat = (q + (k : Int)).toNat + (1074 - k) by omega, Nat.pow_add, ← Nat.mul_assoc, signed_mul, h1]
    simp
  · rw [show (q + (k : Int)).toNat = 0 by omega, Nat.pow_zero, Nat.mul_one] at h1
    rw [signed_mul, h1, Int.mul_assoc, ← Int.natCast_mul, ← Nat.pow_add]
    congr 3; omega
theorem own_V_cmp {k : Nat} {i : Int} {a b : UInt64} (ha : own_V k i a) (hb : own_V k i b) (hk : k ≤ 900) : FP.dcmp a b = some .eq := by
  show dcmp a b = _
  rw [dcmp_zval (own_V_nn ha) (own_V_nn hb), own_V_zval ha hk, own_V_zval hb hk]
  simp
/-- division by 2^k -/
theorem own_V_div {k : Nat} {i : Int} {a b : UInt64} (ha : own_V 0 i a) (hb : val64 b = .fin false (2 ^ 52) ((k : Int) - 52)) (hi : i.natAbs ≤ 2 ^ 53) (hk : k ≤ 900) : own_V k i (FP.ddiv a b) := by
  show own_D k _ (val64 (ddiv a b))
  rw [val64_ddiv, hb]
  obtain ⟨s, c, q, e, h⟩ := own_D_fin ha
  rw [e]
  have h1 := whole_natAbs h
  have hz : quotient b64 (.fin s c q) (.fin false (2 ^ 52) ((k : Int) - 52)) = roundRatio b64 (s != false) c (2 ^ 52) (q - ((k : Int) - 52)) := by
    show (if (2 : Nat) ^ 52 = 0 then (if c = 0 then Datum.nan else Datum.inf (s != false)) else roundRatio b64 (s != false) c (2 ^ 52) (q - ((k : Int) - 52))) = _
    rw [if_neg (by decide)]
  rw [hz]
  refine own_D_ratio (Nat.two_pow_pos _) hi hk (fun z => by rw [Bool.bne_false]; exact whole_sign h z) ?_
  rw [show (q - ((k : Int) - 52) - -(k : Int)).toNat = (q + 52).toNat by omega, show (-(k : Int) - (q - ((k : Int) - 52))).toNat = (-(q + 52)).toNat by omega, Nat.mul_one]
  have h2 : c * 2 ^ q.toNat = i.natAbs * 2 ^ (-q).toNat := by simpa using h1
  rcases Int.le_total 0 q with z | z
  · rw [show (-q).toNat = 0 by omega, Nat.pow_zero, Nat.mul_one] at h2
    rw [show (q + 52).toNat = q.toNat + 52 by omega, show (-(q + 52)).toNat = 0 by omega, Nat.pow_add, ← Nat.mul_assoc, h2]
    simp
  · rw [show q.toNat = 0 by omega, Nat.pow_zero, Nat.mul_one] at h2
    rw [h2, Nat.mul_assoc, Nat.mul_assoc, ← Nat.pow_add, ← Nat.pow_add]
    congr 2; omega
theorem own_V_i2d (x : Int32) : own_V 0 x.toInt (FP.i2d x) := by
  have h : Whole x.toInt (val64 (i2d x)) := i2d_int x
  show Whole _ (own_sh 0 (val64 (i2d x)))
  cases hd : val64 (i2d x) with
  | nan => rw [hd] at h; exact h
  | inf s => rw [hd] at h; exact h
  | fin s c q => rw [hd] at h; show Whole _ (.fin s c (q + ((0 : Nat) : Int))); rw [show q + ((0 : Nat) : Int) = q by omega]; exact h
theorem own_V_not {k : Nat} {i : Int} {a : UInt64} (h : own_V k i a) : Jvm.Free.Fl.NoNaN64 a := Jvm.Free.Fl.noNaN64_no.mpr ((notNaN_iff a).mpr (own_V_nn h))
/-- N / B, in units of 2^-1074, rounded -/
def own_P (N B : Nat) : Datum := roundRatio b64 false N B b64.qmin
theorem own_qmin : b64.qmin = -1074 := by decide +kernel
theorem own_P_fits (N : Nat) {B : Nat} (hB : 0 < B) : Jvm.FP.Core.fits b64 (own_P N B) := roundRatio_fits good_b64 false N hB _
theorem own_P_le {N B : Nat} {V : Datum} (hB : 0 < B) (hV : Jvm.FP.Core.fits b64 V) (hn : V ≠ .nan) (h : N ≤ zmag b64 V * B) : zmag b64 (own_P N B) ≤ zmag b64 V := by
  refine zmag_roundRatio_le good_b64 (e0 := b64.qmin) hB hV hn (Int.le_refl _) (Int.le_refl _) ?_
  show N * 2 ^ (b64.qmin - b64.qmin).toNat ≤ zmag b64 V * 2 ^ (b64.qmin - b64.qmin).toNat * B
  rw [Int.sub_self]; simpa using h
theorem own_P_ge {N B : Nat} {V : Datum} (hB : 0 < B) (hV : Jvm.FP.Core.fits b64 V) (h : zmag b64 V * B ≤ N) : zmag b64 V ≤ zmag b64 (own_P N B) := by
  refine zmag_roundRatio_ge good_b64 (e0 := b64.qmin) hB hV (Int.le_refl _) (Int.le_refl _) ?_
  show zmag b64 V * 2 ^ (b64.qmin - b64.qmin).toNat * B ≤ N * 2 ^ (b64.qmin - b64.qmin).toNat
  rw [Int.sub_self]; simpa using h
theorem own_big : Jvm.FP.Core.fits b64 (.fin false (2 ^ 52) 874) ∧ zmag b64 (.fin false (2 ^ 52) 874) = 2 ^ 2000 := ⟨⟨by decide +kernel, by decide +kernel, by decide +kernel, Or.inr (by decide +kernel)⟩, by decide +kernel⟩
theorem own_P_fin {N B : Nat} (hB : 0 < B) (h : N ≤ 2 ^ 2000 * B) : ∃ c q, own_P N B = .fin false c q := by
  rcases roundRatio_cases b64 false N B b64.qmin with ⟨c, q, e⟩ | e
  · exact ⟨c, q, e⟩
  · exfalso
    have g := own_P_le hB own_big.1 Datum.noConfusion (by rw [own_big.2]; exact h)
    rw [own_big.2, show own_P N B = _ from e] at g
    exact absurd g (by decide +kernel)
theorem own_P_near {N B c c' : Nat} {q q' : Int} (hB : 0 < B) (e : own_P N B = .fin false c q) (hV : Jvm.FP.Core.fits b64 (.fin false c' q')) : distance N B b64.qmin c q b64.qmin ≤ distance N B b64.qmin c' q' b64.qmin :=
  roundRatio_nearest good_b64 hB e hV.1 hV.2.1 (Int.le_refl _) (Int.le_refl _)
theorem own_P_mono {N B N' B' : Nat} (hB : 0 < B) (hB' : 0 < B') (hf : N ≤ 2 ^ 2000 * B) (hf' : N' ≤ 2 ^ 2000 * B') (h : N * B' ≤ N' * B) : zmag b64 (own_P N B) ≤ zmag b64 (own_P N' B') := by
  obtain ⟨c, q, e⟩ := own_P_fin hB hf
  obtain ⟨c', q', e'⟩ := own_P_fin hB' hf'
  have f1 := own_P_fits N hB
  have f2 := own_P_fits N' hB'
  refine Nat.le_of_not_lt fun hlt => ?_
  have a1 : zmag b64 (own_P N' B') * B < N := Nat.lt_of_not_le fun z => absurd (own_P_le hB f2 (by rw [e']; exact Datum.noConfusion) z) (Nat.not_le.mpr hlt)
  have a2 : N' < zmag b64 (own_P N B) * B' := Nat.lt_of_not_le fun z => absurd (own_P_ge hB' f1 z) (Nat.not_le.mpr hlt)
  have d1 := own_P_near hB e (e' ▸ f2)
  have d2 := own_P_near hB' e' (e ▸ f1)
  have hu : ∀ N : Nat, inUnits N b64.qmin b64.qmin = N := fun N => by show N * 2 ^ (b64.qmin - b64.qmin).toNat = N; rw [Int.sub_self]; simp
  have hd : ∀ N B c q, distance N B b64.qmin c q b64.qmin = ((N : Int) - (inUnits c q b64.qmin : Int) * (B : Int)).natAbs := by
    intro N B c q
    show ((inUnits N b64.qmin b64.qmin : Int) - _).natAbs = _
    rw [hu]
  rw [hd, hd] at d1 d2
  have z1 : zmag b64 (own_P N B) = inUnits c q b64.qmin := by rw [e]; rfl
  have z2 : zmag b64 (own_P N' B') = inUnits c' q' b64.qmin := by rw [e']; rfl
  rw [← z1, ← z2, ← Int.natCast_mul, ← Int.natCast_mul] at d1 d2
  have heq : N * B' = N' * B := by
    generalize zmag b64 (own_P N B) = v at a1 a2 d1 d2 hlt
    generalize zmag b64 (own_P N' B') = v' at a1 a2 d1 d2 hlt
    have b1 : N < v * B := by
      refine Nat.lt_of_mul_lt_mul_right (a := B') ?_
      calc N * B' ≤ N' * B := h
        _ < v * B' * B := Nat.mul_lt_mul_of_pos_right a2 hB
        _ = v * B * B' := by ac_rfl
    have b2 : v' * B' < N' := by
      refine Nat.lt_of_mul_lt_mul_right (a := B) ?_
      calc v' * B' * B = v' * B * B' := by ac_rfl
        _ < N * B' := Nat.mul_lt_mul_of_pos_right a1 hB'
        _ ≤ N' * B := h
    have c1 : v * B + v' * B ≤ 2 * N := by omega
    have c2 : 2 * N' ≤ v * B' + v' * B' := by omega
    have c3 : (v * B + v' * B) * B' ≤ 2 * N * B' := Nat.mul_le_mul_right _ c1
    have c4 : 2 * N' * B ≤ (v * B' + v' * B') * B := Nat.mul_le_mul_right _ c2
    have c5 : (v * B + v' * B) * B' = (v * B' + v' * B') * B := by rw [Nat.add_mul, Nat.add_mul]; ac_rfl
    rw [Nat.mul_assoc] at c3 c4
    omega
  have hc : own_P N B = own_P N' B' := roundRatio_congr hB hB' (by rw [Int.sub_self]; simpa using heq)
  rw [hc] at hlt
  exact absurd hlt (Nat.lt_irrefl _)
/-- a nonnegative finite double of u units -/
def own_U (u : Nat) (a : UInt64) : Prop := ∃ c q, val64 a = .fin false c q ∧ -1074 ≤ q ∧ c * 2 ^ (q + 1074).toNat = u
theorem own_U_P {N B : Nat} {a : UInt64} (hB : 0 < B) (h : N ≤ 2 ^ 2000 * B) (e : val64 a = own_P N B) : own_U (zmag b64 (own_P N B)) a := by
  obtain ⟨c, q, e'⟩ := own_P_fin hB h
  have f := own_P_fits N hB
  rw [e'] at f
  have hq : -1074 ≤ q := by have := f.2.1; rw [own_qmin] at this; exact this
  refine ⟨c, q, e.trans e', hq, ?_⟩
  rw [e']
  show _ = c * 2 ^ (q - b64.qmin).toNat
  rw [own_qmin, show q - -1074 = q + 1074 by omega]
theorem own_U_fits {u : Nat} {a : UInt64} (h : own_U u a) : zmag b64 (val64 a) = u ∧ val64 a ≠ .nan ∧ zval b64 (val64 a) = u := by
  obtain ⟨c, q, e, hq, hu⟩ := h
  have : zmag b64 (.fin false c q) = u := by
    show c * 2 ^ (q - b64.qmin).toNat = u
    rw [own_qmin, show q - -1074 = q + 1074 by omega]; exact hu
  rw [e]
  exact ⟨this, Datum.noConfusion, by show signed false (zmag b64 (.fin false c q)) = _; rw [this]; rfl⟩
theorem own_pw (a b c : Nat) (h : b + c = a) : 2 ^ a = 2 ^ b * 2 ^ c := by rw [← Nat.pow_add, h]
theorem own_U_mul {u w : Nat} {a b : UInt64} (ha : own_U u a) (hb : own_U w b) : val64 (FP.dmul a b) = own_P (u * w) (2 ^ 1074) := by
  obtain ⟨c, q, e, hq, hu⟩ := ha
  obtain ⟨d, r, e', hr, hw⟩ := hb
  show val64 (dmul a b) = _
  rw [val64_dmul, e, e']
  show roundRatio b64 (false != false) (c * d) 1 (q + r) = roundRatio b64 false (u * w) (2 ^ 1074) b64.qmin
  refine roundRatio_congr (by decide) (Nat.two_pow_pos _) ?_
  rw [own_qmin, ← hu, ← hw, Nat.mul_one]
  rcases Int.le_total 0 (q + r + 1074) with z | z
  · have k1 : 2 ^ 1074 * 2 ^ (q + r - -1074).toNat = 2 ^ (q + 1074).toNat * 2 ^ (r + 1074).toNat := by rw [← Nat.pow_add, ← Nat.pow_add]; congr 1; omega
    rw [show (-1074 - (q + r)).toNat = 0 by omega, Nat.pow_zero, Nat.mul_one, Nat.mul_assoc (c * d), k1]
    generalize 2 ^ (q + 1074).toNat = X
    generalize 2 ^ (r + 1074).toNat = Y
    ac_rfl
  · have k1 : 2 ^ 1074 = 2 ^ (q + 1074).toNat * 2 ^ (r + 1074).toNat * 2 ^ (-1074 - (q + r)).toNat := by rw [← Nat.pow_add, ← Nat.pow_add]; congr 1; omega
    rw [show (q + r - -1074).toNat = 0 by omega, Nat.pow_zero, Nat.mul_one, k1]
    generalize 2 ^ (q + 1074).toNat = X
    generalize 2 ^ (r + 1074).toNat = Y
    generalize 2 ^ (-1074 - (q + r)).toNat = W
    ac_rfl
theorem own_U_div {u w : Nat} {a b : UInt64} (ha : own_U u a) (hb : own_U w b) (h0 : 0 < w) : val64 (FP.ddiv a b) = own_P (u * 2 ^ 1074) w := by
  obtain ⟨c, q, e, hq, hu⟩ := ha
  obtain ⟨d, r, e', hr, hw⟩ := hb
  have hd : 0 < d := by
    rcases Nat.eq_zero_or_pos d with z | z
    · rw [z, Nat.zero_mul] at hw; omega
    · exact z
  show val64 (ddiv a b) = _
  rw [val64_ddiv, e, e']
  show (if d = 0 then (if c = 0 then Datum.nan else Datum.inf (false != false)) else roundRatio b64 (false != false) c d (q - r)) = roundRatio b64 false (u * 2 ^ 1074) w b64.qmin
  rw [if_neg (by omega)]
  refine roundRatio_congr hd h0 ?_
  rw [own_qmin, ← hu, ← hw]
  rcases Int.le_total 0 (q - r + 1074) with z | z
  · have k1 : 2 ^ (r + 1074).toNat * 2 ^ (q - r - -1074).toNat = 2 ^ (q + 1074).toNat * 2 ^ 1074 := by rw [← Nat.pow_add, ← Nat.pow_add]; congr 1; omega
    rw [show (-1074 - (q - r)).toNat = 0 by omega, Nat.pow_zero, Nat.mul_one, ← Nat.mul_assoc, Nat.mul_assoc (c * d), k1]
    generalize 2 ^ (q + 1074).toNat = X
    generalize 2 ^ 1074 = Y
    ac_rfl
  · have k1 : 2 ^ (r + 1074).toNat = 2 ^ (q + 1074).toNat * 2 ^ 1074 * 2 ^ (-1074 - (q - r)).toNat := by rw [← Nat.pow_add, ← Nat.pow_add]; congr 1; omega
    rw [show (q - r - -1074).toNat = 0 by omega, Nat.pow_zero, Nat.mul_one, k1]
    generalize 2 ^ (q + 1074).toNat = X
    generalize 2 ^ 1074 = Y
    generalize 2 ^ (-1074 - (q - r)).toNat = W
    ac_rfl
theorem own_U_V {k : Nat} {i : Int} {a : UInt64} (h : own_V k i a) (hi : 0 < i) (hk : k ≤ 900) : own_U (i.toNat * 2 ^ (1074 - k)) a := by
  have hz := own_V_zval h hk
  obtain ⟨s, c, q, e, h'⟩ := own_D_fin h
  have hs := whole_sign h' (by omega)
  have hs' : s = false := hs.trans (decide_eq_false (by omega))
  have hf := val64_fits a
  rw [e] at hf
  have hq : -1074 ≤ q := by have := hf.2.1; rw [own_qmin] at this; exact this
  rw [hs'] at e
  refine ⟨c, q, e, hq, ?_⟩
  rw [e] at hz
  have : ((c * 2 ^ (q - b64.qmin).toNat : Nat) : Int) = i * ((2 ^ (1074 - k) : Nat) : Int) := hz
  rw [own_qmin, show q - -1074 = q + 1074 by omega] at this
  have e3 : (i.toNat : Int) = i := by omega
  rw [← e3, ← Int.natCast_mul] at this
  exact Int.ofNat.inj this
theorem own_U_cmp {u w : Nat} {a b : UInt64} (ha : own_U u a) (hb : own_U w b) : (u < w → FP.dcmp a b = some .lt) ∧ (¬ u < w → FP.dcmp a b ≠ some .lt ∧ FP.dcmp a b ≠ none) := by
  have f1 := own_U_fits ha
  have f2 := own_U_fits hb
  have e : FP.dcmp a b = some (compare ((u : Nat) : Int) ((w : Nat) : Int)) := by
    show dcmp a b = _
    rw [dcmp_zval f1.2.1 f2.2.1, f1.2.2, f2.2.2]
  rw [e]
  refine ⟨fun h => ?_, fun h => ⟨fun z => ?_, fun z => by cases z⟩⟩
  · congr 1; exact (compare_lt_iff _ _).mpr (by omega)
  · have := (compare_lt_iff _ _).mp (Option.some.inj z); omega
theorem own_1074 : (2 : Nat) ^ 1074 = 2 ^ 1021 * 9007199254740992 := by rw [show (9007199254740992 : Nat) = 2 ^ 53 by decide, ← Nat.pow_add]
theorem own_V_l2d (x : Int64) (h : x.toInt.natAbs ≤ 2 ^ 53) : own_V 0 x.toInt (FP.l2d x) := by
  have h1 : Whole x.toInt (val64 (l2d x)) := by rw [val64_l2d]; exact whole_round good_b64 wide_b64 h (whole_ofInt _)
  show Whole _ (own_sh 0 (val64 (l2d x)))
  cases hd : val64 (l2d x) with
  | nan => rw [hd] at h1; exact h1
  | inf s => rw [hd] at h1; exact h1
  | fin s c q => rw [hd] at h1; show Whole _ (.fin s c (q + ((0 : Nat) : Int))); rw [show q + ((0 : Nat) : Int) = q by omega]; exact h1
def own_c : UInt64 := 4368491638549381120
def own_C1 : UInt64 := 4607182418800017410
def own_C2 : UInt64 := 4607182418800017412
def own_hf : UInt64 := 4602678819172646912
theorem own_Vc : own_V 53 1 own_c := by
  have e : val64 own_c = .fin false (2 ^ 52) (-105) := by decide +kernel
  show own_D 53 1 (val64 own_c)
  rw [e]
  show signed false (2 ^ 52 * 2 ^ (-105 + ((53 : Nat) : Int)).toNat) = 1 * ((2 ^ (-(-105 + ((53 : Nat) : Int))).toNat : Nat) : Int)
  decide +kernel
theorem own_V1 : own_V 53 9007199254740992 FP.dconst1 := by
  have e : val64 FP.dconst1 = .fin false (2 ^ 52) (-52) := by decide +kernel
  show own_D 53 9007199254740992 (val64 FP.dconst1)
  rw [e]
  show signed false (2 ^ 52 * 2 ^ (-52 + ((53 : Nat) : Int)).toNat) = 9007199254740992 * ((2 ^ (-(-52 + ((53 : Nat) : Int))).toNat : Nat) : Int)
  decide +kernel
theorem own_UC1 : own_U (4503599627370498 * 2 ^ 1022) own_C1 := ⟨4503599627370498, -52, by decide +kernel, by decide, by rw [show (-52 + 1074 : Int).toNat = 1022 by decide]⟩
theorem own_UC2 : own_U (4503599627370500 * 2 ^ 1022) own_C2 := ⟨4503599627370500, -52, by decide +kernel, by decide, by rw [show (-52 + 1074 : Int).toNat = 1022 by decide]⟩
theorem own_Uc : own_U (2 ^ 1021) own_c := ⟨2 ^ 52, -105, by decide +kernel, by decide, by rw [show (-105 + 1074 : Int).toNat = 969 by decide, ← Nat.pow_add]⟩
theorem own_Uhf : own_U (2 ^ 1073) own_hf := ⟨2 ^ 52, -53, by decide +kernel, by decide, by rw [show (-53 + 1074 : Int).toNat = 1021 by decide, ← Nat.pow_add]⟩
theorem own_U1 : own_U (2 ^ 1074) FP.dconst1 := ⟨2 ^ 52, -52, by decide +kernel, by decide, by rw [show (-52 + 1074 : Int).toNat = 1022 by decide, ← Nat.pow_add]⟩
theorem own_U0 : own_U 0 FP.dconst0 := ⟨0, -1074, by decide +kernel, by decide, by simp⟩
def own_T (k : Int64) : UInt64 := FP.dmul (FP.l2d k) own_c
def own_g (k : Int64) : UInt64 := FP.ddiv (own_T k) (FP.dsub FP.dconst1 (own_T k))
def own_r (k : Int64) : UInt64 := FP.dmul (own_g k) own_C1
section OwnK
variable {k : Int64} (h1 : 1 ≤ k.toInt) (h2 : k.toInt < 4503599627370496)
theorem own_T_V (h1 : 0 ≤ k.toInt) (h2 : k.toInt < 4503599627370496) : own_V 53 k.toInt (own_T k) := by
  have q := own_V_mul (own_V_l2d k (by omega)) own_Vc (by omega) (by decide)
  rw [Int.mul_one] at q
  exact q
theorem own_D_V (h1 : 0 ≤ k.toInt) (h2 : k.toInt < 4503599627370496) : own_V 53 (9007199254740992 - k.toInt) (FP.dsub FP.dconst1 (own_T k)) := own_V_sub own_V1 (own_T_V h1 h2) (by omega) (by decide)
theorem own_T_U (h1 : 1 ≤ k.toInt) (h2 : k.toInt < 4503599627370496) : own_U (k.toInt.toNat * 2 ^ 1021) (own_T k) := by
  have q := own_U_V (own_T_V (k := k) (by omega) h2) (by omega) (by decide)
  rw [show 1074 - 53 = 1021 from rfl] at q
  exact q
theorem own_D_U (h1 : 1 ≤ k.toInt) (h2 : k.toInt < 4503599627370496) : own_U ((9007199254740992 - k.toInt.toNat) * 2 ^ 1021) (FP.dsub FP.dconst1 (own_T k)) := by
  have q := own_U_V (own_D_V (k := k) (by omega) h2) (by omega) (by decide)
  rw [show (9007199254740992 - k.toInt).toNat = 9007199254740992 - k.toInt.toNat by omega, show 1074 - 53 = 1021 from rfl] at q
  exact q
end OwnK
/-- the quotient's units, n of 2^53 against 2^53 - n -/
def own_ug (n : Nat) : Nat := zmag b64 (own_P (n * 2 ^ 1021 * 2 ^ 1074) ((9007199254740992 - n) * 2 ^ 1021))
theorem own_gB {n : Nat} (h2 : n < 4503599627370496) : 0 < (9007199254740992 - n) * 2 ^ 1021 := Nat.mul_pos (by omega) (Nat.two_pow_pos _)
theorem own_gfin {n : Nat} (h2 : n < 4503599627370496) : n * 2 ^ 1021 * 2 ^ 1074 ≤ 2 ^ 2000 * ((9007199254740992 - n) * 2 ^ 1021) := by
  have e : (2 : Nat) ^ 2000 = 2 ^ 1074 * 2 ^ 926 := by rw [← Nat.pow_add]
  rw [e]
  have p : 1 ≤ 2 ^ 926 := Nat.two_pow_pos _
  generalize 2 ^ 926 = W at *
  generalize 2 ^ 1074 = Y
  generalize 2 ^ 1021 = X
  calc n * X * Y ≤ (9007199254740992 - n) * X * Y := Nat.mul_le_mul_right _ (Nat.mul_le_mul_right _ (by omega))
    _ = (Y * 1) * ((9007199254740992 - n) * X) := by rw [Nat.mul_one]; ac_rfl
    _ ≤ Y * W * ((9007199254740992 - n) * X) := Nat.mul_le_mul_right _ (Nat.mul_le_mul_left _ p)
theorem own_gU {k : Int64} (h1 : 1 ≤ k.toInt) (h2 : k.toInt < 4503599627370496) : own_U (own_ug k.toInt.toNat) (own_g k) :=
  own_U_P (own_gB (by omega)) (own_gfin (by omega)) (own_U_div (own_T_U h1 h2) (own_D_U h1 h2) (own_gB (by omega)))
theorem own_glo {n : Nat} (h1 : 1 ≤ n) (h2 : n < 4503599627370496) : 2 ^ 1021 ≤ own_ug n := by
  have hf : Jvm.FP.Core.fits b64 (.fin false (2 ^ 52) (-105)) := ⟨by decide +kernel, by decide +kernel, by decide +kernel, Or.inr (by decide +kernel)⟩
  have hz : zmag b64 (.fin false (2 ^ 52) (-105)) = 2 ^ 1021 := by decide +kernel
  have := own_P_ge (N := n * 2 ^ 1021 * 2 ^ 1074) (own_gB h2) hf (by
    rw [hz, own_1074]
    generalize 2 ^ 1021 = X
    calc X * ((9007199254740992 - n) * X) = (9007199254740992 - n) * (X * X) := by ac_rfl
      _ ≤ (n * 9007199254740992) * (X * X) := Nat.mul_le_mul_right _ (by omega)
      _ = n * X * (X * 9007199254740992) := by ac_rfl)
  rw [hz] at this
  exact this
theorem own_ghi {n : Nat} (h2 : n < 4503599627370496) : own_ug n ≤ 9007199254740989 * 2 ^ 1021 := by
  have hf : Jvm.FP.Core.fits b64 (.fin false 9007199254740989 (-53)) := ⟨by decide +kernel, by decide +kernel, by decide +kernel, Or.inr (by decide +kernel)⟩
  have hz : zmag b64 (.fin false 9007199254740989 (-53)) = 9007199254740989 * 2 ^ 1021 := by decide +kernel
  have := own_P_le (N := n * 2 ^ 1021 * 2 ^ 1074) (own_gB h2) hf Datum.noConfusion (by
    rw [hz, own_1074]
    generalize 2 ^ 1021 = X
    calc n * X * (X * 9007199254740992) = (n * 9007199254740992) * (X * X) := by ac_rfl
      _ ≤ (9007199254740989 * (9007199254740992 - n)) * (X * X) := Nat.mul_le_mul_right _ (by omega)
      _ = 9007199254740989 * X * ((9007199254740992 - n) * X) := by ac_rfl)
  rw [hz] at this
  exact this
theorem own_gmono {n m : Nat} (h : n ≤ m) (h2 : m < 4503599627370496) : own_ug n ≤ own_ug m := by
  refine own_P_mono (own_gB (by omega)) (own_gB h2) (own_gfin (by omega)) (own_gfin h2) ?_
  generalize 2 ^ 1021 = X
  generalize 2 ^ 1074 = Y
  calc n * X * Y * ((9007199254740992 - m) * X) = n * (9007199254740992 - m) * (X * X * Y) := by ac_rfl
    _ ≤ m * (9007199254740992 - n) * (X * X * Y) := Nat.mul_le_mul_right _ (Nat.mul_le_mul h (by omega))
    _ = _ := by ac_rfl
theorem own_mfin {u K : Nat} (hu : u ≤ 2 ^ 1074) (hK : K ≤ 2 ^ 53) : u * (K * 2 ^ 1022) ≤ 2 ^ 2000 * 2 ^ 1074 := by
  calc u * (K * 2 ^ 1022) ≤ 2 ^ 1074 * (2 ^ 53 * 2 ^ 1022) := Nat.mul_le_mul hu (Nat.mul_le_mul_right _ hK)
    _ = 2 ^ 1075 * 2 ^ 1074 := by rw [← Nat.pow_add, ← Nat.pow_add, ← Nat.pow_add]
    _ ≤ 2 ^ 2000 * 2 ^ 1074 := Nat.mul_le_mul_right _ (Nat.pow_le_pow_right (by decide) (by decide))
theorem own_gle {n : Nat} (h2 : n < 4503599627370496) : own_ug n ≤ 2 ^ 1074 := by
  refine Nat.le_trans (own_ghi h2) ?_
  rw [own_1074, Nat.mul_comm]; exact Nat.mul_le_mul_left _ (by decide)
def own_ur (n : Nat) : Nat := zmag b64 (own_P (own_ug n * (4503599627370498 * 2 ^ 1022)) (2 ^ 1074))
theorem own_rU {k : Int64} (h1 : 1 ≤ k.toInt) (h2 : k.toInt < 4503599627370496) : own_U (own_ur k.toInt.toNat) (own_r k) :=
  own_U_P (Nat.two_pow_pos _) (own_mfin (own_gle (by omega)) (by decide)) (own_U_mul (own_gU h1 h2) own_UC1)
theorem own_rmono {n m : Nat} (h : n ≤ m) (h2 : m < 4503599627370496) : own_ur n ≤ own_ur m := by
  refine own_P_mono (Nat.two_pow_pos _) (Nat.two_pow_pos _) (own_mfin (own_gle (by omega)) (by decide)) (own_mfin (own_gle h2) (by decide)) ?_
  exact Nat.mul_le_mul_right _ (Nat.mul_le_mul_right _ (own_gmono h h2))
theorem own_rtop : zmag b64 (own_P (9007199254740989 * 2 ^ 1021 * (4503599627370498 * 2 ^ 1022)) (2 ^ 1074)) = 2 ^ 1074 := by
  have hV : own_U (9007199254740989 * 2 ^ 1021) 4607182418800017405 := ⟨9007199254740989, -53, by decide +kernel, by decide, by rw [show (-53 + 1074 : Int).toNat = 1021 by decide]⟩
  have e : FP.dmul 4607182418800017405 own_C1 = FP.dconst1 := by decide +kernel
  rw [← own_U_mul hV own_UC1, e]
  exact (own_U_fits own_U1).1
theorem own_rle {n : Nat} (h2 : n < 4503599627370496) : own_ur n ≤ 2 ^ 1074 := by
  rw [← own_rtop]
  refine own_P_mono (Nat.two_pow_pos _) (Nat.two_pow_pos _) (own_mfin (own_gle h2) (by decide)) (own_mfin (by rw [own_1074, Nat.mul_comm]; exact Nat.mul_le_mul_left _ (by decide)) (by decide)) ?_
  exact Nat.mul_le_mul_right _ (Nat.mul_le_mul_right _ (own_ghi h2))
/-- strictly above -/
theorem own_rgt {k : Int64} (h1 : 1 ≤ k.toInt) (h2 : k.toInt < 4503599627370496) : own_ug k.toInt.toNat < own_ur k.toInt.toNat := by
  obtain ⟨c, q, e, hq, hu⟩ := own_gU h1 h2
  have hlo := own_glo (n := k.toInt.toNat) (by omega) (by omega)
  have hhi := own_gle (n := k.toInt.toNat) (by omega)
  have hf := val64_fits (own_g k)
  rw [e] at hf
  obtain ⟨f1, f2, f3, f4⟩ := hf
  have e1 : b64.p = 53 := by decide +kernel
  have e4 : b64.tails = 4503599627370496 := by decide +kernel
  have e3 : b64.qmax = 971 := by decide +kernel
  rw [e1] at f1
  rw [e4, own_qmin] at f4
  have hc : 4503599627370496 ≤ c := by
    rcases f4 with z | z
    · exfalso
      rw [z] at hu
      have : c * 2 ^ (-1074 + 1074 : Int).toNat = c := by rw [show (-1074 + 1074 : Int).toNat = 0 by decide]; simp
      rw [this] at hu
      have : 2 ^ 53 ≤ 2 ^ 1021 := Nat.pow_le_pow_right (by decide) (by decide)
      omega
    · exact z
  have hq2 : q ≤ 0 := by
    refine Int.le_of_not_gt fun z => ?_
    have a : 4503599627370496 * 2 ^ (q + 1074).toNat ≤ 2 ^ 1074 := Nat.le_trans (Nat.mul_le_mul_right _ hc) (by rw [hu]; exact hhi)
    have b : 2 ^ 1075 ≤ 2 ^ (q + 1074).toNat := Nat.pow_le_pow_right (by decide) (by omega)
    have d : (2 : Nat) ^ 1075 = 2 * 2 ^ 1074 := by rw [Nat.pow_succ, Nat.mul_comm]
    have p : 0 < (2 : Nat) ^ 1074 := Nat.two_pow_pos _
    generalize 2 ^ (q + 1074).toNat = E at a b
    generalize (2 : Nat) ^ 1075 = W at b d
    generalize (2 : Nat) ^ 1074 = Y at a d p
    omega
  have key : ∃ V, Jvm.FP.Core.fits b64 V ∧ zmag b64 V = (c + 1) * 2 ^ (q + 1074).toNat := by
    by_cases hl : c + 1 < 2 ^ 53
    · refine ⟨.fin false (c + 1) q, ⟨by rw [e1]; exact hl, by rw [own_qmin]; exact hq, f3, Or.inr (by rw [e4]; omega)⟩, ?_⟩
      show (c + 1) * 2 ^ (q - b64.qmin).toNat = _
      rw [own_qmin, show q - -1074 = q + 1074 by omega]
    · refine ⟨.fin false 4503599627370496 (q + 1), ⟨by rw [e1]; decide, by rw [own_qmin]; omega, by rw [e3]; omega, Or.inr (by rw [e4]; exact Nat.le_refl _)⟩, ?_⟩
      show 4503599627370496 * 2 ^ (q + 1 - b64.qmin).toNat = _
      rw [own_qmin, show (q + 1 - -1074).toNat = (q + 1074).toNat + 1 by omega, Nat.pow_succ, show c + 1 = 9007199254740992 by omega]
      generalize 2 ^ (q + 1074).toNat = E
      omega
  obtain ⟨V, v1, v2⟩ := key
  have hE : 0 < 2 ^ (q + 1074).toNat := Nat.two_pow_pos _
  have g := own_P_ge (N := own_ug k.toInt.toNat * (4503599627370498 * 2 ^ 1022)) (B := 2 ^ 1074) (Nat.two_pow_pos _) v1 (by
    rw [v2, ← hu, show (2 : Nat) ^ 1074 = 4503599627370496 * 2 ^ 1022 by rw [show (4503599627370496 : Nat) = 2 ^ 52 by decide, ← Nat.pow_add]]
    generalize 2 ^ (q + 1074).toNat = E
    generalize 2 ^ 1022 = W
    calc (c + 1) * E * (4503599627370496 * W) = ((c + 1) * 4503599627370496) * (E * W) := by ac_rfl
      _ ≤ (c * 4503599627370498) * (E * W) := Nat.mul_le_mul_right _ (by omega)
      _ = _ := by ac_rfl)
  rw [v2] at g
  refine Nat.lt_of_lt_of_le ?_ g
  rw [← hu]
  exact Nat.mul_lt_mul_of_pos_right (Nat.lt_succ_self c) hE
theorem own_C2U {k : Int64} (h1 : 1 ≤ k.toInt) (h2 : k.toInt < 4503599627370496) : ∃ u, own_U u (FP.dmul (own_g k) own_C2) ∧ own_ur k.toInt.toNat ≤ u := by
  have hb := own_gle (n := k.toInt.toNat) (by omega)
  refine ⟨_, own_U_P (Nat.two_pow_pos _) (own_mfin hb (by decide)) (own_U_mul (own_gU h1 h2) own_UC2), ?_⟩
  refine own_P_mono (Nat.two_pow_pos _) (Nat.two_pow_pos _) (own_mfin hb (by decide)) (own_mfin hb (by decide)) ?_
  exact Nat.mul_le_mul_right _ (Nat.mul_le_mul_left _ (Nat.mul_le_mul_right _ (by decide)))
/-- from 2^52 on -/
theorem own_l2dP {k : Int64} (h : 0 ≤ k.toInt) : val64 (FP.l2d k) = own_P (k.toInt.toNat * 2 ^ 1074) 1 := by
  show val64 (l2d k) = _
  rw [val64_l2d]
  show roundRatio b64 (decide (k.toInt < 0)) k.toInt.natAbs 1 0 = roundRatio b64 false (k.toInt.toNat * 2 ^ 1074) 1 b64.qmin
  rw [decide_eq_false (by omega)]
  refine roundRatio_congr (by decide) (by decide) ?_
  rw [own_qmin, show (0 - -1074 : Int).toNat = 1074 by decide, show (-1074 - 0 : Int).toNat = 0 by decide, show k.toInt.natAbs = k.toInt.toNat by omega]
  simp
theorem own_big64 {k : Int64} (h : 4503599627370496 ≤ k.toInt) : ∃ u, own_U u (own_T k) ∧ 2 ^ 1073 ≤ u := by
  have hl := k.toInt_lt
  have fl : k.toInt.toNat * 2 ^ 1074 ≤ 2 ^ 2000 * 1 := by
    calc k.toInt.toNat * 2 ^ 1074 ≤ 2 ^ 63 * 2 ^ 1074 := Nat.mul_le_mul_right _ (by omega)
      _ = 2 ^ 1137 := by rw [← Nat.pow_add]
      _ ≤ 2 ^ 2000 * 1 := by rw [Nat.mul_one]; exact Nat.pow_le_pow_right (by decide) (by decide)
  have hx := own_U_P (by decide) fl (own_l2dP (k := k) (by omega))
  have f63 : Jvm.FP.Core.fits b64 (.fin false (2 ^ 52) 11) := ⟨by decide +kernel, by decide +kernel, by decide +kernel, Or.inr (by decide +kernel)⟩
  have z63 : zmag b64 (.fin false (2 ^ 52) 11) = 2 ^ 1137 := by decide +kernel
  have f52 : Jvm.FP.Core.fits b64 (.fin false (2 ^ 52) 0) := ⟨by decide +kernel, by decide +kernel, by decide +kernel, Or.inr (by decide +kernel)⟩
  have z52 : zmag b64 (.fin false (2 ^ 52) 0) = 4503599627370496 * 2 ^ 1074 := by decide +kernel
  have up := own_P_le (N := k.toInt.toNat * 2 ^ 1074) (B := 1) (by decide) f63 Datum.noConfusion (by
    rw [z63, Nat.mul_one, show (2 : Nat) ^ 1137 = 2 ^ 63 * 2 ^ 1074 by rw [← Nat.pow_add]]
    exact Nat.mul_le_mul_right _ (by omega))
  have lo := own_P_ge (N := k.toInt.toNat * 2 ^ 1074) (B := 1) (by decide) f52 (by
    rw [z52, Nat.mul_one]
    exact Nat.mul_le_mul_right _ (by omega))
  rw [z63] at up
  rw [z52] at lo
  have eM := own_U_mul hx own_Uc
  generalize zmag b64 (own_P (k.toInt.toNat * 2 ^ 1074) 1) = ux at *
  have ft : ux * 2 ^ 1021 ≤ 2 ^ 2000 * 2 ^ 1074 := by
    calc ux * 2 ^ 1021 ≤ 2 ^ 1137 * 2 ^ 1021 := Nat.mul_le_mul_right _ up
      _ ≤ 2 ^ 2000 * 2 ^ 1074 := Nat.mul_le_mul (Nat.pow_le_pow_right (by decide) (by decide)) (Nat.pow_le_pow_right (by decide) (by decide))
  refine ⟨_, own_U_P (Nat.two_pow_pos _) ft eM, ?_⟩
  have fh : Jvm.FP.Core.fits b64 (.fin false (2 ^ 52) (-53)) := ⟨by decide +kernel, by decide +kernel, by decide +kernel, Or.inr (by decide +kernel)⟩
  have zh : zmag b64 (.fin false (2 ^ 52) (-53)) = 2 ^ 1073 := by decide +kernel
  have := own_P_ge (N := ux * 2 ^ 1021) (B := 2 ^ 1074) (Nat.two_pow_pos _) fh (by
    rw [zh]
    calc (2 : Nat) ^ 1073 * 2 ^ 1074 = 4503599627370496 * 2 ^ 1074 * 2 ^ 1021 := by rw [show (4503599627370496 : Nat) = 2 ^ 52 by decide, ← Nat.pow_add, ← Nat.pow_add, ← Nat.pow_add]
      _ ≤ ux * 2 ^ 1021 := Nat.mul_le_mul_right _ lo)
  rw [zh] at this
  exact this
theorem own_nn {y : UInt64} (h : val64 y ≠ .nan) : Jvm.Free.Fl.NoNaN64 y := Jvm.Free.Fl.noNaN64_no.mpr ((notNaN_iff y).mpr h)
theorem own_lt {u w : Nat} {a b : UInt64} (ha : own_U u a) (hb : own_U w b) (h : u < w) : cmpValue (FP.dcmp a b) .g < 0 := by rw [(own_U_cmp ha hb).1 h]; decide
theorem own_nlt {u w : Nat} {a b : UInt64} (ha : own_U u a) (hb : own_U w b) (h : ¬ u < w) : ¬ cmpValue (FP.dcmp a b) .g < 0 := by
  have q := ((own_U_cmp ha hb).2 h).1
  cases hd : FP.dcmp a b with
  | none => decide
  | some o => cases o with
    | lt => exact absurd hd q
    | eq => decide
    | gt => decide
theorem own_k0 {k : Int64} (h : k.toInt = 0) : k = 0 := Int64.toInt_inj.mp h
theorem own_T0 : own_T 0 = FP.dconst0 := by decide +kernel
theorem own_r0 : own_r 0 = FP.dconst0 := by decide +kernel
theorem own_g0 : own_g 0 = FP.dconst0 := by decide +kernel
theorem own_T_nn {k : Int64} (h : 0 ≤ k.toInt) : Jvm.Free.Fl.NoNaN64 (own_T k) := by
  by_cases h2 : k.toInt < 4503599627370496
  · exact own_V_not (own_T_V h h2)
  · obtain ⟨u, hu, -⟩ := own_big64 (k := k) (by omega)
    exact own_nn (own_U_fits hu).2.1
theorem own_Tlt {k : Int64} (h : 0 ≤ k.toInt) (h2 : k.toInt < 4503599627370496) : cmpValue (FP.dcmp (own_T k) own_hf) .g < 0 := by
  by_cases h0 : k.toInt = 0
  · rw [own_k0 h0, own_T0]; decide +kernel
  · refine own_lt (own_T_U (by omega) h2) own_Uhf ?_
    rw [show (2 : Nat) ^ 1073 = 4503599627370496 * 2 ^ 1021 by rw [show (4503599627370496 : Nat) = 2 ^ 52 by decide, ← Nat.pow_add]]
    exact Nat.mul_lt_mul_of_pos_right (by omega) (Nat.two_pow_pos _)
theorem own_Tge {k : Int64} (h2 : ¬ k.toInt < 4503599627370496) : ¬ cmpValue (FP.dcmp (own_T k) own_hf) .g < 0 := by
  obtain ⟨u, hu, hl⟩ := own_big64 (k := k) (by omega)
  exact own_nlt hu own_Uhf (Nat.not_lt.mpr hl)
theorem own_g_nn {k : Int64} (h : 0 ≤ k.toInt) (h2 : k.toInt < 4503599627370496) : Jvm.Free.Fl.NoNaN64 (own_g k) := by
  by_cases h0 : k.toInt = 0
  · rw [own_k0 h0, own_g0]; exact own_nn (own_U_fits own_U0).2.1
  · exact own_nn (own_U_fits (own_gU (by omega) h2)).2.1
theorem own_r_nn {k : Int64} (h : 0 ≤ k.toInt) (h2 : k.toInt < 4503599627370496) : Jvm.Free.Fl.NoNaN64 (own_r k) := by
  by_cases h0 : k.toInt = 0
  · rw [own_k0 h0, own_r0]; exact own_nn (own_U_fits own_U0).2.1
  · exact own_nn (own_U_fits (own_rU (by omega) h2)).2.1
def own_re (k : Int64) : UInt64 := if k.toInt < 4503599627370496 then own_r k else FP.dconst1
def own_uu (i : Int) : Nat := if i ≤ 0 then 0 else if i < 4503599627370496 then own_ur i.toNat else 2 ^ 1074
theorem own_reU {k : Int64} (h : 0 ≤ k.toInt) : own_U (own_uu k.toInt) (own_re k) := by
  unfold own_uu own_re
  by_cases h0 : k.toInt = 0
  · rw [if_pos (by omega), if_pos (by omega), own_k0 h0, own_r0]; exact own_U0
  rw [if_neg (by omega)]
  by_cases h2 : k.toInt < 4503599627370496
  · rw [if_pos h2, if_pos h2]; exact own_rU (by omega) h2
  · rw [if_neg h2, if_neg h2]; exact own_U1
theorem own_uule (i : Int) : own_uu i ≤ 2 ^ 1074 := by
  unfold own_uu
  by_cases h0 : i ≤ 0
  · rw [if_pos h0]; exact Nat.zero_le _
  rw [if_neg h0]
  by_cases h2 : i < 4503599627370496
  · rw [if_pos h2]; exact own_rle (by omega)
  · rw [if_neg h2]; exact Nat.le_refl _
theorem own_uumono {i j : Int} (h : i ≤ j) : own_uu i ≤ own_uu j := by
  by_cases h0 : i ≤ 0
  · rw [own_uu, if_pos h0]; exact Nat.zero_le _
  by_cases h2 : j < 4503599627370496
  · have e1 : own_uu i = own_ur i.toNat := by rw [own_uu, if_neg h0, if_pos (by omega)]
    have e2 : own_uu j = own_ur j.toNat := by rw [own_uu, if_neg (by omega), if_pos h2]
    rw [e1, e2]; exact own_rmono (by omega) (by omega)
  · have e : own_uu j = 2 ^ 1074 := by rw [own_uu, if_neg (by omega), if_neg h2]
    rw [e]; exact own_uule i

end OwnD
theorem own_nar1 : nar .boolean (1 : Int32) = 1 := by decide
theorem own_z52 : (4503599627370496 : Int64).toInt = 4503599627370496 := rfl
theorem own_lw52 {k : Int64} : lcmpW k (4503599627370496 : Int64) < 0 ↔ k.toInt < 4503599627370496 := by rw [lw_lt, Int64.lt_iff_toInt_lt, own_z52]
theorem own_e11 : cmpValue (FP.dcmp FP.dconst1 FP.dconst1) .l = 0 := by decide +kernel
theorem own_e00 : cmpValue (FP.dcmp FP.dconst0 FP.dconst0) .l = 0 := by decide +kernel
theorem own_m0 (x : Int64) : 0 ≤ (x &&& (4294967295 : Int64)).toInt ∧ (x &&& (4294967295 : Int64)).toInt < 4294967296 := by
  have e1 : (x &&& (4294967295 : Int64)).toInt = x.toInt % 2 ^ 32 := Jvm.Kit.i64_mask x 4294967295 (k := 32) (by decide) (by decide)
  omega
theorem own_m2 (x : Int64) : 0 ≤ (x &&& (18014398509481983 : Int64)).toInt ∧ (x &&& (18014398509481983 : Int64)).toInt < 18014398509481984 := by
  have e1 : (x &&& (18014398509481983 : Int64)).toInt = x.toInt % 2 ^ 54 := Jvm.Kit.i64_mask x 18014398509481983 (k := 54) (by decide) (by decide)
  omega
theorem own_m3 (x : Int64) : 0 ≤ (x &&& (255 : Int64)).toInt ∧ (x &&& (255 : Int64)).toInt < 256 := by
  have e1 : (x &&& (255 : Int64)).toInt = x.toInt % 2 ^ 8 := Jvm.Kit.i64_mask x 255 (k := 8) (by decide) (by decide)
  omega
theorem own_m1 (x : Int64) : 0 ≤ ((4503599627370496 : Int64) + (x - (x / (4294967296 : Int64)) * (4294967296 : Int64))).toInt ∧ ((4503599627370496 : Int64) + (x - (x / (4294967296 : Int64)) * (4294967296 : Int64))).toInt < 18014398509481984 := by
  have e1 : (x - (x / (4294967296 : Int64)) * (4294967296 : Int64)).toInt = x.toInt.tmod (4294967296 : Int64).toInt := Jvm.Kit.i64_rem x _
  have z : (4294967296 : Int64).toInt = 4294967296 := rfl
  have b1 := Int.tmod_lt_of_pos x.toInt (show (0 : Int) < 4294967296 by decide)
  have b2 : -4294967296 < x.toInt.tmod 4294967296 := by
    have := Int.tmod_lt_of_pos (-x.toInt) (show (0 : Int) < 4294967296 by decide)
    rw [Int.neg_tmod] at this; omega
  rw [z] at e1
  rw [Jvm.Kit.i64_add (by rw [e1, own_z52]; omega) (by rw [e1, own_z52]; omega), e1, own_z52]
  omega
theorem own_add2 {k : Int64} (x : Int64) (h0 : 0 ≤ k.toInt) (h1 : k.toInt < 18014398509481984) : (k + (x &&& (4294967295 : Int64))).toInt = k.toInt + (x &&& (4294967295 : Int64)).toInt := by
  have := own_m0 x
  exact Jvm.Kit.i64_add (by omega) (by omega)

set_option maxRecDepth 65536 in
set_option maxHeartbeats 40000000 in
theorem own_rel (l : Launch) (Z : State) (a0 : Array Value) (hw : ∀ d ∈ tables_1, d.before a0 Z = true) (ws : List Jvm.Cond) (k : Int64) (h0 : Heap) (n0 : Nat) (Z0 : n0 ≤ h0.size) (h0k : 0 ≤ k.toInt) :
    OMet l Z (⟨"com/example/tokengauge/tokengauge/Lattice", "relativeError", "(D)D"⟩ : MethodName) prog_72_method_10_code 4 (some .double) ws ({ frames := 0, cells := 0, slots := 0, locals := 0 } : Room) #[(.double (FP.l2d k))] h0 (fun v h L => v = some (.double (own_re k)) ∧ Fr n0 L ∧ h = h0) := by
  refine OMet.body (plainFor_of_name own_pn0) ?_
  intro p e s m below meth c s₁ hx hby hml hown hnm hret hlk hZ X0 e0
  refine OGo.step (fun _ kk => castTop (show entryFrame m #[(.double (FP.l2d k))] 4 = (mkF m 0 #[.val (.double (FP.l2d k)), .second, .unset, .unset] []) from by first | (simp [entryFrame, mkF, argsToLocals, Value.category]; done) | rfl) kk) ?_
  show OGo p e below (s₁.setTop (mkF m 0 #[.val (.double (FP.l2d k)), .second, .unset, .unset] [])) _
  refine OGo.step (fun _ kk => XS.dloadN X0.here hx rfl (hb hby own_d_prog_72_method_10_code_0) rfl kk) ?_
  show OGo p e below (s₁.setTop (mkF m 1 #[.val (.double (FP.l2d k)), .second, .unset, .unset] [(.double (FP.l2d k))])) _
  refine OGo.step (fun _ kk => X0.ldc2DoubleC hx hown (mvT hZ (hw _ (List.mem_of_getElem? (i := 5) rfl))) (g := (mkF m 1 #[.val (.double (FP.l2d k)), .second, .unset, .unset] [(.double (FP.l2d k))])) rfl (hb hby own_d_prog_72_method_10_code_1) _ kk) ?_
  show OGo p e below (s₁.setTop (mkF m 4 #[.val (.double (FP.l2d k)), .second, .unset, .unset] [(.double (4368491638549381120 : UInt64)), (.double (FP.l2d k))])) _
  refine OGo.step (fun _ kk => XS.dmulS X0.here hx rfl (hb hby own_d_prog_72_method_10_code_4) rfl (own_T_nn h0k) rfl kk) ?_
  show OGo p e below (s₁.setTop (mkF m 5 #[.val (.double (FP.l2d k)), .second, .unset, .unset] [(.double (own_T k))])) _
  refine OGo.step (fun _ kk => XS.dstoreN X0.here hx rfl (hb hby own_d_prog_72_method_10_code_5) rfl (l' := #[.val (.double (FP.l2d k)), .second, .val (.double (own_T k)), .second]) rfl kk) ?_
  show OGo p e below (s₁.setTop (mkF m 6 #[.val (.double (FP.l2d k)), .second, .val (.double (own_T k)), .second] [])) _
  refine OGo.step (fun _ kk => XS.dloadN X0.here hx rfl (hb hby own_d_prog_72_method_10_code_6) rfl kk) ?_
  show OGo p e below (s₁.setTop (mkF m 7 #[.val (.double (FP.l2d k)), .second, .val (.double (own_T k)), .second] [(.double (own_T k))])) _
  refine OGo.step (fun _ kk => X0.ldc2DoubleC hx hown (mvT hZ (hw _ (List.mem_of_getElem? (i := 6) rfl))) (g := (mkF m 7 #[.val (.double (FP.l2d k)), .second, .val (.double (own_T k)), .second] [(.double (own_T k))])) rfl (hb hby own_d_prog_72_method_10_code_7) _ kk) ?_
  show OGo p e below (s₁.setTop (mkF m 10 #[.val (.double (FP.l2d k)), .second, .val (.double (own_T k)), .second] [(.double (4602678819172646912 : UInt64)), (.double (own_T k))])) _
  refine OGo.step (fun _ kk => XS.dcmpS X0.here hx rfl (hb hby own_d_prog_72_method_10_code_10) rfl rfl kk) ?_
  show OGo p e below (s₁.setTop (mkF m 11 #[.val (.double (FP.l2d k)), .second, .val (.double (own_T k)), .second] [(.int (cmpValue (FP.dcmp (own_T k) (4602678819172646912 : UInt64)) .g))])) _
  by_cases hk : k.toInt < 4503599627370496
  · refine OGo.step (fun _ kk => XS.ifNo X0.here hx rfl (hb hby own_d_prog_72_method_10_code_11) rfl ((if0 _ _).trans (tlt (own_Tlt h0k hk)).2.1) kk) ?_
    show OGo p e below (s₁.setTop (mkF m 14 #[.val (.double (FP.l2d k)), .second, .val (.double (own_T k)), .second] [])) _
    refine OGo.step (fun _ kk => XS.dloadN X0.here hx rfl (hb hby own_d_prog_72_method_10_code_14) rfl kk) ?_
    show OGo p e below (s₁.setTop (mkF m 15 #[.val (.double (FP.l2d k)), .second, .val (.double (own_T k)), .second] [(.double (own_T k))])) _
    refine OGo.step (fun _ kk => XS.dconst1 X0.here hx rfl (hb hby own_d_prog_72_method_10_code_15) rfl kk) ?_
    show OGo p e below (s₁.setTop (mkF m 16 #[.val (.double (FP.l2d k)), .second, .val (.double (own_T k)), .second] [(.double FP.dconst1), (.double (own_T k))])) _
    refine OGo.step (fun _ kk => XS.dloadN X0.here hx rfl (hb hby own_d_prog_72_method_10_code_16) rfl kk) ?_
    show OGo p e below (s₁.setTop (mkF m 17 #[.val (.double (FP.l2d k)), .second, .val (.double (own_T k)), .second] [(.double (own_T k)), (.double FP.dconst1), (.double (own_T k))])) _
    refine OGo.step (fun _ kk => XS.dsubS X0.here hx rfl (hb hby own_d_prog_72_method_10_code_17) rfl (own_V_not (own_D_V h0k hk)) rfl kk) ?_
    show OGo p e below (s₁.setTop (mkF m 18 #[.val (.double (FP.l2d k)), .second, .val (.double (own_T k)), .second] [(.double (FP.dsub FP.dconst1 (own_T k))), (.double (own_T k))])) _
    refine OGo.step (fun _ kk => XS.ddivS X0.here hx rfl (hb hby own_d_prog_72_method_10_code_18) rfl (own_g_nn h0k hk) rfl kk) ?_
    show OGo p e below (s₁.setTop (mkF m 19 #[.val (.double (FP.l2d k)), .second, .val (.double (own_T k)), .second] [(.double (own_g k))])) _
    refine OGo.step (fun _ kk => X0.ldc2DoubleC hx hown (mvT hZ (hw _ (List.mem_of_getElem? (i := 7) rfl))) (g := (mkF m 19 #[.val (.double (FP.l2d k)), .second, .val (.double (own_T k)), .second] [(.double (own_g k))])) rfl (hb hby own_d_prog_72_method_10_code_19) _ kk) ?_
    show OGo p e below (s₁.setTop (mkF m 22 #[.val (.double (FP.l2d k)), .second, .val (.double (own_T k)), .second] [(.double (4607182418800017410 : UInt64)), (.double (own_g k))])) _
    refine OGo.step (fun _ kk => XS.dmulS X0.here hx rfl (hb hby own_d_prog_72_method_10_code_22) rfl (own_r_nn h0k hk) rfl kk) ?_
    show OGo p e below (s₁.setTop (mkF m 23 #[.val (.double (FP.l2d k)), .second, .val (.double (own_T k)), .second] [(.double (own_r k))])) _
    refine OGo.step (fun _ kk => XS.goto X0.here hx rfl (pc0 := 23) (pc' := 27) rfl (hb hby own_d_prog_72_method_10_code_23) (by decide) (by decide) kk) ?_
    show OGo p e below (s₁.setTop (mkF m 27 #[.val (.double (FP.l2d k)), .second, .val (.double (own_T k)), .second] [(.double (own_r k))])) _
    exact own_ret X0 hx hlk hret rfl (Or.inr (Or.inr (Or.inl ⟨rfl, rfl, _, rfl⟩))) (hb hby own_d_prog_72_method_10_code_27) ⟨by rw [own_re, if_pos hk], Fr.nil n0, e0⟩ (by decide) (by decide)
  · refine OGo.step (fun _ kk => XS.ifYes X0.here hx rfl (pc0 := 11) (pc' := 26) rfl (hb hby own_d_prog_72_method_10_code_11) rfl ((if0 _ _).trans (flt (own_Tge hk)).2.1) (by decide) (by decide) kk) ?_
    show OGo p e below (s₁.setTop (mkF m 26 #[.val (.double (FP.l2d k)), .second, .val (.double (own_T k)), .second] [])) _
    refine OGo.step (fun _ kk => XS.dconst1 X0.here hx rfl (hb hby own_d_prog_72_method_10_code_26) rfl kk) ?_
    show OGo p e below (s₁.setTop (mkF m 27 #[.val (.double (FP.l2d k)), .second, .val (.double (own_T k)), .second] [(.double FP.dconst1)])) _
    exact own_ret X0 hx hlk hret rfl (Or.inr (Or.inr (Or.inl ⟨rfl, rfl, _, rfl⟩))) (hb hby own_d_prog_72_method_10_code_27) ⟨by rw [own_re, if_neg hk], Fr.nil n0, e0⟩ (by decide) (by decide)

set_option maxRecDepth 65536 in
set_option maxHeartbeats 40000000 in
theorem own_pin (l : Launch) (Z : State) (a0 : Array Value) (hw : ∀ d ∈ tables_1, d.before a0 Z = true) (ws : List Jvm.Cond) (k : Int64) (h0 : Heap) (n0 : Nat) (Z0 : n0 ≤ h0.size) (h0k : 0 ≤ k.toInt) :
    OMet l Z (⟨"com/example/tokengauge/tokengauge/LatticeRelativeErrorPinLaw", "pinned", "(JD)Z"⟩ : MethodName) method_3_code 8 (some .boolean) ws ({ frames := 0, cells := 0, slots := 0, locals := 0 } : Room) #[(.long k), (.double (own_re k))] h0 (fun v h L => v = some (.int (1 : Int32)) ∧ Fr n0 L ∧ h = h0) := by
  refine OMet.body (plainFor_of_name own_pn1) ?_
  intro p e s m below meth c s₁ hx hby hml hown hnm hret hlk hZ X0 e0
  refine OGo.step (fun _ kk => castTop (show entryFrame m #[(.long k), (.double (own_re k))] 8 = (mkF m 0 #[.val (.long k), .second, .val (.double (own_re k)), .second, .unset, .unset, .unset, .unset] []) from by first | (simp [entryFrame, mkF, argsToLocals, Value.category]; done) | rfl) kk) ?_
  show OGo p e below (s₁.setTop (mkF m 0 #[.val (.long k), .second, .val (.double (own_re k)), .second, .unset, .unset, .unset, .unset] [])) _
  refine OGo.step (fun _ kk => XS.lloadN X0.here hx rfl (hb hby own_d_method_3_code_0) rfl kk) ?_
  show OGo p e below (s₁.setTop (mkF m 1 #[.val (.long k), .second, .val (.double (own_re k)), .second, .unset, .unset, .unset, .unset] [(.long k)])) _
  refine OGo.step (fun _ kk => X0.ldc2Long hx hown (mvT hZ (hw _ (List.mem_of_getElem? (i := 12) rfl))) (g := (mkF m 1 #[.val (.long k), .second, .val (.double (own_re k)), .second, .unset, .unset, .unset, .unset] [(.long k)])) rfl (hb hby own_d_method_3_code_1) _ kk) ?_
  show OGo p e below (s₁.setTop (mkF m 4 #[.val (.long k), .second, .val (.double (own_re k)), .second, .unset, .unset, .unset, .unset] [(.long (4503599627370496 : Int64)), (.long k)])) _
  refine OGo.step (fun _ kk => XS.lcmp X0.here hx rfl (hb hby own_d_method_3_code_4) rfl kk) ?_
  show OGo p e below (s₁.setTop (mkF m 5 #[.val (.long k), .second, .val (.double (own_re k)), .second, .unset, .unset, .unset, .unset] [(.int (lcmpW k (4503599627370496 : Int64)))])) _
  by_cases hk : (lcmpW k (4503599627370496 : Int64)) < (0 : Int32)
  · refine OGo.step (fun _ kk => XS.ifYes X0.here hx rfl (pc0 := 5) (pc' := 20) rfl (hb hby own_d_method_3_code_5) rfl ((if0 _ _).trans (tlt hk).1) (by decide) (by decide) kk) ?_
    show OGo p e below (s₁.setTop (mkF m 20 #[.val (.long k), .second, .val (.double (own_re k)), .second, .unset, .unset, .unset, .unset] [])) _
    have hk' := own_lw52.mp hk
    refine OGo.step (fun _ kk => XS.lloadN X0.here hx rfl (hb hby own_d_method_3_code_20) rfl kk) ?_
    show OGo p e below (s₁.setTop (mkF m 21 #[.val (.long k), .second, .val (.double (own_re k)), .second, .unset, .unset, .unset, .unset] [(.long k)])) _
    refine OGo.step (fun _ kk => XS.lconst X0.here hx rfl (hb hby own_d_method_3_code_21) kk) ?_
    show OGo p e below (s₁.setTop (mkF m 22 #[.val (.long k), .second, .val (.double (own_re k)), .second, .unset, .unset, .unset, .unset] [(.long (0 : Int64)), (.long k)])) _
    refine OGo.step (fun _ kk => XS.lcmp X0.here hx rfl (hb hby own_d_method_3_code_22) rfl kk) ?_
    show OGo p e below (s₁.setTop (mkF m 23 #[.val (.long k), .second, .val (.double (own_re k)), .second, .unset, .unset, .unset, .unset] [(.int (lcmpW k (0 : Int64)))])) _
    by_cases hz : (lcmpW k (0 : Int64)) = (0 : Int32)
    · refine OGo.step (fun _ kk => XS.ifNo X0.here hx rfl (hb hby own_d_method_3_code_23) rfl ((if0 _ _).trans (teq hz).2) kk) ?_
      show OGo p e below (s₁.setTop (mkF m 26 #[.val (.long k), .second, .val (.double (own_re k)), .second, .unset, .unset, .unset, .unset] [])) _
      have k0 : k = 0 := (lw_eq _ _).mp hz
      refine OGo.step (fun _ kk => XS.dloadN X0.here hx rfl (hb hby own_d_method_3_code_26) rfl kk) ?_
      show OGo p e below (s₁.setTop (mkF m 27 #[.val (.long k), .second, .val (.double (own_re k)), .second, .unset, .unset, .unset, .unset] [(.double (own_re k))])) _
      refine OGo.step (fun _ kk => XS.dconst0 X0.here hx rfl (hb hby own_d_method_3_code_27) rfl kk) ?_
      show OGo p e below (s₁.setTop (mkF m 28 #[.val (.long k), .second, .val (.double (own_re k)), .second, .unset, .unset, .unset, .unset] [(.double FP.dconst0), (.double (own_re k))])) _
      refine OGo.step (fun _ kk => XS.dcmpS X0.here hx rfl (hb hby own_d_method_3_code_28) rfl rfl kk) ?_
      show OGo p e below (s₁.setTop (mkF m 29 #[.val (.long k), .second, .val (.double (own_re k)), .second, .unset, .unset, .unset, .unset] [(.int (cmpValue (FP.dcmp (own_re k) FP.dconst0) .l))])) _
      refine OGo.step (fun _ kk => XS.ifNo X0.here hx rfl (hb hby own_d_method_3_code_29) rfl ((if0 _ _).trans (teq (by rw [k0, own_re, if_pos (by decide), own_r0]; exact own_e00)).2) kk) ?_
      show OGo p e below (s₁.setTop (mkF m 32 #[.val (.long k), .second, .val (.double (own_re k)), .second, .unset, .unset, .unset, .unset] [])) _
      refine OGo.step (fun _ kk => XS.iconst X0.here hx rfl (hb hby own_d_method_3_code_32) kk) ?_
      show OGo p e below (s₁.setTop (mkF m 33 #[.val (.long k), .second, .val (.double (own_re k)), .second, .unset, .unset, .unset, .unset] [(.int (1 : Int32))])) _
      refine OGo.step (fun _ kk => XS.goto X0.here hx rfl (pc0 := 33) (pc' := 37) rfl (hb hby own_d_method_3_code_33) (by decide) (by decide) kk) ?_
      show OGo p e below (s₁.setTop (mkF m 37 #[.val (.long k), .second, .val (.double (own_re k)), .second, .unset, .unset, .unset, .unset] [(.int (1 : Int32))])) _
      exact own_retN X0 hx hlk hret (by simp) (hb hby own_d_method_3_code_37) ⟨by rw [own_nar1], Fr.nil n0, e0⟩ (by decide) (by decide)
    · refine OGo.step (fun _ kk => XS.ifYes X0.here hx rfl (pc0 := 23) (pc' := 38) rfl (hb hby own_d_method_3_code_23) rfl ((if0 _ _).trans (feq hz).2) (by decide) (by decide) kk) ?_
      show OGo p e below (s₁.setTop (mkF m 38 #[.val (.long k), .second, .val (.double (own_re k)), .second, .unset, .unset, .unset, .unset] [])) _
      have k1 : 1 ≤ k.toInt := by have : k.toInt ≠ 0 := fun q => hz ((lw_eq _ _).mpr (own_k0 q)); omega
      have er : own_re k = own_r k := by rw [own_re, if_pos hk']
      refine OGo.step (fun _ kk => XS.lloadN X0.here hx rfl (hb hby own_d_method_3_code_38) rfl kk) ?_
      show OGo p e below (s₁.setTop (mkF m 39 #[.val (.long k), .second, .val (.double (own_re k)), .second, .unset, .unset, .unset, .unset] [(.long k)])) _
      refine OGo.step (fun _ kk => XS.l2dS X0.here hx rfl (hb hby own_d_method_3_code_39) rfl rfl kk) ?_
      show OGo p e below (s₁.setTop (mkF m 40 #[.val (.long k), .second, .val (.double (own_re k)), .second, .unset, .unset, .unset, .unset] [(.double (FP.l2d k))])) _
      refine OGo.step (fun _ kk => X0.ldc2DoubleC hx hown (mvT hZ (hw _ (List.mem_of_getElem? (i := 13) rfl))) (g := (mkF m 40 #[.val (.long k), .second, .val (.double (own_re k)), .second, .unset, .unset, .unset, .unset] [(.double (FP.l2d k))])) rfl (hb hby own_d_method_3_code_40) _ kk) ?_
      show OGo p e below (s₁.setTop (mkF m 43 #[.val (.long k), .second, .val (.double (own_re k)), .second, .unset, .unset, .unset, .unset] [(.double (4368491638549381120 : UInt64)), (.double (FP.l2d k))])) _
      refine OGo.step (fun _ kk => XS.dmulS X0.here hx rfl (hb hby own_d_method_3_code_43) rfl (own_T_nn h0k) rfl kk) ?_
      show OGo p e below (s₁.setTop (mkF m 44 #[.val (.long k), .second, .val (.double (own_re k)), .second, .unset, .unset, .unset, .unset] [(.double (own_T k))])) _
      refine OGo.step (fun _ kk => XS.dstore X0.here hx rfl (hb hby own_d_method_3_code_44) rfl (l' := #[.val (.long k), .second, .val (.double (own_re k)), .second, .val (.double (own_T k)), .second, .unset, .unset]) rfl kk) ?_
      show OGo p e below (s₁.setTop (mkF m 46 #[.val (.long k), .second, .val (.double (own_re k)), .second, .val (.double (own_T k)), .second, .unset, .unset] [])) _
      refine OGo.step (fun _ kk => XS.dload X0.here hx rfl (hb hby own_d_method_3_code_46) rfl kk) ?_
      show OGo p e below (s₁.setTop (mkF m 48 #[.val (.long k), .second, .val (.double (own_re k)), .second, .val (.double (own_T k)), .second, .unset, .unset] [(.double (own_T k))])) _
      refine OGo.step (fun _ kk => XS.dconst1 X0.here hx rfl (hb hby own_d_method_3_code_48) rfl kk) ?_
      show OGo p e below (s₁.setTop (mkF m 49 #[.val (.long k), .second, .val (.double (own_re k)), .second, .val (.double (own_T k)), .second, .unset, .unset] [(.double FP.dconst1), (.double (own_T k))])) _
      refine OGo.step (fun _ kk => XS.dload X0.here hx rfl (hb hby own_d_method_3_code_49) rfl kk) ?_
      show OGo p e below (s₁.setTop (mkF m 51 #[.val (.long k), .second, .val (.double (own_re k)), .second, .val (.double (own_T k)), .second, .unset, .unset] [(.double (own_T k)), (.double FP.dconst1), (.double (own_T k))])) _
      refine OGo.step (fun _ kk => XS.dsubS X0.here hx rfl (hb hby own_d_method_3_code_51) rfl (own_V_not (own_D_V h0k hk')) rfl kk) ?_
      show OGo p e below (s₁.setTop (mkF m 52 #[.val (.long k), .second, .val (.double (own_re k)), .second, .val (.double (own_T k)), .second, .unset, .unset] [(.double (FP.dsub FP.dconst1 (own_T k))), (.double (own_T k))])) _
      refine OGo.step (fun _ kk => XS.ddivS X0.here hx rfl (hb hby own_d_method_3_code_52) rfl (own_g_nn h0k hk') rfl kk) ?_
      show OGo p e below (s₁.setTop (mkF m 53 #[.val (.long k), .second, .val (.double (own_re k)), .second, .val (.double (own_T k)), .second, .unset, .unset] [(.double (own_g k))])) _
      refine OGo.step (fun _ kk => XS.dstore X0.here hx rfl (hb hby own_d_method_3_code_53) rfl (l' := #[.val (.long k), .second, .val (.double (own_re k)), .second, .val (.double (own_T k)), .second, .val (.double (own_g k)), .second]) rfl kk) ?_
      show OGo p e below (s₁.setTop (mkF m 55 #[.val (.long k), .second, .val (.double (own_re k)), .second, .val (.double (own_T k)), .second, .val (.double (own_g k)), .second] [])) _
      refine OGo.step (fun _ kk => XS.dload X0.here hx rfl (hb hby own_d_method_3_code_55) rfl kk) ?_
      show OGo p e below (s₁.setTop (mkF m 57 #[.val (.long k), .second, .val (.double (own_re k)), .second, .val (.double (own_T k)), .second, .val (.double (own_g k)), .second] [(.double (own_g k))])) _
      refine OGo.step (fun _ kk => XS.dloadN X0.here hx rfl (hb hby own_d_method_3_code_57) rfl kk) ?_
      show OGo p e below (s₁.setTop (mkF m 58 #[.val (.long k), .second, .val (.double (own_re k)), .second, .val (.double (own_T k)), .second, .val (.double (own_g k)), .second] [(.double (own_re k)), (.double (own_g k))])) _
      refine OGo.step (fun _ kk => XS.dcmpS X0.here hx rfl (hb hby own_d_method_3_code_58) rfl rfl kk) ?_
      show OGo p e below (s₁.setTop (mkF m 59 #[.val (.long k), .second, .val (.double (own_re k)), .second, .val (.double (own_T k)), .second, .val (.double (own_g k)), .second] [(.int (cmpValue (FP.dcmp (own_g k) (own_re k)) .g))])) _
      refine OGo.step (fun _ kk => XS.ifNo X0.here hx rfl (hb hby own_d_method_3_code_59) rfl ((if0 _ _).trans (tlt (by rw [er]; exact own_lt (own_gU k1 hk') (own_rU k1 hk') (own_rgt k1 hk'))).2.1) kk) ?_
      show OGo p e below (s₁.setTop (mkF m 62 #[.val (.long k), .second, .val (.double (own_re k)), .second, .val (.double (own_T k)), .second, .val (.double (own_g k)), .second] [])) _
      obtain ⟨u2, hu2, hl2⟩ := own_C2U k1 hk'
      refine OGo.step (fun _ kk => XS.dload X0.here hx rfl (hb hby own_d_method_3_code_62) rfl kk) ?_
      show OGo p e below (s₁.setTop (mkF m 64 #[.val (.long k), .second, .val (.double (own_re k)), .second, .val (.double (own_T k)), .second, .val (.double (own_g k)), .second] [(.double (own_g k))])) _
      refine OGo.step (fun _ kk => X0.ldc2DoubleC hx hown (mvT hZ (hw _ (List.mem_of_getElem? (i := 14) rfl))) (g := (mkF m 64 #[.val (.long k), .second, .val (.double (own_re k)), .second, .val (.double (own_T k)), .second, .val (.double (own_g k)), .second] [(.double (own_g k))])) rfl (hb hby own_d_method_3_code_64) _ kk) ?_
      show OGo p e below (s₁.setTop (mkF m 67 #[.val (.long k), .second, .val (.double (own_re k)), .second, .val (.double (own_T k)), .second, .val (.double (own_g k)), .second] [(.double (4607182418800017412 : UInt64)), (.double (own_g k))])) _
      refine OGo.step (fun _ kk => XS.dmulS X0.here hx rfl (hb hby own_d_method_3_code_67) rfl (own_nn (own_U_fits hu2).2.1) rfl kk) ?_
      show OGo p e below (s₁.setTop (mkF m 68 #[.val (.long k), .second, .val (.double (own_re k)), .second, .val (.double (own_T k)), .second, .val (.double (own_g k)), .second] [(.double (FP.dmul (own_g k) own_C2))])) _
      refine OGo.step (fun _ kk => XS.dloadN X0.here hx rfl (hb hby own_d_method_3_code_68) rfl kk) ?_
      show OGo p e below (s₁.setTop (mkF m 69 #[.val (.long k), .second, .val (.double (own_re k)), .second, .val (.double (own_T k)), .second, .val (.double (own_g k)), .second] [(.double (own_re k)), (.double (FP.dmul (own_g k) own_C2))])) _
      refine OGo.step (fun _ kk => XS.dcmpS X0.here hx rfl (hb hby own_d_method_3_code_69) rfl rfl kk) ?_
      show OGo p e below (s₁.setTop (mkF m 70 #[.val (.long k), .second, .val (.double (own_re k)), .second, .val (.double (own_T k)), .second, .val (.double (own_g k)), .second] [(.int (cmpValue (FP.dcmp (FP.dmul (own_g k) own_C2) (own_re k)) .g))])) _
      refine OGo.step (fun _ kk => XS.ifNo X0.here hx rfl (hb hby own_d_method_3_code_70) rfl ((if0 _ _).trans (flt (by rw [er]; exact own_nlt hu2 (own_rU k1 hk') (Nat.not_lt.mpr hl2))).1) kk) ?_
      show OGo p e below (s₁.setTop (mkF m 73 #[.val (.long k), .second, .val (.double (own_re k)), .second, .val (.double (own_T k)), .second, .val (.double (own_g k)), .second] [])) _
      refine OGo.step (fun _ kk => XS.iconst X0.here hx rfl (hb hby own_d_method_3_code_73) kk) ?_
      show OGo p e below (s₁.setTop (mkF m 74 #[.val (.long k), .second, .val (.double (own_re k)), .second, .val (.double (own_T k)), .second, .val (.double (own_g k)), .second] [(.int (1 : Int32))])) _
      refine OGo.step (fun _ kk => XS.goto X0.here hx rfl (pc0 := 74) (pc' := 78) rfl (hb hby own_d_method_3_code_74) (by decide) (by decide) kk) ?_
      show OGo p e below (s₁.setTop (mkF m 78 #[.val (.long k), .second, .val (.double (own_re k)), .second, .val (.double (own_T k)), .second, .val (.double (own_g k)), .second] [(.int (1 : Int32))])) _
      exact own_retN X0 hx hlk hret (by simp) (hb hby own_d_method_3_code_78) ⟨by rw [own_nar1], Fr.nil n0, e0⟩ (by decide) (by decide)
  · refine OGo.step (fun _ kk => XS.ifNo X0.here hx rfl (hb hby own_d_method_3_code_5) rfl ((if0 _ _).trans (flt hk).1) kk) ?_
    show OGo p e below (s₁.setTop (mkF m 8 #[.val (.long k), .second, .val (.double (own_re k)), .second, .unset, .unset, .unset, .unset] [])) _
    refine OGo.step (fun _ kk => XS.dloadN X0.here hx rfl (hb hby own_d_method_3_code_8) rfl kk) ?_
    show OGo p e below (s₁.setTop (mkF m 9 #[.val (.long k), .second, .val (.double (own_re k)), .second, .unset, .unset, .unset, .unset] [(.double (own_re k))])) _
    refine OGo.step (fun _ kk => XS.dconst1 X0.here hx rfl (hb hby own_d_method_3_code_9) rfl kk) ?_
    show OGo p e below (s₁.setTop (mkF m 10 #[.val (.long k), .second, .val (.double (own_re k)), .second, .unset, .unset, .unset, .unset] [(.double FP.dconst1), (.double (own_re k))])) _
    refine OGo.step (fun _ kk => XS.dcmpS X0.here hx rfl (hb hby own_d_method_3_code_10) rfl rfl kk) ?_
    show OGo p e below (s₁.setTop (mkF m 11 #[.val (.long k), .second, .val (.double (own_re k)), .second, .unset, .unset, .unset, .unset] [(.int (cmpValue (FP.dcmp (own_re k) FP.dconst1) .l))])) _
    refine OGo.step (fun _ kk => XS.ifNo X0.here hx rfl (hb hby own_d_method_3_code_11) rfl ((if0 _ _).trans (teq (by rw [own_re, if_neg (fun z => hk (own_lw52.mpr z))]; exact own_e11)).2) kk) ?_
    show OGo p e below (s₁.setTop (mkF m 14 #[.val (.long k), .second, .val (.double (own_re k)), .second, .unset, .unset, .unset, .unset] [])) _
    refine OGo.step (fun _ kk => XS.iconst X0.here hx rfl (hb hby own_d_method_3_code_14) kk) ?_
    show OGo p e below (s₁.setTop (mkF m 15 #[.val (.long k), .second, .val (.double (own_re k)), .second, .unset, .unset, .unset, .unset] [(.int (1 : Int32))])) _
    refine OGo.step (fun _ kk => XS.goto X0.here hx rfl (pc0 := 15) (pc' := 19) rfl (hb hby own_d_method_3_code_15) (by decide) (by decide) kk) ?_
    show OGo p e below (s₁.setTop (mkF m 19 #[.val (.long k), .second, .val (.double (own_re k)), .second, .unset, .unset, .unset, .unset] [(.int (1 : Int32))])) _
    exact own_retN X0 hx hlk hret (by simp) (hb hby own_d_method_3_code_19) ⟨by rw [own_nar1], Fr.nil n0, e0⟩ (by decide) (by decide)

set_option maxRecDepth 65536 in
set_option maxHeartbeats 40000000 in
theorem own_rm0 (l : Launch) (Z : State) (a0 : Array Value) (hw : ∀ d ∈ tables_1, d.before a0 Z = true) (ws : List Jvm.Cond) (q1 q2 : Int64) (p1 : Int32) (h0 : Heap) (n0 : Nat) (Z0 : n0 ≤ h0.size)  :
    OMet l Z x code maxLocals ret ws room_1 #[(.long q1), (.long q2), (.int p1)] h0 (fun v h L => v = some (.int (1 : Int32)) ∧ Fr n0 L) := by
  refine OMet.body (plainFor_of_name own_pn1) ?_
  intro p e s m below meth c s₁ hx hby hml hown hnm hret hlk hZ X0 e0
  have hml : c.maxLocals = 19 := hml
  refine OGo.step (fun _ kk => castTop (show entryFrame m #[(.long q1), (.long q2), (.int p1)] maxLocals = (mkF m 0 #[.val (.long q1), .second, .val (.long q2), .second, .val (.int p1), .unset, .unset, .unset, .unset, .unset, .unset, .unset, .unset, .unset, .unset, .unset, .unset, .unset, .unset] []) from by first | (simp [entryFrame, mkF, argsToLocals, Value.category, maxLocals]; done) | rfl) kk) ?_
  show OGo p e below (s₁.setTop (mkF m 0 #[.val (.long q1), .second, .val (.long q2), .second, .val (.int p1), .unset, .unset, .unset, .unset, .unset, .unset, .unset, .unset, .unset, .unset, .unset, .unset, .unset, .unset] [])) _
  refine OGo.step (fun _ kk => XS.iload X0.here hx rfl (hb hby at_0) rfl kk) ?_
  show OGo p e below (s₁.setTop (mkF m 2 #[.val (.long q1), .second, .val (.long q2), .second, .val (.int p1), .unset, .unset, .unset, .unset, .unset, .unset, .unset, .unset, .unset, .unset, .unset, .unset, .unset, .unset] [(.int p1)])) _
  refine OGo.step (fun _ kk => XS.iconst X0.here hx rfl (hb hby at_2) kk) ?_
  show OGo p e below (s₁.setTop (mkF m 3 #[.val (.long q1), .second, .val (.long q2), .second, .val (.int p1), .unset, .unset, .unset, .unset, .unset, .unset, .unset, .unset, .unset, .unset, .unset, .unset, .unset, .unset] [(.int (3 : Int32)), (.int p1)])) _
  refine OGo.step (fun _ kk => XS.iand X0.here hx rfl (hb hby at_3) rfl kk) ?_
  show OGo p e below (s₁.setTop (mkF m 4 #[.val (.long q1), .second, .val (.long q2), .second, .val (.int p1), .unset, .unset, .unset, .unset, .unset, .unset, .unset, .unset, .unset, .unset, .unset, .unset, .unset, .unset] [(.int (p1 &&& (3 : Int32)))])) _
  refine OGo.step (fun _ kk => XS.istore X0.here hx rfl (hb hby at_4) rfl (l' := #[.val (.long q1), .second, .val (.long q2), .second, .val (.int p1), .val (.int (p1 &&& (3 : Int32))), .unset, .unset, .unset, .unset, .unset, .unset, .unset, .unset, .unset, .unset, .unset, .unset, .unset]) rfl kk) ?_
  show OGo p e below (s₁.setTop (mkF m 6 #[.val (.long q1), .second, .val (.long q2), .second, .val (.int p1), .val (.int (p1 &&& (3 : Int32))), .unset, .unset, .unset, .unset, .unset, .unset, .unset, .unset, .unset, .unset, .unset, .unset, .unset] [])) _
  refine OGo.step (fun _ kk => XS.iload X0.here hx rfl (hb hby at_6) rfl kk) ?_
  show OGo p e below (s₁.setTop (mkF m 8 #[.val (.long q1), .second, .val (.long q2), .second, .val (.int p1), .val (.int (p1 &&& (3 : Int32))), .unset, .unset, .unset, .unset, .unset, .unset, .unset, .unset, .unset, .unset, .unset, .unset, .unset] [(.int (p1 &&& (3 : Int32)))])) _
  have K64 : ∀ k : Int64, 0 ≤ k.toInt → k.toInt < 18014398509481984 → OGo p e below (s₁.setTop (mkF m 64 #[.val (.long q1), .second, .val (.long q2), .second, .val (.int p1), .val (.int (p1 &&& (3 : Int32))), .val (.long k), .second, .unset, .unset, .unset, .unset, .unset, .unset, .unset, .unset, .unset, .unset, .unset] [])) (OEnd s (fun v h L => v = some (.int (1 : Int32)) ∧ Fr n0 L) room_1.cells room_1.slots) := by
    intro k h0k h1k
    show OGo p e below (s₁.setTop (mkF m 64 #[.val (.long q1), .second, .val (.long q2), .second, .val (.int p1), .val (.int (p1 &&& (3 : Int32))), .val (.long k), .second, .unset, .unset, .unset, .unset, .unset, .unset, .unset, .unset, .unset, .unset, .unset] [])) _
    refine OGo.step (fun _ kk => XS.lload X0.here hx rfl (hb hby at_64) rfl kk) ?_
    show OGo p e below (s₁.setTop (mkF m 66 #[.val (.long q1), .second, .val (.long q2), .second, .val (.int p1), .val (.int (p1 &&& (3 : Int32))), .val (.long k), .second, .unset, .unset, .unset, .unset, .unset, .unset, .unset, .unset, .unset, .unset, .unset] [(.long k)])) _
    refine OGo.step (fun _ kk => XS.lloadN X0.here hx rfl (hb hby at_66) rfl kk) ?_
    show OGo p e below (s₁.setTop (mkF m 67 #[.val (.long q1), .second, .val (.long q2), .second, .val (.int p1), .val (.int (p1 &&& (3 : Int32))), .val (.long k), .second, .unset, .unset, .unset, .unset, .unset, .unset, .unset, .unset, .unset, .unset, .unset] [(.long q2), (.long k)])) _
    refine OGo.step (fun _ kk => X0.ldc2Long hx hown (mvT hZ (hw _ (List.mem_of_getElem? (i := 0) rfl))) (g := (mkF m 67 #[.val (.long q1), .second, .val (.long q2), .second, .val (.int p1), .val (.int (p1 &&& (3 : Int32))), .val (.long k), .second, .unset, .unset, .unset, .unset, .unset, .unset, .unset, .unset, .unset, .unset, .unset] [(.long q2), (.long k)])) rfl (hb hby at_67) _ kk) ?_
    show OGo p e below (s₁.setTop (mkF m 70 #[.val (.long q1), .second, .val (.long q2), .second, .val (.int p1), .val (.int (p1 &&& (3 : Int32))), .val (.long k), .second, .unset, .unset, .unset, .unset, .unset, .unset, .unset, .unset, .unset, .unset, .unset] [(.long (4294967295 : Int64)), (.long q2), (.long k)])) _
    refine OGo.step (fun _ kk => XS.land X0.here hx rfl (hb hby at_70) rfl kk) ?_
    show OGo p e below (s₁.setTop (mkF m 71 #[.val (.long q1), .second, .val (.long q2), .second, .val (.int p1), .val (.int (p1 &&& (3 : Int32))), .val (.long k), .second, .unset, .unset, .unset, .unset, .unset, .unset, .unset, .unset, .unset, .unset, .unset] [(.long (q2 &&& (4294967295 : Int64))), (.long k)])) _
    refine OGo.step (fun _ kk => XS.ladd X0.here hx rfl (hb hby at_71) rfl kk) ?_
    show OGo p e below (s₁.setTop (mkF m 72 #[.val (.long q1), .second, .val (.long q2), .second, .val (.int p1), .val (.int (p1 &&& (3 : Int32))), .val (.long k), .second, .unset, .unset, .unset, .unset, .unset, .unset, .unset, .unset, .unset, .unset, .unset] [(.long (k + (q2 &&& (4294967295 : Int64))))])) _
    have ea := own_add2 q2 h0k h1k
    have em := own_m0 q2
    obtain ⟨k2, hk2⟩ : ∃ z, z = (k + (q2 &&& (4294967295 : Int64))) := ⟨_, rfl⟩
    rw [← hk2] at ea
    rw [← hk2]
    show OGo p e below (s₁.setTop (mkF m 72 #[.val (.long q1), .second, .val (.long q2), .second, .val (.int p1), .val (.int (p1 &&& (3 : Int32))), .val (.long k), .second, .unset, .unset, .unset, .unset, .unset, .unset, .unset, .unset, .unset, .unset, .unset] [(.long k2)])) _
    have h0k2 : 0 ≤ k2.toInt := by omega
    have hle : k.toInt ≤ k2.toInt := by omega
    refine OGo.step (fun _ kk => XS.lstore X0.here hx rfl (hb hby at_72) rfl (l' := #[.val (.long q1), .second, .val (.long q2), .second, .val (.int p1), .val (.int (p1 &&& (3 : Int32))), .val (.long k), .second, .val (.long k2), .second, .unset, .unset, .unset, .unset, .unset, .unset, .unset, .unset, .unset]) rfl kk) ?_
    show OGo p e below (s₁.setTop (mkF m 74 #[.val (.long q1), .second, .val (.long q2), .second, .val (.int p1), .val (.int (p1 &&& (3 : Int32))), .val (.long k), .second, .val (.long k2), .second, .unset, .unset, .unset, .unset, .unset, .unset, .unset, .unset, .unset] [])) _
    refine OGo.step (fun _ kk => XS.lload X0.here hx rfl (hb hby at_74) rfl kk) ?_
    show OGo p e below (s₁.setTop (mkF m 76 #[.val (.long q1), .second, .val (.long q2), .second, .val (.int p1), .val (.int (p1 &&& (3 : Int32))), .val (.long k), .second, .val (.long k2), .second, .unset, .unset, .unset, .unset, .unset, .unset, .unset, .unset, .unset] [(.long k)])) _
    refine OGo.step (fun _ kk => XS.l2dS X0.here hx rfl (hb hby at_76) rfl rfl kk) ?_
    show OGo p e below (s₁.setTop (mkF m 77 #[.val (.long q1), .second, .val (.long q2), .second, .val (.int p1), .val (.int (p1 &&& (3 : Int32))), .val (.long k), .second, .val (.long k2), .second, .unset, .unset, .unset, .unset, .unset, .unset, .unset, .unset, .unset] [(.double (FP.l2d k))])) _
    refine OGo.step (fun _ kk => XS.dstore X0.here hx rfl (hb hby at_77) rfl (l' := #[.val (.long q1), .second, .val (.long q2), .second, .val (.int p1), .val (.int (p1 &&& (3 : Int32))), .val (.long k), .second, .val (.long k2), .second, .val (.double (FP.l2d k)), .second, .unset, .unset, .unset, .unset, .unset, .unset, .unset]) rfl kk) ?_
    show OGo p e below (s₁.setTop (mkF m 79 #[.val (.long q1), .second, .val (.long q2), .second, .val (.int p1), .val (.int (p1 &&& (3 : Int32))), .val (.long k), .second, .val (.long k2), .second, .val (.double (FP.l2d k)), .second, .unset, .unset, .unset, .unset, .unset, .unset, .unset] [])) _
    refine OGo.step (fun _ kk => XS.lload X0.here hx rfl (hb hby at_79) rfl kk) ?_
    show OGo p e below (s₁.setTop (mkF m 81 #[.val (.long q1), .second, .val (.long q2), .second, .val (.int p1), .val (.int (p1 &&& (3 : Int32))), .val (.long k), .second, .val (.long k2), .second, .val (.double (FP.l2d k)), .second, .unset, .unset, .unset, .unset, .unset, .unset, .unset] [(.long k2)])) _
    refine OGo.step (fun _ kk => XS.l2dS X0.here hx rfl (hb hby at_81) rfl rfl kk) ?_
    show OGo p e below (s₁.setTop (mkF m 82 #[.val (.long q1), .second, .val (.long q2), .second, .val (.int p1), .val (.int (p1 &&& (3 : Int32))), .val (.long k), .second, .val (.long k2), .second, .val (.double (FP.l2d k)), .second, .unset, .unset, .unset, .unset, .unset, .unset, .unset] [(.double (FP.l2d k2))])) _
    refine OGo.step (fun _ kk => XS.dstore X0.here hx rfl (hb hby at_82) rfl (l' := #[.val (.long q1), .second, .val (.long q2), .second, .val (.int p1), .val (.int (p1 &&& (3 : Int32))), .val (.long k), .second, .val (.long k2), .second, .val (.double (FP.l2d k)), .second, .val (.double (FP.l2d k2)), .second, .unset, .unset, .unset, .unset, .unset]) rfl kk) ?_
    show OGo p e below (s₁.setTop (mkF m 84 #[.val (.long q1), .second, .val (.long q2), .second, .val (.int p1), .val (.int (p1 &&& (3 : Int32))), .val (.long k), .second, .val (.long k2), .second, .val (.double (FP.l2d k)), .second, .val (.double (FP.l2d k2)), .second, .unset, .unset, .unset, .unset, .unset] [])) _
    refine OGo.step (fun _ kk => XS.dload X0.here hx rfl (hb hby at_84) rfl kk) ?_
    show OGo p e below (s₁.setTop (mkF m 86 #[.val (.long q1), .second, .val (.long q2), .second, .val (.int p1), .val (.int (p1 &&& (3 : Int32))), .val (.long k), .second, .val (.long k2), .second, .val (.double (FP.l2d k)), .second, .val (.double (FP.l2d k2)), .second, .unset, .unset, .unset, .unset, .unset] [(.double (FP.l2d k))])) _
    refine own_callS X0 hx hZ (y := (⟨"com/example/tokengauge/tokengauge/Lattice", "relativeError", "(D)D"⟩ : MethodName)) hown (hw _ (List.mem_of_getElem? (i := 1) rfl)) (hw _ (List.mem_of_getElem? (i := 2) rfl)) (hw _ (List.mem_of_getElem? (i := 3) rfl)) (hw _ (List.mem_of_getElem? (i := 4) rfl)) (by decide) (W := 0) (own_rel l Z a0 hw [] k h0 n0 Z0 h0k) e0  (pc := 86) (Ls := #[.val (.long q1), .second, .val (.long q2), .second, .val (.int p1), .val (.int (p1 &&& (3 : Int32))), .val (.long k), .second, .val (.long k2), .second, .val (.double (FP.l2d k)), .second, .val (.double (FP.l2d k2)), .second, .unset, .unset, .unset, .unset, .unset]) (argsL := [(.double (FP.l2d k))]) (rest := []) (by rw [hml]; rfl) (lenOf own_pd0 rfl) rfl (hb hby at_86) (by decide) (by decide) (by decide) (by decide) ?_
    intro v1 T1 L1 X1 hQ1
    obtain ⟨rfl, N1, e1⟩ := hQ1
    show OGo p e below (T1.setTop (mkF m 89 #[.val (.long q1), .second, .val (.long q2), .second, .val (.int p1), .val (.int (p1 &&& (3 : Int32))), .val (.long k), .second, .val (.long k2), .second, .val (.double (FP.l2d k)), .second, .val (.double (FP.l2d k2)), .second, .unset, .unset, .unset, .unset, .unset] [(.double (own_re k))])) _
    have Nc1 := Fr.app (Fr.nil n0) N1
    refine OGo.step (fun _ kk => XS.dstore X1.here hx rfl (hb hby at_89) rfl (l' := #[.val (.long q1), .second, .val (.long q2), .second, .val (.int p1), .val (.int (p1 &&& (3 : Int32))), .val (.long k), .second, .val (.long k2), .second, .val (.double (FP.l2d k)), .second, .val (.double (FP.l2d k2)), .second, .val (.double (own_re k)), .second, .unset, .unset, .unset]) rfl kk) ?_
    show OGo p e below (T1.setTop (mkF m 91 #[.val (.long q1), .second, .val (.long q2), .second, .val (.int p1), .val (.int (p1 &&& (3 : Int32))), .val (.long k), .second, .val (.long k2), .second, .val (.double (FP.l2d k)), .second, .val (.double (FP.l2d k2)), .second, .val (.double (own_re k)), .second, .unset, .unset, .unset] [])) _
    refine OGo.step (fun _ kk => XS.dload X1.here hx rfl (hb hby at_91) rfl kk) ?_
    show OGo p e below (T1.setTop (mkF m 93 #[.val (.long q1), .second, .val (.long q2), .second, .val (.int p1), .val (.int (p1 &&& (3 : Int32))), .val (.long k), .second, .val (.long k2), .second, .val (.double (FP.l2d k)), .second, .val (.double (FP.l2d k2)), .second, .val (.double (own_re k)), .second, .unset, .unset, .unset] [(.double (FP.l2d k2))])) _
    refine own_callS X1 hx hZ (y := (⟨"com/example/tokengauge/tokengauge/Lattice", "relativeError", "(D)D"⟩ : MethodName)) hown (hw _ (List.mem_of_getElem? (i := 1) rfl)) (hw _ (List.mem_of_getElem? (i := 2) rfl)) (hw _ (List.mem_of_getElem? (i := 3) rfl)) (hw _ (List.mem_of_getElem? (i := 4) rfl)) (by decide) (W := 0) (own_rel l Z a0 hw [] k2 h0 n0 Z0 h0k2) e1  (pc := 93) (Ls := #[.val (.long q1), .second, .val (.long q2), .second, .val (.int p1), .val (.int (p1 &&& (3 : Int32))), .val (.long k), .second, .val (.long k2), .second, .val (.double (FP.l2d k)), .second, .val (.double (FP.l2d k2)), .second, .val (.double (own_re k)), .second, .unset, .unset, .unset]) (argsL := [(.double (FP.l2d k2))]) (rest := []) (by rw [hml]; rfl) (lenOf own_pd0 rfl) rfl (hb hby at_93) (by decide) (by decide) (by decide) (by decide) ?_
    intro v2 T2 L2 X2 hQ2
    obtain ⟨rfl, N2, e2⟩ := hQ2
    show OGo p e below (T2.setTop (mkF m 96 #[.val (.long q1), .second, .val (.long q2), .second, .val (.int p1), .val (.int (p1 &&& (3 : Int32))), .val (.long k), .second, .val (.long k2), .second, .val (.double (FP.l2d k)), .second, .val (.double (FP.l2d k2)), .second, .val (.double (own_re k)), .second, .unset, .unset, .unset] [(.double (own_re k2))])) _
    have Nc2 := Fr.app Nc1 N2
    refine OGo.step (fun _ kk => XS.dstore X2.here hx rfl (hb hby at_96) rfl (l' := #[.val (.long q1), .second, .val (.long q2), .second, .val (.int p1), .val (.int (p1 &&& (3 : Int32))), .val (.long k), .second, .val (.long k2), .second, .val (.double (FP.l2d k)), .second, .val (.double (FP.l2d k2)), .second, .val (.double (own_re k)), .second, .val (.double (own_re k2)), .second, .unset]) rfl kk) ?_
    show OGo p e below (T2.setTop (mkF m 98 #[.val (.long q1), .second, .val (.long q2), .second, .val (.int p1), .val (.int (p1 &&& (3 : Int32))), .val (.long k), .second, .val (.long k2), .second, .val (.double (FP.l2d k)), .second, .val (.double (FP.l2d k2)), .second, .val (.double (own_re k)), .second, .val (.double (own_re k2)), .second, .unset] [])) _
    refine OGo.step (fun _ kk => XS.dload X2.here hx rfl (hb hby at_98) rfl kk) ?_
    show OGo p e below (T2.setTop (mkF m 100 #[.val (.long q1), .second, .val (.long q2), .second, .val (.int p1), .val (.int (p1 &&& (3 : Int32))), .val (.long k), .second, .val (.long k2), .second, .val (.double (FP.l2d k)), .second, .val (.double (FP.l2d k2)), .second, .val (.double (own_re k)), .second, .val (.double (own_re k2)), .second, .unset] [(.double (own_re k2))])) _
    refine OGo.step (fun _ kk => XS.dload X2.here hx rfl (hb hby at_100) rfl kk) ?_
    show OGo p e below (T2.setTop (mkF m 102 #[.val (.long q1), .second, .val (.long q2), .second, .val (.int p1), .val (.int (p1 &&& (3 : Int32))), .val (.long k), .second, .val (.long k2), .second, .val (.double (FP.l2d k)), .second, .val (.double (FP.l2d k2)), .second, .val (.double (own_re k)), .second, .val (.double (own_re k2)), .second, .unset] [(.double (own_re k)), (.double (own_re k2))])) _
    refine OGo.step (fun _ kk => XS.dcmpS X2.here hx rfl (hb hby at_102) rfl rfl kk) ?_
    show OGo p e below (T2.setTop (mkF m 103 #[.val (.long q1), .second, .val (.long q2), .second, .val (.int p1), .val (.int (p1 &&& (3 : Int32))), .val (.long k), .second, .val (.long k2), .second, .val (.double (FP.l2d k)), .second, .val (.double (FP.l2d k2)), .second, .val (.double (own_re k)), .second, .val (.double (own_re k2)), .second, .unset] [(.int (cmpValue (FP.dcmp (own_re k2) (own_re k)) .g))])) _
    refine OGo.step (fun _ kk => XS.ifNo X2.here hx rfl (hb hby at_103) rfl ((if0 _ _).trans (flt (own_nlt (own_reU h0k2) (own_reU h0k) (Nat.not_lt.mpr (own_uumono hle)))).1) kk) ?_
    show OGo p e below (T2.setTop (mkF m 106 #[.val (.long q1), .second, .val (.long q2), .second, .val (.int p1), .val (.int (p1 &&& (3 : Int32))), .val (.long k), .second, .val (.long k2), .second, .val (.double (FP.l2d k)), .second, .val (.double (FP.l2d k2)), .second, .val (.double (own_re k)), .second, .val (.double (own_re k2)), .second, .unset] [])) _
    refine OGo.step (fun _ kk => XS.dload X2.here hx rfl (hb hby at_106) rfl kk) ?_
    show OGo p e below (T2.setTop (mkF m 108 #[.val (.long q1), .second, .val (.long q2), .second, .val (.int p1), .val (.int (p1 &&& (3 : Int32))), .val (.long k), .second, .val (.long k2), .second, .val (.double (FP.l2d k)), .second, .val (.double (FP.l2d k2)), .second, .val (.double (own_re k)), .second, .val (.double (own_re k2)), .second, .unset] [(.double (own_re k))])) _
    refine OGo.step (fun _ kk => XS.dconst0 X2.here hx rfl (hb hby at_108) rfl kk) ?_
    show OGo p e below (T2.setTop (mkF m 109 #[.val (.long q1), .second, .val (.long q2), .second, .val (.int p1), .val (.int (p1 &&& (3 : Int32))), .val (.long k), .second, .val (.long k2), .second, .val (.double (FP.l2d k)), .second, .val (.double (FP.l2d k2)), .second, .val (.double (own_re k)), .second, .val (.double (own_re k2)), .second, .unset] [(.double FP.dconst0), (.double (own_re k))])) _
    refine OGo.step (fun _ kk => XS.dcmpS X2.here hx rfl (hb hby at_109) rfl rfl kk) ?_
    show OGo p e below (T2.setTop (mkF m 110 #[.val (.long q1), .second, .val (.long q2), .second, .val (.int p1), .val (.int (p1 &&& (3 : Int32))), .val (.long k), .second, .val (.long k2), .second, .val (.double (FP.l2d k)), .second, .val (.double (FP.l2d k2)), .second, .val (.double (own_re k)), .second, .val (.double (own_re k2)), .second, .unset] [(.int (cmpValue (FP.dcmp (own_re k) FP.dconst0) .g))])) _
    refine OGo.step (fun _ kk => XS.ifNo X2.here hx rfl (hb hby at_110) rfl ((if0 _ _).trans (flt (own_nlt (own_reU h0k) own_U0 (Nat.not_lt_zero _))).1) kk) ?_
    show OGo p e below (T2.setTop (mkF m 113 #[.val (.long q1), .second, .val (.long q2), .second, .val (.int p1), .val (.int (p1 &&& (3 : Int32))), .val (.long k), .second, .val (.long k2), .second, .val (.double (FP.l2d k)), .second, .val (.double (FP.l2d k2)), .second, .val (.double (own_re k)), .second, .val (.double (own_re k2)), .second, .unset] [])) _
    refine OGo.step (fun _ kk => XS.dconst1 X2.here hx rfl (hb hby at_113) rfl kk) ?_
    show OGo p e below (T2.setTop (mkF m 114 #[.val (.long q1), .second, .val (.long q2), .second, .val (.int p1), .val (.int (p1 &&& (3 : Int32))), .val (.long k), .second, .val (.long k2), .second, .val (.double (FP.l2d k)), .second, .val (.double (FP.l2d k2)), .second, .val (.double (own_re k)), .second, .val (.double (own_re k2)), .second, .unset] [(.double FP.dconst1)])) _
    refine OGo.step (fun _ kk => XS.dload X2.here hx rfl (hb hby at_114) rfl kk) ?_
    show OGo p e below (T2.setTop (mkF m 116 #[.val (.long q1), .second, .val (.long q2), .second, .val (.int p1), .val (.int (p1 &&& (3 : Int32))), .val (.long k), .second, .val (.long k2), .second, .val (.double (FP.l2d k)), .second, .val (.double (FP.l2d k2)), .second, .val (.double (own_re k)), .second, .val (.double (own_re k2)), .second, .unset] [(.double (own_re k2)), (.double FP.dconst1)])) _
    refine OGo.step (fun _ kk => XS.dcmpS X2.here hx rfl (hb hby at_116) rfl rfl kk) ?_
    show OGo p e below (T2.setTop (mkF m 117 #[.val (.long q1), .second, .val (.long q2), .second, .val (.int p1), .val (.int (p1 &&& (3 : Int32))), .val (.long k), .second, .val (.long k2), .second, .val (.double (FP.l2d k)), .second, .val (.double (FP.l2d k2)), .second, .val (.double (own_re k)), .second, .val (.double (own_re k2)), .second, .unset] [(.int (cmpValue (FP.dcmp FP.dconst1 (own_re k2)) .g))])) _
    refine OGo.step (fun _ kk => XS.ifNo X2.here hx rfl (hb hby at_117) rfl ((if0 _ _).trans (flt (own_nlt own_U1 (own_reU h0k2) (Nat.not_lt.mpr (own_uule _)))).1) kk) ?_
    show OGo p e below (T2.setTop (mkF m 120 #[.val (.long q1), .second, .val (.long q2), .second, .val (.int p1), .val (.int (p1 &&& (3 : Int32))), .val (.long k), .second, .val (.long k2), .second, .val (.double (FP.l2d k)), .second, .val (.double (FP.l2d k2)), .second, .val (.double (own_re k)), .second, .val (.double (own_re k2)), .second, .unset] [])) _
    refine OGo.step (fun _ kk => XS.iconst X2.here hx rfl (hb hby at_120) kk) ?_
    show OGo p e below (T2.setTop (mkF m 121 #[.val (.long q1), .second, .val (.long q2), .second, .val (.int p1), .val (.int (p1 &&& (3 : Int32))), .val (.long k), .second, .val (.long k2), .second, .val (.double (FP.l2d k)), .second, .val (.double (FP.l2d k2)), .second, .val (.double (own_re k)), .second, .val (.double (own_re k2)), .second, .unset] [(.int (1 : Int32))])) _
    refine OGo.step (fun _ kk => XS.goto X2.here hx rfl (pc0 := 121) (pc' := 125) rfl (hb hby at_121) (by decide) (by decide) kk) ?_
    show OGo p e below (T2.setTop (mkF m 125 #[.val (.long q1), .second, .val (.long q2), .second, .val (.int p1), .val (.int (p1 &&& (3 : Int32))), .val (.long k), .second, .val (.long k2), .second, .val (.double (FP.l2d k)), .second, .val (.double (FP.l2d k2)), .second, .val (.double (own_re k)), .second, .val (.double (own_re k2)), .second, .unset] [(.int (1 : Int32))])) _
    refine OGo.step (fun _ kk => XS.istore X2.here hx rfl (hb hby at_125) rfl (l' := #[.val (.long q1), .second, .val (.long q2), .second, .val (.int p1), .val (.int (p1 &&& (3 : Int32))), .val (.long k), .second, .val (.long k2), .second, .val (.double (FP.l2d k)), .second, .val (.double (FP.l2d k2)), .second, .val (.double (own_re k)), .second, .val (.double (own_re k2)), .second, .val (.int (1 : Int32))]) rfl kk) ?_
    show OGo p e below (T2.setTop (mkF m 127 #[.val (.long q1), .second, .val (.long q2), .second, .val (.int p1), .val (.int (p1 &&& (3 : Int32))), .val (.long k), .second, .val (.long k2), .second, .val (.double (FP.l2d k)), .second, .val (.double (FP.l2d k2)), .second, .val (.double (own_re k)), .second, .val (.double (own_re k2)), .second, .val (.int (1 : Int32))] [])) _
    refine OGo.step (fun _ kk => XS.iload X2.here hx rfl (hb hby at_127) rfl kk) ?_
    show OGo p e below (T2.setTop (mkF m 129 #[.val (.long q1), .second, .val (.long q2), .second, .val (.int p1), .val (.int (p1 &&& (3 : Int32))), .val (.long k), .second, .val (.long k2), .second, .val (.double (FP.l2d k)), .second, .val (.double (FP.l2d k2)), .second, .val (.double (own_re k)), .second, .val (.double (own_re k2)), .second, .val (.int (1 : Int32))] [(.int (1 : Int32))])) _
    refine OGo.step (fun _ kk => XS.ifNo X2.here hx rfl (hb hby at_129) rfl ((if0 _ _).trans (feq (by decide)).1) kk) ?_
    show OGo p e below (T2.setTop (mkF m 132 #[.val (.long q1), .second, .val (.long q2), .second, .val (.int p1), .val (.int (p1 &&& (3 : Int32))), .val (.long k), .second, .val (.long k2), .second, .val (.double (FP.l2d k)), .second, .val (.double (FP.l2d k2)), .second, .val (.double (own_re k)), .second, .val (.double (own_re k2)), .second, .val (.int (1 : Int32))] [])) _
    refine OGo.step (fun _ kk => XS.lload X2.here hx rfl (hb hby at_132) rfl kk) ?_
    show OGo p e below (T2.setTop (mkF m 134 #[.val (.long q1), .second, .val (.long q2), .second, .val (.int p1), .val (.int (p1 &&& (3 : Int32))), .val (.long k), .second, .val (.long k2), .second, .val (.double (FP.l2d k)), .second, .val (.double (FP.l2d k2)), .second, .val (.double (own_re k)), .second, .val (.double (own_re k2)), .second, .val (.int (1 : Int32))] [(.long k)])) _
    refine OGo.step (fun _ kk => XS.dload X2.here hx rfl (hb hby at_134) rfl kk) ?_
    show OGo p e below (T2.setTop (mkF m 136 #[.val (.long q1), .second, .val (.long q2), .second, .val (.int p1), .val (.int (p1 &&& (3 : Int32))), .val (.long k), .second, .val (.long k2), .second, .val (.double (FP.l2d k)), .second, .val (.double (FP.l2d k2)), .second, .val (.double (own_re k)), .second, .val (.double (own_re k2)), .second, .val (.int (1 : Int32))] [(.double (own_re k)), (.long k)])) _
    refine own_callS X2 hx hZ (y := (⟨"com/example/tokengauge/tokengauge/LatticeRelativeErrorPinLaw", "pinned", "(JD)Z"⟩ : MethodName)) hown (hw _ (List.mem_of_getElem? (i := 8) rfl)) (hw _ (List.mem_of_getElem? (i := 9) rfl)) (hw _ (List.mem_of_getElem? (i := 10) rfl)) (hw _ (List.mem_of_getElem? (i := 11) rfl)) (by decide) (W := 0) (own_pin l Z a0 hw [] k h0 n0 Z0 h0k) e2  (pc := 136) (Ls := #[.val (.long q1), .second, .val (.long q2), .second, .val (.int p1), .val (.int (p1 &&& (3 : Int32))), .val (.long k), .second, .val (.long k2), .second, .val (.double (FP.l2d k)), .second, .val (.double (FP.l2d k2)), .second, .val (.double (own_re k)), .second, .val (.double (own_re k2)), .second, .val (.int (1 : Int32))]) (argsL := [(.long k), (.double (own_re k))]) (rest := []) (by rw [hml]; rfl) (lenOf own_pd1 rfl) rfl (hb hby at_136) (by decide) (by decide) (by decide) (by decide) ?_
    intro v3 T3 L3 X3 hQ3
    obtain ⟨rfl, N3, e3⟩ := hQ3
    show OGo p e below (T3.setTop (mkF m 139 #[.val (.long q1), .second, .val (.long q2), .second, .val (.int p1), .val (.int (p1 &&& (3 : Int32))), .val (.long k), .second, .val (.long k2), .second, .val (.double (FP.l2d k)), .second, .val (.double (FP.l2d k2)), .second, .val (.double (own_re k)), .second, .val (.double (own_re k2)), .second, .val (.int (1 : Int32))] [(.int (1 : Int32))])) _
    have Nc3 := Fr.app Nc2 N3
    refine OGo.step (fun _ kk => XS.ifNo X3.here hx rfl (hb hby at_139) rfl ((if0 _ _).trans (feq (by decide)).1) kk) ?_
    show OGo p e below (T3.setTop (mkF m 142 #[.val (.long q1), .second, .val (.long q2), .second, .val (.int p1), .val (.int (p1 &&& (3 : Int32))), .val (.long k), .second, .val (.long k2), .second, .val (.double (FP.l2d k)), .second, .val (.double (FP.l2d k2)), .second, .val (.double (own_re k)), .second, .val (.double (own_re k2)), .second, .val (.int (1 : Int32))] [])) _
    refine OGo.step (fun _ kk => XS.lload X3.here hx rfl (hb hby at_142) rfl kk) ?_
    show OGo p e below (T3.setTop (mkF m 144 #[.val (.long q1), .second, .val (.long q2), .second, .val (.int p1), .val (.int (p1 &&& (3 : Int32))), .val (.long k), .second, .val (.long k2), .second, .val (.double (FP.l2d k)), .second, .val (.double (FP.l2d k2)), .second, .val (.double (own_re k)), .second, .val (.double (own_re k2)), .second, .val (.int (1 : Int32))] [(.long k2)])) _
    refine OGo.step (fun _ kk => XS.dload X3.here hx rfl (hb hby at_144) rfl kk) ?_
    show OGo p e below (T3.setTop (mkF m 146 #[.val (.long q1), .second, .val (.long q2), .second, .val (.int p1), .val (.int (p1 &&& (3 : Int32))), .val (.long k), .second, .val (.long k2), .second, .val (.double (FP.l2d k)), .second, .val (.double (FP.l2d k2)), .second, .val (.double (own_re k)), .second, .val (.double (own_re k2)), .second, .val (.int (1 : Int32))] [(.double (own_re k2)), (.long k2)])) _
    refine own_callS X3 hx hZ (y := (⟨"com/example/tokengauge/tokengauge/LatticeRelativeErrorPinLaw", "pinned", "(JD)Z"⟩ : MethodName)) hown (hw _ (List.mem_of_getElem? (i := 8) rfl)) (hw _ (List.mem_of_getElem? (i := 9) rfl)) (hw _ (List.mem_of_getElem? (i := 10) rfl)) (hw _ (List.mem_of_getElem? (i := 11) rfl)) (by decide) (W := 0) (own_pin l Z a0 hw [] k2 h0 n0 Z0 h0k2) e3  (pc := 146) (Ls := #[.val (.long q1), .second, .val (.long q2), .second, .val (.int p1), .val (.int (p1 &&& (3 : Int32))), .val (.long k), .second, .val (.long k2), .second, .val (.double (FP.l2d k)), .second, .val (.double (FP.l2d k2)), .second, .val (.double (own_re k)), .second, .val (.double (own_re k2)), .second, .val (.int (1 : Int32))]) (argsL := [(.long k2), (.double (own_re k2))]) (rest := []) (by rw [hml]; rfl) (lenOf own_pd1 rfl) rfl (hb hby at_146) (by decide) (by decide) (by decide) (by decide) ?_
    intro v4 T4 L4 X4 hQ4
    obtain ⟨rfl, N4, e4⟩ := hQ4
    show OGo p e below (T4.setTop (mkF m 149 #[.val (.long q1), .second, .val (.long q2), .second, .val (.int p1), .val (.int (p1 &&& (3 : Int32))), .val (.long k), .second, .val (.long k2), .second, .val (.double (FP.l2d k)), .second, .val (.double (FP.l2d k2)), .second, .val (.double (own_re k)), .second, .val (.double (own_re k2)), .second, .val (.int (1 : Int32))] [(.int (1 : Int32))])) _
    have Nc4 := Fr.app Nc3 N4
    refine OGo.step (fun _ kk => XS.ifNo X4.here hx rfl (hb hby at_149) rfl ((if0 _ _).trans (feq (by decide)).1) kk) ?_
    show OGo p e below (T4.setTop (mkF m 152 #[.val (.long q1), .second, .val (.long q2), .second, .val (.int p1), .val (.int (p1 &&& (3 : Int32))), .val (.long k), .second, .val (.long k2), .second, .val (.double (FP.l2d k)), .second, .val (.double (FP.l2d k2)), .second, .val (.double (own_re k)), .second, .val (.double (own_re k2)), .second, .val (.int (1 : Int32))] [])) _
    refine OGo.step (fun _ kk => XS.iconst X4.here hx rfl (hb hby at_152) kk) ?_
    show OGo p e below (T4.setTop (mkF m 153 #[.val (.long q1), .second, .val (.long q2), .second, .val (.int p1), .val (.int (p1 &&& (3 : Int32))), .val (.long k), .second, .val (.long k2), .second, .val (.double (FP.l2d k)), .second, .val (.double (FP.l2d k2)), .second, .val (.double (own_re k)), .second, .val (.double (own_re k2)), .second, .val (.int (1 : Int32))] [(.int (1 : Int32))])) _
    refine OGo.step (fun _ kk => XS.goto X4.here hx rfl (pc0 := 153) (pc' := 157) rfl (hb hby at_153) (by decide) (by decide) kk) ?_
    show OGo p e below (T4.setTop (mkF m 157 #[.val (.long q1), .second, .val (.long q2), .second, .val (.int p1), .val (.int (p1 &&& (3 : Int32))), .val (.long k), .second, .val (.long k2), .second, .val (.double (FP.l2d k)), .second, .val (.double (FP.l2d k2)), .second, .val (.double (own_re k)), .second, .val (.double (own_re k2)), .second, .val (.int (1 : Int32))] [(.int (1 : Int32))])) _
    exact own_retN X4 hx hlk hret (by simp) (hb hby at_157) ⟨by rw [own_nar1], Nc4⟩ (by decide) (by decide)
  by_cases g0 : (p1 &&& (3 : Int32)) = (0 : Int32)
  · refine OGo.step (fun _ kk => XS.ifNo X0.here hx rfl (hb hby at_8) rfl ((if0 _ _).trans (teq g0).2) kk) ?_
    show OGo p e below (s₁.setTop (mkF m 11 #[.val (.long q1), .second, .val (.long q2), .second, .val (.int p1), .val (.int (p1 &&& (3 : Int32))), .unset, .unset, .unset, .unset, .unset, .unset, .unset, .unset, .unset, .unset, .unset, .unset, .unset] [])) _
    refine OGo.step (fun _ kk => XS.lloadN X0.here hx rfl (hb hby at_11) rfl kk) ?_
    show OGo p e below (s₁.setTop (mkF m 12 #[.val (.long q1), .second, .val (.long q2), .second, .val (.int p1), .val (.int (p1 &&& (3 : Int32))), .unset, .unset, .unset, .unset, .unset, .unset, .unset, .unset, .unset, .unset, .unset, .unset, .unset] [(.long q1)])) _
    refine OGo.step (fun _ kk => X0.ldc2Long hx hown (mvT hZ (hw _ (List.mem_of_getElem? (i := 0) rfl))) (g := (mkF m 12 #[.val (.long q1), .second, .val (.long q2), .second, .val (.int p1), .val (.int (p1 &&& (3 : Int32))), .unset, .unset, .unset, .unset, .unset, .unset, .unset, .unset, .unset, .unset, .unset, .unset, .unset] [(.long q1)])) rfl (hb hby at_12) _ kk) ?_
    show OGo p e below (s₁.setTop (mkF m 15 #[.val (.long q1), .second, .val (.long q2), .second, .val (.int p1), .val (.int (p1 &&& (3 : Int32))), .unset, .unset, .unset, .unset, .unset, .unset, .unset, .unset, .unset, .unset, .unset, .unset, .unset] [(.long (4294967295 : Int64)), (.long q1)])) _
    refine OGo.step (fun _ kk => XS.land X0.here hx rfl (hb hby at_15) rfl kk) ?_
    show OGo p e below (s₁.setTop (mkF m 16 #[.val (.long q1), .second, .val (.long q2), .second, .val (.int p1), .val (.int (p1 &&& (3 : Int32))), .unset, .unset, .unset, .unset, .unset, .unset, .unset, .unset, .unset, .unset, .unset, .unset, .unset] [(.long (q1 &&& (4294967295 : Int64)))])) _
    refine OGo.step (fun _ kk => XS.lstore X0.here hx rfl (hb hby at_16) rfl (l' := #[.val (.long q1), .second, .val (.long q2), .second, .val (.int p1), .val (.int (p1 &&& (3 : Int32))), .val (.long (q1 &&& (4294967295 : Int64))), .second, .unset, .unset, .unset, .unset, .unset, .unset, .unset, .unset, .unset, .unset, .unset]) rfl kk) ?_
    show OGo p e below (s₁.setTop (mkF m 18 #[.val (.long q1), .second, .val (.long q2), .second, .val (.int p1), .val (.int (p1 &&& (3 : Int32))), .val (.long (q1 &&& (4294967295 : Int64))), .second, .unset, .unset, .unset, .unset, .unset, .unset, .unset, .unset, .unset, .unset, .unset] [])) _
    refine OGo.step (fun _ kk => XS.goto X0.here hx rfl (pc0 := 18) (pc' := 64) rfl (hb hby at_18) (by decide) (by decide) kk) ?_
    show OGo p e below (s₁.setTop (mkF m 64 #[.val (.long q1), .second, .val (.long q2), .second, .val (.int p1), .val (.int (p1 &&& (3 : Int32))), .val (.long (q1 &&& (4294967295 : Int64))), .second, .unset, .unset, .unset, .unset, .unset, .unset, .unset, .unset, .unset, .unset, .unset] [])) _
    exact K64 _ (own_m0 _).1 (Int.lt_trans (own_m0 _).2 (by decide))
  · refine OGo.step (fun _ kk => XS.ifYes X0.here hx rfl (pc0 := 8) (pc' := 21) rfl (hb hby at_8) rfl ((if0 _ _).trans (feq g0).2) (by decide) (by decide) kk) ?_
    show OGo p e below (s₁.setTop (mkF m 21 #[.val (.long q1), .second, .val (.long q2), .second, .val (.int p1), .val (.int (p1 &&& (3 : Int32))), .unset, .unset, .unset, .unset, .unset, .unset, .unset, .unset, .unset, .unset, .unset, .unset, .unset] [])) _
    refine OGo.step (fun _ kk => XS.iload X0.here hx rfl (hb hby at_21) rfl kk) ?_
    show OGo p e below (s₁.setTop (mkF m 23 #[.val (.long q1), .second, .val (.long q2), .second, .val (.int p1), .val (.int (p1 &&& (3 : Int32))), .unset, .unset, .unset, .unset, .unset, .unset, .unset, .unset, .unset, .unset, .unset, .unset, .unset] [(.int (p1 &&& (3 : Int32)))])) _
    refine OGo.step (fun _ kk => XS.iconst X0.here hx rfl (hb hby at_23) kk) ?_
    show OGo p e below (s₁.setTop (mkF m 24 #[.val (.long q1), .second, .val (.long q2), .second, .val (.int p1), .val (.int (p1 &&& (3 : Int32))), .unset, .unset, .unset, .unset, .unset, .unset, .unset, .unset, .unset, .unset, .unset, .unset, .unset] [(.int (1 : Int32)), (.int (p1 &&& (3 : Int32)))])) _
    by_cases g1 : (p1 &&& (3 : Int32)) = (1 : Int32)
    · refine OGo.step (fun _ kk => XS.icmpNo X0.here hx rfl (hb hby at_24) rfl (teq g1).2 kk) ?_
      show OGo p e below (s₁.setTop (mkF m 27 #[.val (.long q1), .second, .val (.long q2), .second, .val (.int p1), .val (.int (p1 &&& (3 : Int32))), .unset, .unset, .unset, .unset, .unset, .unset, .unset, .unset, .unset, .unset, .unset, .unset, .unset] [])) _
      refine OGo.step (fun _ kk => X0.ldc2Long hx hown (mvT hZ (hw _ (List.mem_of_getElem? (i := 12) rfl))) (g := (mkF m 27 #[.val (.long q1), .second, .val (.long q2), .second, .val (.int p1), .val (.int (p1 &&& (3 : Int32))), .unset, .unset, .unset, .unset, .unset, .unset, .unset, .unset, .unset, .unset, .unset, .unset, .unset] [])) rfl (hb hby at_27) _ kk) ?_
      show OGo p e below (s₁.setTop (mkF m 30 #[.val (.long q1), .second, .val (.long q2), .second, .val (.int p1), .val (.int (p1 &&& (3 : Int32))), .unset, .unset, .unset, .unset, .unset, .unset, .unset, .unset, .unset, .unset, .unset, .unset, .unset] [(.long (4503599627370496 : Int64))])) _
      refine OGo.step (fun _ kk => XS.lloadN X0.here hx rfl (hb hby at_30) rfl kk) ?_
      show OGo p e below (s₁.setTop (mkF m 31 #[.val (.long q1), .second, .val (.long q2), .second, .val (.int p1), .val (.int (p1 &&& (3 : Int32))), .unset, .unset, .unset, .unset, .unset, .unset, .unset, .unset, .unset, .unset, .unset, .unset, .unset] [(.long q1), (.long (4503599627370496 : Int64))])) _
      refine OGo.step (fun _ kk => X0.ldc2Long hx hown (mvT hZ (hw _ (List.mem_of_getElem? (i := 16) rfl))) (g := (mkF m 31 #[.val (.long q1), .second, .val (.long q2), .second, .val (.int p1), .val (.int (p1 &&& (3 : Int32))), .unset, .unset, .unset, .unset, .unset, .unset, .unset, .unset, .unset, .unset, .unset, .unset, .unset] [(.long q1), (.long (4503599627370496 : Int64))])) rfl (hb hby at_31) _ kk) ?_
      show OGo p e below (s₁.setTop (mkF m 34 #[.val (.long q1), .second, .val (.long q2), .second, .val (.int p1), .val (.int (p1 &&& (3 : Int32))), .unset, .unset, .unset, .unset, .unset, .unset, .unset, .unset, .unset, .unset, .unset, .unset, .unset] [(.long (4294967296 : Int64)), (.long q1), (.long (4503599627370496 : Int64))])) _
      refine OGo.step (fun _ kk => XS.lrem X0.here hx rfl (hb hby at_34) rfl (by decide) kk) ?_
      show OGo p e below (s₁.setTop (mkF m 35 #[.val (.long q1), .second, .val (.long q2), .second, .val (.int p1), .val (.int (p1 &&& (3 : Int32))), .unset, .unset, .unset, .unset, .unset, .unset, .unset, .unset, .unset, .unset, .unset, .unset, .unset] [(.long (q1 - (q1 / (4294967296 : Int64)) * (4294967296 : Int64))), (.long (4503599627370496 : Int64))])) _
      refine OGo.step (fun _ kk => XS.ladd X0.here hx rfl (hb hby at_35) rfl kk) ?_
      show OGo p e below (s₁.setTop (mkF m 36 #[.val (.long q1), .second, .val (.long q2), .second, .val (.int p1), .val (.int (p1 &&& (3 : Int32))), .unset, .unset, .unset, .unset, .unset, .unset, .unset, .unset, .unset, .unset, .unset, .unset, .unset] [(.long ((4503599627370496 : Int64) + (q1 - (q1 / (4294967296 : Int64)) * (4294967296 : Int64))))])) _
      refine OGo.step (fun _ kk => XS.lstore X0.here hx rfl (hb hby at_36) rfl (l' := #[.val (.long q1), .second, .val (.long q2), .second, .val (.int p1), .val (.int (p1 &&& (3 : Int32))), .val (.long ((4503599627370496 : Int64) + (q1 - (q1 / (4294967296 : Int64)) * (4294967296 : Int64)))), .second, .unset, .unset, .unset, .unset, .unset, .unset, .unset, .unset, .unset, .unset, .unset]) rfl kk) ?_
      show OGo p e below (s₁.setTop (mkF m 38 #[.val (.long q1), .second, .val (.long q2), .second, .val (.int p1), .val (.int (p1 &&& (3 : Int32))), .val (.long ((4503599627370496 : Int64) + (q1 - (q1 / (4294967296 : Int64)) * (4294967296 : Int64)))), .second, .unset, .unset, .unset, .unset, .unset, .unset, .unset, .unset, .unset, .unset, .unset] [])) _
      refine OGo.step (fun _ kk => XS.goto X0.here hx rfl (pc0 := 38) (pc' := 64) rfl (hb hby at_38) (by decide) (by decide) kk) ?_
      show OGo p e below (s₁.setTop (mkF m 64 #[.val (.long q1), .second, .val (.long q2), .second, .val (.int p1), .val (.int (p1 &&& (3 : Int32))), .val (.long ((4503599627370496 : Int64) + (q1 - (q1 / (4294967296 : Int64)) * (4294967296 : Int64)))), .second, .unset, .unset, .unset, .unset, .unset, .unset, .unset, .unset, .unset, .unset, .unset] [])) _
      exact K64 _ (own_m1 _).1 (own_m1 _).2
    · refine OGo.step (fun _ kk => XS.icmpYes X0.here hx rfl (pc0 := 24) (pc' := 41) rfl (hb hby at_24) rfl (feq g1).2 (by decide) (by decide) kk) ?_
      show OGo p e below (s₁.setTop (mkF m 41 #[.val (.long q1), .second, .val (.long q2), .second, .val (.int p1), .val (.int (p1 &&& (3 : Int32))), .unset, .unset, .unset, .unset, .unset, .unset, .unset, .unset, .unset, .unset, .unset, .unset, .unset] [])) _
      refine OGo.step (fun _ kk => XS.iload X0.here hx rfl (hb hby at_41) rfl kk) ?_
      show OGo p e below (s₁.setTop (mkF m 43 #[.val (.long q1), .second, .val (.long q2), .second, .val (.int p1), .val (.int (p1 &&& (3 : Int32))), .unset, .unset, .unset, .unset, .unset, .unset, .unset, .unset, .unset, .unset, .unset, .unset, .unset] [(.int (p1 &&& (3 : Int32)))])) _
      refine OGo.step (fun _ kk => XS.iconst X0.here hx rfl (hb hby at_43) kk) ?_
      show OGo p e below (s₁.setTop (mkF m 44 #[.val (.long q1), .second, .val (.long q2), .second, .val (.int p1), .val (.int (p1 &&& (3 : Int32))), .unset, .unset, .unset, .unset, .unset, .unset, .unset, .unset, .unset, .unset, .unset, .unset, .unset] [(.int (2 : Int32)), (.int (p1 &&& (3 : Int32)))])) _
      by_cases g2 : (p1 &&& (3 : Int32)) = (2 : Int32)
      · refine OGo.step (fun _ kk => XS.icmpNo X0.here hx rfl (hb hby at_44) rfl (teq g2).2 kk) ?_
        show OGo p e below (s₁.setTop (mkF m 47 #[.val (.long q1), .second, .val (.long q2), .second, .val (.int p1), .val (.int (p1 &&& (3 : Int32))), .unset, .unset, .unset, .unset, .unset, .unset, .unset, .unset, .unset, .unset, .unset, .unset, .unset] [])) _
        refine OGo.step (fun _ kk => XS.lloadN X0.here hx rfl (hb hby at_47) rfl kk) ?_
        show OGo p e below (s₁.setTop (mkF m 48 #[.val (.long q1), .second, .val (.long q2), .second, .val (.int p1), .val (.int (p1 &&& (3 : Int32))), .unset, .unset, .unset, .unset, .unset, .unset, .unset, .unset, .unset, .unset, .unset, .unset, .unset] [(.long q1)])) _
        refine OGo.step (fun _ kk => X0.ldc2Long hx hown (mvT hZ (hw _ (List.mem_of_getElem? (i := 17) rfl))) (g := (mkF m 48 #[.val (.long q1), .second, .val (.long q2), .second, .val (.int p1), .val (.int (p1 &&& (3 : Int32))), .unset, .unset, .unset, .unset, .unset, .unset, .unset, .unset, .unset, .unset, .unset, .unset, .unset] [(.long q1)])) rfl (hb hby at_48) _ kk) ?_
        show OGo p e below (s₁.setTop (mkF m 51 #[.val (.long q1), .second, .val (.long q2), .second, .val (.int p1), .val (.int (p1 &&& (3 : Int32))), .unset, .unset, .unset, .unset, .unset, .unset, .unset, .unset, .unset, .unset, .unset, .unset, .unset] [(.long (18014398509481983 : Int64)), (.long q1)])) _
        refine OGo.step (fun _ kk => XS.land X0.here hx rfl (hb hby at_51) rfl kk) ?_
        show OGo p e below (s₁.setTop (mkF m 52 #[.val (.long q1), .second, .val (.long q2), .second, .val (.int p1), .val (.int (p1 &&& (3 : Int32))), .unset, .unset, .unset, .unset, .unset, .unset, .unset, .unset, .unset, .unset, .unset, .unset, .unset] [(.long (q1 &&& (18014398509481983 : Int64)))])) _
        refine OGo.step (fun _ kk => XS.lstore X0.here hx rfl (hb hby at_52) rfl (l' := #[.val (.long q1), .second, .val (.long q2), .second, .val (.int p1), .val (.int (p1 &&& (3 : Int32))), .val (.long (q1 &&& (18014398509481983 : Int64))), .second, .unset, .unset, .unset, .unset, .unset, .unset, .unset, .unset, .unset, .unset, .unset]) rfl kk) ?_
        show OGo p e below (s₁.setTop (mkF m 54 #[.val (.long q1), .second, .val (.long q2), .second, .val (.int p1), .val (.int (p1 &&& (3 : Int32))), .val (.long (q1 &&& (18014398509481983 : Int64))), .second, .unset, .unset, .unset, .unset, .unset, .unset, .unset, .unset, .unset, .unset, .unset] [])) _
        refine OGo.step (fun _ kk => XS.goto X0.here hx rfl (pc0 := 54) (pc' := 64) rfl (hb hby at_54) (by decide) (by decide) kk) ?_
        show OGo p e below (s₁.setTop (mkF m 64 #[.val (.long q1), .second, .val (.long q2), .second, .val (.int p1), .val (.int (p1 &&& (3 : Int32))), .val (.long (q1 &&& (18014398509481983 : Int64))), .second, .unset, .unset, .unset, .unset, .unset, .unset, .unset, .unset, .unset, .unset, .unset] [])) _
        exact K64 _ (own_m2 _).1 (own_m2 _).2
      · refine OGo.step (fun _ kk => XS.icmpYes X0.here hx rfl (pc0 := 44) (pc' := 57) rfl (hb hby at_44) rfl (feq g2).2 (by decide) (by decide) kk) ?_
        show OGo p e below (s₁.setTop (mkF m 57 #[.val (.long q1), .second, .val (.long q2), .second, .val (.int p1), .val (.int (p1 &&& (3 : Int32))), .unset, .unset, .unset, .unset, .unset, .unset, .unset, .unset, .unset, .unset, .unset, .unset, .unset] [])) _
        refine OGo.step (fun _ kk => XS.lloadN X0.here hx rfl (hb hby at_57) rfl kk) ?_
        show OGo p e below (s₁.setTop (mkF m 58 #[.val (.long q1), .second, .val (.long q2), .second, .val (.int p1), .val (.int (p1 &&& (3 : Int32))), .unset, .unset, .unset, .unset, .unset, .unset, .unset, .unset, .unset, .unset, .unset, .unset, .unset] [(.long q1)])) _
        refine OGo.step (fun _ kk => X0.ldc2Long hx hown (mvT hZ (hw _ (List.mem_of_getElem? (i := 15) rfl))) (g := (mkF m 58 #[.val (.long q1), .second, .val (.long q2), .second, .val (.int p1), .val (.int (p1 &&& (3 : Int32))), .unset, .unset, .unset, .unset, .unset, .unset, .unset, .unset, .unset, .unset, .unset, .unset, .unset] [(.long q1)])) rfl (hb hby at_58) _ kk) ?_
        show OGo p e below (s₁.setTop (mkF m 61 #[.val (.long q1), .second, .val (.long q2), .second, .val (.int p1), .val (.int (p1 &&& (3 : Int32))), .unset, .unset, .unset, .unset, .unset, .unset, .unset, .unset, .unset, .unset, .unset, .unset, .unset] [(.long (255 : Int64)), (.long q1)])) _
        refine OGo.step (fun _ kk => XS.land X0.here hx rfl (hb hby at_61) rfl kk) ?_
        show OGo p e below (s₁.setTop (mkF m 62 #[.val (.long q1), .second, .val (.long q2), .second, .val (.int p1), .val (.int (p1 &&& (3 : Int32))), .unset, .unset, .unset, .unset, .unset, .unset, .unset, .unset, .unset, .unset, .unset, .unset, .unset] [(.long (q1 &&& (255 : Int64)))])) _
        refine OGo.step (fun _ kk => XS.lstore X0.here hx rfl (hb hby at_62) rfl (l' := #[.val (.long q1), .second, .val (.long q2), .second, .val (.int p1), .val (.int (p1 &&& (3 : Int32))), .val (.long (q1 &&& (255 : Int64))), .second, .unset, .unset, .unset, .unset, .unset, .unset, .unset, .unset, .unset, .unset, .unset]) rfl kk) ?_
        show OGo p e below (s₁.setTop (mkF m 64 #[.val (.long q1), .second, .val (.long q2), .second, .val (.int p1), .val (.int (p1 &&& (3 : Int32))), .val (.long (q1 &&& (255 : Int64))), .second, .unset, .unset, .unset, .unset, .unset, .unset, .unset, .unset, .unset, .unset, .unset] [])) _
        exact K64 _ (own_m3 _).1 (Int.lt_trans (own_m3 _).2 (by decide))

set_option maxRecDepth 65536 in
set_option maxHeartbeats 40000000 in
theorem comes_1 {Post : Tables → Env → Array Value → State → Outcome → State → Prop} (hpost : ∀ tb e args s v u, (limb_1_1.after args s (.returned v) u = true ∧ limb_1_2.after args s (.returned v) u = true ∧ True) → FrameEnd s (.returned v) u (Jvm.fieldLocs frame_1_writes args s ++ Jvm.arrayLocs frame_1_arrays args s ++ Jvm.staticLocs frame_1_statics s) 0 0 → Post tb e args s (.returned v) u) :
    ArmFor flags0 classFile x code maxLocals ret World_1 tables_1 room_1 Calls_1 rest_1 Pre_1 Post := by
  intro l hfl _ _ p e ha hc hk s m args below hf hA hF happ hP
  obtain ⟨hcalls, hrest, hpre⟩ := hP
  obtain ⟨-, -, -, hnamed, -, -, -, hat⟩ := (Spec.applies_iff hf).mp happ
  obtain ⟨hg, hn⟩ := and_e (Cond.before_iff.mp (show (Jvm.Cond.and given_1 narrow_1).before args s = true from hpre))
  obtain ⟨k5, k5'⟩ := and_e hg
  obtain ⟨k6, k6'⟩ := and_e k5'
  obtain ⟨k7, k7'⟩ := and_e k6'
  obtain ⟨w0_, w1_, w2_, rfl⟩ : ∃ w0_ w1_ w2_ : Value, args = #[w0_, w1_, w2_] := by
    have hs : args.size = 3 := by simpa [Cond.value, given_1] using k5
    obtain ⟨L⟩ := args
    match L, hs with
    | [w0_, w1_, w2_], _ => exact ⟨w0_, w1_, w2_, rfl⟩
  have hw := fun d (hd : d ∈ tables_1) => atoms_spec (ws := Jvm.Cond.code x code maxLocals ret :: tables_1) hat d (List.mem_cons_of_mem _ hd)
  have hfit : Fit s := fun {y c} hc i hi => by
    obtain ⟨ha, rfl⟩ := Array.getElem?_eq_some_iff.mp hc
    have q := List.all_eq_true.mp ((Array.all_eq_true_iff_forall_mem.mp hF) _ (Array.getElem_mem ha)) i (List.mem_range.mpr hi)
    simpa [Array.getElem?_eq_getElem hi] using q
  obtain ⟨i0, ei0⟩ := isL_v k6
  obtain rfl : w0_ = (.long i0) := Option.some.inj ei0
  obtain ⟨i1, ei1⟩ := isL_v k7
  obtain rfl : w1_ = (.long i1) := Option.some.inj ei1
  obtain ⟨i2, ei2⟩ := is_v k7'
  obtain rfl : w2_ = (.int i2) := Option.some.inj ei2
  obtain ⟨n, o, h1, h2, h3, _, L, rfl, ⟨rfl, N⟩, hq⟩ := own_rm0 l s _ hw tables_1 i0 i1 i2  s.heap s.heap.size (Nat.le_refl _)  p e ha hc hk s m _ below hf ((Spec.applies_iff_loose hf).mp happ).1 ⟨rfl, State.Warmed39.refl s, rfl⟩ trivial
  exact ⟨n, _, h1, h2, h3, hpost _ _ _ _ _ _ ⟨Cond.after_iff.mpr rfl, Cond.after_iff.mpr (eq_i res_at (Term.int_eval (1)) rfl), trivial⟩ ⟨hq.1, hq.2.1, (hq.2.2.sift fun y hy => Or.inr (N y hy)).mono (by decide) (by decide)⟩⟩
theorem main_1_1 : Claimed_1_1 := comes_1 fun _ _ _ _ _ _ h hF => ⟨h.1, hF⟩
theorem main_1_2 : Claimed_1_2 := comes_1 fun _ _ _ _ _ _ h hF => ⟨h.2.1, hF⟩
end Jvm.Pilot.@@N@@
namespace Jvm.Pilot.@@N@@
open Jvm Jvm.ClassFile Sem Op Lib Jvm.Free Jvm.Stand Jvm.Pilot.@@N@@.Jvm.D
/-! MADE BY PROGRAM (witnessworld.py) out of the Statement's table words and the real class files: 9 classes; the members and pool entries that the words name. The judged class is class 1, her method 1. -/
namespace start1
open Jvm.ClassFile
def u (s : String) : CpInfo := .utf8 (stringToUtf16 s)
/-- a pool by its gaps: so many unusable entries, then the entry; so many at the end -/
def gap : Nat → List CpInfo → List CpInfo
  | 0, r => r
  | n + 1, r => .unusable :: gap n r
def poolList (es : List (Nat × CpInfo)) (last : Nat) : List CpInfo := es.foldr (fun e r => gap e.1 (e.2 :: r)) (gap last [])
def pool (es : List (Nat × CpInfo)) (last : Nat) : Array CpInfo := ⟨poolList es last⟩
def fileOf (pool : Array CpInfo) (this : Nat) (attrs : Array Attribute := #[]) (ms : Array MethodInfo := #[]) (fl : Nat := 33) (sup : Nat := 0) (ifs : Array Nat := #[]) (fds : Array FieldInfo := #[]) : ClassFile where
  minorVersion := 0
  majorVersion := 65
  constantPool := pool
  accessFlags := fl
  thisClass := this
  superClass := sup
  interfaces := ifs
  fields := fds
  methods := ms
  attributes := attrs
def plain (name : String) (sup : Option ClassId) : Class where
  name := name
  kind := .ordinary
  loader := none
  accessFlags := 33
  super := sup
  interfaces := #[]
  cf := none
  fields := #[]
  methods := #[]
  instanceTypes := #[]
  staticTypes := #[]
  resolved := #[]
  callSites := []
  init := .initialized
  statics := none
  mirror := none

def pool0 : Array CpInfo := pool [(5, u "<init>"), (0, u "()V"), (1, .class_ 10), (1, u "java/lang/Object")] 113

def k0m0 : Method := { name := "<init>", desc := "()V", sig := { parameters := [], returnType := none }, accessFlags := 1, code := none }
/-- java/lang/Object -/
def k0 : Class := { plain "java/lang/Object" none with
  accessFlags := 33
  interfaces := #[]
  cf := some (fileOf pool0 8 #[] #[{ accessFlags := 1, nameIndex := 5, descriptorIndex := 6, attributes := #[] }] 33 0 #[] #[])
  fields := #[]
  methods := #[k0m0]
  instanceTypes := #[]
  staticTypes := #[]
  resolved := Array.replicate 124 none
  statics := none }

def pool1 : Array CpInfo := pool [(2, .class_ 4), (1, u "java/lang/Object"), (0, u "<init>"), (0, u "()V"), (0, .long 4294967295), (1, .long 4503599627370496), (1, .long 4294967296), (1, .long 18014398509481983), (1, .long 255), (1, .methodref 18 19), (0, .class_ 20), (0, .nameAndType 21 22), (0, u "com/example/tokengauge/tokengauge/Lattice"), (0, u "relativeError"), (0, u "(D)D"), (0, .methodref 24 25), (0, .class_ 26), (0, .nameAndType 27 28), (0, u "com/example/tokengauge/tokengauge/LatticeRelativeErrorPinLaw"), (0, u "pinned"), (0, u "(JD)Z"), (0, .double 4368491638549381120), (1, .double 4607182418800017412), (3, u "law"), (0, u "(JJI)Z")] 3

def k1m0 : Method := { name := "<init>", desc := "()V", sig := { parameters := [], returnType := none }, accessFlags := 1, code := none }
def k1c1 : Code := { maxStack := 6, maxLocals := 19, code := code, exceptionTable := #[], attributes := #[] }
def k1m1 : Method := { name := "law", desc := "(JJI)Z", sig := { parameters := [.long, .long, .int], returnType := some .boolean }, accessFlags := 9, code := some k1c1 }
def k1c2 : Code := { maxStack := 6, maxLocals := 8, code := method_3_code, exceptionTable := #[], attributes := #[] }
def k1m2 : Method := { name := "pinned", desc := "(JD)Z", sig := { parameters := [.long, .double], returnType := some .boolean }, accessFlags := 10, code := some k1c2 }
/-- com/example/tokengauge/tokengauge/LatticeRelativeErrorPinLaw -/
def k1 : Class := { plain "com/example/tokengauge/tokengauge/LatticeRelativeErrorPinLaw" (some 0) with
  accessFlags := 49
  interfaces := #[]
  cf := some (fileOf pool1 24 #[] #[{ accessFlags := 1, nameIndex := 5, descriptorIndex := 6, attributes := #[] }, { accessFlags := 9, nameIndex := 35, descriptorIndex := 36, attributes := #[] }, { accessFlags := 10, nameIndex := 27, descriptorIndex := 28, attributes := #[] }] 49 2 #[] #[])
  fields := #[]
  methods := #[k1m0, k1m1, k1m2]
  instanceTypes := #[]
  staticTypes := #[]
  resolved := Array.replicate 40 none
  statics := none }

def pool2 : Array CpInfo := pool [(2, .class_ 4), (1, u "java/lang/Object"), (6, .class_ 13), (1, u "com/example/tokengauge/tokengauge/Lattice"), (0, u "doubles"), (0, u "Ljava/util/Map;"), (2, u "step"), (0, u "Lcom/example/tokengauge/tokengauge/Rational;"), (2, u "steps"), (0, u "I"), (2, u "mode"), (0, u "Lcom/example/tokengauge/tokengauge/Lattice$Mode;"), (4, .class_ 34), (1, u "com/example/tokengauge/tokengauge/Lattice$Mode"), (72, .class_ 108), (0, u "com/example/tokengauge/tokengauge/Lattice$Placement"), (6, .double 4368491638549381120), (1, .double 4602678819172646912), (1, .double 4607182418800017410), (1, u "UNIT"), (0, u "D"), (19, u "relativeError"), (0, u "(D)D")] 26

def k2c0 : Code := { maxStack := 6, maxLocals := 4, code := prog_72_method_10_code, exceptionTable := #[], attributes := #[] }
def k2m0 : Method := { name := "relativeError", desc := "(D)D", sig := { parameters := [.double], returnType := some .double }, accessFlags := 8, code := some k2c0 }
/-- com/example/tokengauge/tokengauge/Lattice -/
def k2 : Class := { plain "com/example/tokengauge/tokengauge/Lattice" (some 0) with
  accessFlags := 48
  interfaces := #[]
  cf := some (fileOf pool2 11 #[.nestMembers #[107, 32]] #[{ accessFlags := 8, nameIndex := 142, descriptorIndex := 143, attributes := #[] }] 48 2 #[] #[{ accessFlags := 24, nameIndex := 121, descriptorIndex := 122, attributes := #[] }, { accessFlags := 18, nameIndex := 18, descriptorIndex := 19, attributes := #[] }, { accessFlags := 18, nameIndex := 22, descriptorIndex := 23, attributes := #[] }, { accessFlags := 18, nameIndex := 26, descriptorIndex := 27, attributes := #[] }, { accessFlags := 18, nameIndex := 14, descriptorIndex := 15, attributes := #[] }])
  fields := #[{ name := "UNIT", type := .double, accessFlags := 24, slot := 0, constantValue := 0 }, { name := "step", type := (.object "com/example/tokengauge/tokengauge/Rational"), accessFlags := 18, slot := 0, constantValue := 0 }, { name := "steps", type := .int, accessFlags := 18, slot := 1, constantValue := 0 }, { name := "mode", type := (.object "com/example/tokengauge/tokengauge/Lattice$Mode"), accessFlags := 18, slot := 2, constantValue := 0 }, { name := "doubles", type := (.object "java/util/Map"), accessFlags := 18, slot := 3, constantValue := 0 }]
  methods := #[k2m0]
  instanceTypes := #[(.object "com/example/tokengauge/tokengauge/Rational"), .int, (.object "com/example/tokengauge/tokengauge/Lattice$Mode"), (.object "java/util/Map")]
  staticTypes := #[.double]
  resolved := Array.replicate 170 none
  statics := none }

def pool3 : Array CpInfo := pool [(1, u "java/lang/Cloneable"), (0, .class_ 1), (0, u "java/lang/Object"), (0, .class_ 3)] 3

/-- java/lang/Cloneable -/
def k3 : Class := { plain "java/lang/Cloneable" (some 0) with
  accessFlags := 1537
  interfaces := #[]
  cf := some (fileOf pool3 2 #[] #[] 1537 4 #[] #[])
  fields := #[]
  methods := #[]
  instanceTypes := #[]
  staticTypes := #[]
  resolved := Array.replicate 8 none
  statics := none }

def pool4 : Array CpInfo := pool [(1, u "java/io/Serializable"), (0, .class_ 1), (0, u "java/lang/Object"), (0, .class_ 3)] 3

/-- java/io/Serializable -/
def k4 : Class := { plain "java/io/Serializable" (some 0) with
  accessFlags := 1537
  interfaces := #[]
  cf := some (fileOf pool4 2 #[] #[] 1537 4 #[] #[])
  fields := #[]
  methods := #[]
  instanceTypes := #[]
  staticTypes := #[]
  resolved := Array.replicate 8 none
  statics := none }

/-- the primitive byte -/
def k5 : Class := { plain "byte" none with kind := .primitive 'B', accessFlags := 0x411 }
/-- [B -/
def k6 : Class := { plain "[B" (some 0) with kind := .array 5 .byte, interfaces := #[3, 4], accessFlags := 1041 }

/-- the primitive int -/
def k7 : Class := { plain "int" none with kind := .primitive 'I', accessFlags := 0x411 }
/-- [I -/
def k8 : Class := { plain "[I" (some 0) with kind := .array 7 .int, interfaces := #[3, 4], accessFlags := 1041 }

def heap : Heap := #[]
def classes : Array Class := #[k0, k1, k2, k3, k4, k5, k6, k7, k8]
def interned : List (Array UInt16 × Addr) := []
def slotsUsed : Nat := 0
def theMethod : MethodId := ⟨1, 1⟩
def args0 : Array Value := #[.long 5, .long 7, .int 1]
def aboutOver (below : List Frame) : State where
  vm := { classes := classes, interned := interned.toArray }
  heap := heap
  slotsUsed := slotsUsed
  threads := #[{ frames := .invoking theMethod args0 :: below }]
def below0 : List Frame := [.native { method := ⟨0, 0⟩, args := #[] }]
def about1 : State := aboutOver below0
def p0 : Program := .bare "" "" ""
def e0 : Env := launch0.env 0 0 0
theorem w_frames : about1.frames = Frame.invoking theMethod args0 :: below0 := rfl
set_option maxRecDepth 65536 in
theorem w_args : argsFit about1.vm theMethod args0 = true := by decide +kernel
set_option maxRecDepth 65536 in
theorem w_heap : heapFits about1 = true := by decide +kernel
set_option maxRecDepth 65536 in
theorem w_runnable : about1.curStatus? = some .runnable := by decide +kernel
set_option maxRecDepth 65536 in
theorem w_alone : about1.alone = true := by decide +kernel
set_option maxRecDepth 65536 in
theorem w_named : about1.methodNamed? x = some theMethod := by decide +kernel
set_option maxRecDepth 65536 in
theorem w_hears : about1.hears theMethod below0 = true := by decide +kernel
set_option maxRecDepth 65536 in
theorem w_ripe : about1.ripe theMethod args0 below0 = true := by decide +kernel
theorem w_running : about1.status = .running := rfl
set_option maxRecDepth 65536 in
theorem w_room : about1.hasRoom e0.platform room_1 = true :=
  launch0.hasRoom_least _ room_1 (by decide +kernel) (by decide +kernel) (by decide +kernel) (by decide +kernel) (by decide +kernel) (by decide +kernel)
theorem allAtoms_all (ts : List Jvm.Cond) (a : Array Jvm.Value) (st : Jvm.State) : (allAtoms ts).before a st = ts.all (fun c => c.before a st) := by
  induction ts with
  | nil => rfl
  | cons c t ih =>
    show (Jvm.Cond.and c (allAtoms t)).before a st = _
    rw [Jvm.Cond.before_and, ih, List.all_cons]
def words1 : List Jvm.Cond := Jvm.Cond.code x code maxLocals ret :: tables_1
/-- a 'code' word, met by the world's own term for the bytes: nothing is compared byte by byte -/
theorem code_word {y : MethodName} {bytes : ByteArray} {mx : Nat} {rt : Option FieldType} {a : Array Value} {s : State} {m : MethodId} {meth : Method} {c : Code} (h1 : s.methodNamed? y = some m) (h2 : s.vm.method? m = some meth) (h3 : meth.code = some c) (h4 : c.code = bytes)
    (h5 : (c.maxLocals == mx && c.exceptionTable.isEmpty && decide (c.maxStack ≤ mostOperands) && decide (meth.sig.returnType = rt) && !meth.locks && decide (parseMethodDescriptor y.desc = some meth.sig)) = true) : (Jvm.Cond.code y bytes mx rt).before a s = true := by
  simp only [Bool.and_eq_true, beq_iff_eq, Bool.not_eq_true', decide_eq_true_eq] at h5
  obtain ⟨⟨⟨⟨⟨g1, g2⟩, g3⟩, g4⟩, g5⟩, g6⟩ := h5
  simp [Cond.before, Cond.holds, Cond.value, h1, h2, h3, h4, g1, g2, g3, g4, g5, g6]
def isCode : Jvm.Cond → Bool
  | .code _ _ _ _ => true
  | _ => false
theorem all_split {L : List Jvm.Cond} {P : Jvm.Cond → Bool} (h1 : L.all (fun c => isCode c || P c) = true) (h2 : ∀ c ∈ L.filter isCode, P c = true) : L.all P = true := by
  refine List.all_eq_true.mpr fun c hc => ?_
  have h := List.all_eq_true.mp h1 c hc
  rcases Bool.eq_false_or_eq_true (isCode c) with hi | hi
  · exact h2 c (List.mem_filter.mpr ⟨hc, hi⟩)
  · simpa [hi] using h
set_option maxRecDepth 65536 in
theorem w_c0 : (Jvm.Cond.code x code maxLocals ret).before args0 about1 = true := code_word (m := ⟨1, 1⟩) (meth := k1m1) (c := k1c1) (by decide +kernel) rfl rfl rfl (by decide +kernel)
set_option maxRecDepth 65536 in
theorem w_c1 : (Jvm.Cond.code ({ cls := "com/example/tokengauge/tokengauge/Lattice", name := "relativeError", desc := "(D)D" } : Jvm.MethodName) prog_72_method_10_code (4 : Nat) (Option.some Jvm.ClassFile.FieldType.double)).before args0 about1 = true := code_word (m := ⟨2, 0⟩) (meth := k2m0) (c := k2c0) (by decide +kernel) rfl rfl rfl (by decide +kernel)
set_option maxRecDepth 65536 in
theorem w_c2 : (Jvm.Cond.code ({ cls := "com/example/tokengauge/tokengauge/LatticeRelativeErrorPinLaw", name := "pinned", desc := "(JD)Z" } : Jvm.MethodName) method_3_code (8 : Nat) (Option.some Jvm.ClassFile.FieldType.boolean)).before args0 about1 = true := code_word (m := ⟨1, 2⟩) (meth := k1m2) (c := k1c2) (by decide +kernel) rfl rfl rfl (by decide +kernel)
def codes1 : List Jvm.Cond := [Jvm.Cond.code x code maxLocals ret, Jvm.Cond.code ({ cls := "com/example/tokengauge/tokengauge/Lattice", name := "relativeError", desc := "(D)D" } : Jvm.MethodName) prog_72_method_10_code (4 : Nat) (Option.some Jvm.ClassFile.FieldType.double), Jvm.Cond.code ({ cls := "com/example/tokengauge/tokengauge/LatticeRelativeErrorPinLaw", name := "pinned", desc := "(JD)Z" } : Jvm.MethodName) method_3_code (8 : Nat) (Option.some Jvm.ClassFile.FieldType.boolean)]
set_option maxRecDepth 65536 in
theorem codes_eq : words1.filter isCode = codes1 := rfl
theorem w_codes : ∀ c ∈ words1.filter isCode, c.before args0 about1 = true := by
  rw [codes_eq]
  intro c hc
  simp only [codes1, List.mem_cons, List.not_mem_nil, or_false] at hc
  rcases hc with rfl | rfl | rfl
  · exact w_c0
  · exact w_c1
  · exact w_c2
set_option maxRecDepth 65536 in
theorem w_t1 : words1.all (fun c => isCode c || c.before args0 about1) = true := by decide +kernel
theorem w_tables : (allAtoms (Jvm.Cond.code x code maxLocals ret :: tables_1)).before args0 about1 = true := by
  rw [allAtoms_all]
  show words1.all (fun c => c.before args0 about1) = true
  refine all_split ?_ w_codes
  rw [w_t1]
set_option maxRecDepth 65536 in
theorem w_case : (Jvm.Cond.and given_1 narrow_1).before args0 about1 = true := by decide +kernel
theorem w_applies : (headSpec (Jvm.Cond.code x code maxLocals ret :: tables_1) room_1).applies x e0.platform about1 = true :=
  (Spec.applies_iff w_frames).mpr ⟨w_running, w_runnable, w_alone, w_named, w_hears, w_ripe, w_room, w_tables⟩
theorem atStart : AtStart classFile x code maxLocals ret World_1 tables_1 room_1 Calls_1 rest_1 Pre_1 launch0 p0 e0 about1 theMethod args0 below0 :=
  ⟨lists_1, trivial, launch0.admits_env _ _ _, launch0.least_env, fairChoices_fair.cas, fairChoices_fair.clock, w_frames, w_args, w_heap, w_applies, trivial, trivial, w_case⟩
end start1
theorem witness_1 : WitnessClaimed_1 := ⟨start1.p0, start1.e0, start1.about1, start1.theMethod, start1.args0, start1.below0, start1.atStart⟩
end Jvm.Pilot.@@N@@
