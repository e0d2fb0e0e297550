import JvmDerived
import JvmDerived.Pilot.@@N@@Statement
import JvmDerived.Pilot.@@N@@Code
set_option linter.unusedVariables false
set_option linter.unusedSimpArgs false
@@BLOCK:NumsL.lean.txt@@
namespace Jvm.Pilot.@@N@@
open Jvm Jvm.ClassFile Sem Op Lib Jvm.Free Jvm.Stand Jvm.LawKit Jvm.RoadKit Bundle Jvm.Pilot.@@N@@.Jvm.D
section Own
variable {p : Program} {l : Launch} {e : Env} {R : Room} {s : State} {m : MethodId} {args : Array Value} {below : List Frame} {meth : Method} {c : Code} {T : State} {locs : List Loc} {cells slots : Nat} {Z : State} {a0 : Array Value} {h : Heap}
/-- from U the run comes to the method's end, and P holds there -/
def OGo (p : Program) (e : Env) (below : List Frame) (U : State) (P : State → Outcome → Prop) : Prop :=
  ∃ t o, Steps p.tables e below U t ∧ t.status = .running ∧ Ended t below o ∧ P t o
theorem OGo.step {U U' : State} {P : State → Outcome → Prop} (k : ∀ t, Steps p.tables e below U' t → Steps p.tables e below U t) (g : OGo p e below U' P) : OGo p e below U P := by
  obtain ⟨t, o, h1, h2⟩ := g
  exact ⟨t, o, k t h1, h2⟩
def OEnd (s : State) (Q : Option Value → Heap → List Loc → Prop) (kc ks : Nat) (t : State) (o : Outcome) : Prop :=
  ∃ v L, o = .returned v ∧ Q v t.heap L ∧ FrameEnd s o t L kc ks
/-- the contract of one body, at one array of arguments and one heap -/
abbrev OMet (l : Launch) (Z : State) (y : MethodName) (bytes : ByteArray) (maxL : Nat) (ret : Option FieldType) (ws : List Jvm.Cond) (rm : Room) (as' : Array Value) (h0 : Heap) (Q : Option Value → Heap → List Loc → Prop) : Prop :=
  MetFree l y (head1 (Jvm.Cond.code y bytes maxL ret :: ws) rm) (fun a U => a = as' ∧ Z.Warmed39 U.vm ∧ U.heap = h0) (fun _ _ _ _ _ => True) (fun _ U o U' => ∃ v L, o = .returned v ∧ Q v U'.heap L ∧ FrameEnd U o U' L rm.cells rm.slots)
theorem OMet.body {y : MethodName} {bytes : ByteArray} {maxL : Nat} {ret : Option FieldType} {ws : List Jvm.Cond} {rm : Room} {as' : Array Value} {h0 : Heap} {Q : Option Value → Heap → List Loc → Prop} (hpn : plainFor y = true)
    (b : ∀ (p : Program) (e : Env) (s : State) (m : MethodId) (below : List Frame) (meth : Method) (c : Code) (s₁ : State), p.tables.exec = Jvm.exec → c.code = bytes → c.maxLocals = maxL → s.vm.findClass y.cls = some m.cls → meth.name = y.name → meth.sig.returnType = ret → meth.locks = false → Z.Warmed39 s.vm →
      Stand p l e rm s m as' below meth c s₁ [] 0 0 → s₁.heap = h0 → OGo p e below (s₁.setTop (entryFrame m as' maxL)) (OEnd s Q rm.cells rm.slots)) : OMet l Z y bytes maxL ret ws rm as' h0 Q := by
  refine MetFree.of_bodySF hpn hisR ?_
  intro p e s m args below meth c s₁ Bd hml0 hP hK
  obtain ⟨rfl, hZ, hh⟩ := hP
  exact b p e s m below meth c s₁ Bd.exec Bd.bytes hml0 (findClass_of_methodNamed Bd.named) (name_of_methodNamed Bd.named Bd.method).1 Bd.returns Bd.notSynchronized hZ (Stand.of_body Bd) (by rw [← hh, Bd.state]; rfl)
theorem own_ret (X : Stand p l e R s m args below meth c T locs cells slots) (hx : p.tables.exec = Jvm.exec) (hlk : meth.locks = false) {pc : Nat} {Ls : Array Slot} {w : Value} {t : FieldType} {i : Instr} {rest : List Value} (hret : meth.sig.returnType = some t) (hn : narrow t w = w)
    (hi : (i = .ireturn ∧ (t = .int ∨ t = .boolean ∨ t = .byte ∨ t = .char ∨ t = .short) ∧ ∃ z, w = .int z) ∨ (i = .lreturn ∧ t = .long ∧ ∃ z, w = .long z) ∨ (i = .dreturn ∧ t = .double ∧ ∃ z, w = .double z) ∨ (i = .freturn ∧ t = .float ∧ ∃ z, w = .float z) ∨ (i = .areturn ∧ t.isReference = true ∧ w.isRef = true))
    (hd : decode c.code pc = .ok (i, 1)) {Q : Option Value → Heap → List Loc → Prop} {kc ks : Nat} (hQ : Q (some w) T.heap locs) (h1 : cells ≤ kc) (h2 : slots ≤ ks) : OGo p e below (T.setTop (mkF m pc Ls (w :: rest))) (OEnd s Q kc ks) := by
  obtain ⟨fs, hr, hrun, hended, hW, hsame⟩ := X.leave (v := some w) (fun h => by rw [hret] at h; cases h) hlk
  exact ⟨_, _, retOut X hx hret hn hi hd hr, hrun, hended, _, _, rfl, hQ, ⟨_, rfl⟩, hW, hsame.mono h1 h2⟩
theorem own_retN (X : Stand p l e R s m args below meth c T locs cells slots) (hx : p.tables.exec = Jvm.exec) (hlk : meth.locks = false) {pc : Nat} {Ls : Array Slot} {z : Int32} {t : FieldType} {rest : List Value} (hret : meth.sig.returnType = some t) (ht : t = .boolean ∨ t = .byte ∨ t = .char ∨ t = .short)
    (hd : decode c.code pc = .ok (.ireturn, 1)) {Q : Option Value → Heap → List Loc → Prop} {kc ks : Nat} (hQ : Q (some (.int (nar t z))) T.heap locs) (h1 : cells ≤ kc) (h2 : slots ≤ ks) : OGo p e below (T.setTop (mkF m pc Ls (.int z :: rest))) (OEnd s Q kc ks) := by
  obtain ⟨fs, hr, hrun, hended, hW, hsame⟩ := X.leave (v := some (.int (nar t z))) (fun h => by rw [hret] at h; cases h) hlk
  exact ⟨_, _, retN X hx hret ht hd hr, hrun, hended, _, _, rfl, hQ, ⟨_, rfl⟩, hW, hsame.mono h1 h2⟩
theorem own_ret0 (X : Stand p l e R s m args below meth c T locs cells slots) (hx : p.tables.exec = Jvm.exec) (hlk : meth.locks = false) {pc : Nat} {Ls : Array Slot} (hret : meth.sig.returnType = none)
    (hd : decode c.code pc = .ok (.return_, 1)) {Q : Option Value → Heap → List Loc → Prop} {kc ks : Nat} (hQ : Q none T.heap locs) (h1 : cells ≤ kc) (h2 : slots ≤ ks) : OGo p e below (T.setTop (mkF m pc Ls [])) (OEnd s Q kc ks) := by
  obtain ⟨fs, hr, hrun, hended, hW, hsame⟩ := X.leave (v := none) (fun _ => rfl) hlk
  exact ⟨_, _, X.returnOut hx hret hd hr, hrun, hended, _, _, rfl, hQ, ⟨_, rfl⟩, hW, hsame.mono h1 h2⟩
/-- who pays a call: at these arguments and this heap -/
abbrev OBack (l : Launch) (R : Room) (p : Program) (e : Env) (below : List Frame) (s : State) (args : Array Value) (y : MethodName) (len W : Nat) (as' : Array Value) (h : Heap) (kc ks : Nat) (Q : Option Value → Heap → List Loc → Prop) : Prop :=
  Back l R p e below s args y len W (fun P a => a = as' ∧ P.U.heap = h ∧ P.cells + kc ≤ R.cells ∧ P.slots + ks ≤ R.slots) (fun P _ v B => ∃ L, Q v B.U.heap L ∧ B.locs = P.locs ++ L ∧ B.cells = P.cells + kc ∧ B.slots = P.slots + ks)
/-- a static call by the callee's contract -/
theorem own_callSK (X : Stand p l e R s m args below meth c T locs cells slots) (hx : p.tables.exec = Jvm.exec) (hZ : Z.Warmed39 s.vm) {own : String} {index : Nat} {y : MethodName} {bytes : ByteArray} {maxL : Nat} {ret : Option FieldType}
    (hown : s.vm.findClass own = some m.cls) (w1 : (Jvm.Cond.methodLink own index y).before a0 Z = true) (w2 : (Jvm.Cond.static y).before a0 Z = true) (w3 : (Jvm.Cond.initialized y.cls).before a0 Z = true)
    (w4 : (Jvm.Cond.code y bytes maxL ret).before a0 Z = true) (hy : y.cls ≠ "java/lang/invoke/MethodHandle" ∧ y.cls ≠ "java/lang/invoke/VarHandle")
    {W : Nat} {kc ks : Nat} {argsL rest : List Value} {Q : Option Value → Heap → List Loc → Prop} (hK : OBack l R p e below s args y 3 W argsL.toArray h kc ks Q) (eT : T.heap = h)
    {pc : Nat} {Ls : Array Slot} (hsize : Ls.size = c.maxLocals) (hlen : ∀ sig, parseMethodDescriptor y.desc = some sig → argsL.length = sig.parameters.length) (hW : (rest.map fun v => v.category).sum = W)
    (hd : decode c.code pc = .ok (.invokestatic index, 3)) (hc : cells + kc ≤ R.cells) (hs : slots + ks ≤ R.slots) {P : State → Outcome → Prop}
    (k : ∀ (v : Option Value) (T' : State) (L : List Loc), Stand p l e R s m args below meth c T' (locs ++ L) (cells + kc) (slots + ks) → Q v T'.heap L → OGo p e below (T'.setTop (mkF m (pc + 3) Ls (v.toList ++ rest))) P) :
    OGo p e below (T.setTop (mkF m pc Ls (argsL.reverse ++ rest))) P := by
  obtain ⟨v, vm, ⟨T', L', k', n'⟩, -, X', ⟨L, hQ, l1, y1, z1⟩, st⟩ := Jvm.LawKit.callS X hx (y := y) hown (mvT hZ w1) (mvT hZ w2) (mvT hZ w3) (mvT hZ w4) hy hK (g := mkF m pc Ls (argsL.reverse ++ rest)) rfl hsize (argsL := argsL) (rest := rest) hlen rfl
    (by show 2 * 0 + _ ≤ _; rw [hW]; omega) hd (fun _ _ => ⟨rfl, eT, hc, hs⟩)
  dsimp only [Pt.U, Pt.locs, Pt.cells, Pt.slots] at X' l1 y1 z1 st hQ
  subst l1 y1 z1
  exact OGo.step st (k v T' L X' hQ)
theorem own_callS (X : Stand p l e R s m args below meth c T locs cells slots) (hx : p.tables.exec = Jvm.exec) (hZ : Z.Warmed39 s.vm) {own : String} {index : Nat} {y : MethodName} {bytes : ByteArray} {maxL : Nat} {ret : Option FieldType}
    (hown : s.vm.findClass own = some m.cls) (w1 : (Jvm.Cond.methodLink own index y).before a0 Z = true) (w2 : (Jvm.Cond.static y).before a0 Z = true) (w3 : (Jvm.Cond.initialized y.cls).before a0 Z = true)
    (w4 : (Jvm.Cond.code y bytes maxL ret).before a0 Z = true) (hy : y.cls ≠ "java/lang/invoke/MethodHandle" ∧ y.cls ≠ "java/lang/invoke/VarHandle")
    {W : Nat} {rm : Room} {argsL rest : List Value} {Q : Option Value → Heap → List Loc → Prop} (hM : OMet l Z y bytes maxL ret [] rm argsL.toArray h Q) (eT : T.heap = h)
    {pc : Nat} {Ls : Array Slot} (hsize : Ls.size = c.maxLocals) (hlen : ∀ sig, parseMethodDescriptor y.desc = some sig → argsL.length = sig.parameters.length) (hW : (rest.map fun v => v.category).sum = W)
    (hd : decode c.code pc = .ok (.invokestatic index, 3)) (hf : rm.frames + 1 ≤ R.frames) (hl : W + (maxL + 11) + rm.locals ≤ R.locals) (hc : cells + rm.cells ≤ R.cells) (hs : slots + rm.slots ≤ R.slots) {P : State → Outcome → Prop}
    (k : ∀ (v : Option Value) (T' : State) (L : List Loc), Stand p l e R s m args below meth c T' (locs ++ L) (cells + rm.cells) (slots + rm.slots) → Q v T'.heap L → OGo p e below (T'.setTop (mkF m (pc + 3) Ls (v.toList ++ rest))) P) :
    OGo p e below (T.setTop (mkF m pc Ls (argsL.reverse ++ rest))) P := 
  own_callSK X hx hZ hown w1 w2 w3 w4 hy (backOf (W := W) hM hZ w4 w3 hf hl) eT hsize hlen hW hd hc hs k
/-- a constructor by its contract -/
theorem own_specialK (X : Stand p l e R s m args below meth c T locs cells slots) (hx : p.tables.exec = Jvm.exec) (hZ : Z.Warmed39 s.vm) {own : String} {index : Nat} {y : MethodName} {bytes : ByteArray} {maxL : Nat} (hy1 : y.name = "<init>")
    (hown : s.vm.findClass own = some m.cls) (w1 : (Jvm.Cond.methodLink own index y).before a0 Z = true) (w2 : (Jvm.Cond.instanceMethod y).before a0 Z = true)
    (w4 : (Jvm.Cond.code y bytes maxL none).before a0 Z = true) (hy : y.cls ≠ "java/lang/invoke/MethodHandle" ∧ y.cls ≠ "java/lang/invoke/VarHandle") {a : Addr}
    {W : Nat} {kc ks : Nat} {argsL rest : List Value} {Q : Option Value → Heap → List Loc → Prop} (hK : OBack l R p e below s args y 3 W (.ref a :: argsL).toArray h kc ks Q) (eT : T.heap = h)
    {pc : Nat} {Ls : Array Slot} (hsize : Ls.size = c.maxLocals) (hlen : ∀ sig, parseMethodDescriptor y.desc = some sig → argsL.length = sig.parameters.length) (hW : (rest.map fun v => v.category).sum = W)
    (hd : decode c.code pc = .ok (.invokespecial index, 3)) (hc : cells + kc ≤ R.cells) (hs : slots + ks ≤ R.slots) {P : State → Outcome → Prop}
    (k : ∀ (v : Option Value) (T' : State) (L : List Loc), Stand p l e R s m args below meth c T' (locs ++ L) (cells + kc) (slots + ks) → Q v T'.heap L → OGo p e below (T'.setTop (mkF m (pc + 3) Ls (v.toList ++ rest))) P) :
    OGo p e below (T.setTop (mkF m pc Ls (argsL.reverse ++ .ref a :: rest))) P := by
  obtain ⟨v, vm, ⟨T', L', k', n'⟩, -, X', ⟨L, hQ, l1, y1, z1⟩, st⟩ := X.specialBack hx (y := y) hy1 hown (mvT hZ w1) (mvT hZ w2) (mvT hZ w4) hy hK (g := mkF m pc Ls (argsL.reverse ++ .ref a :: rest)) rfl hsize (Steps.refl _) (a := a) (argsL := argsL) (rest := rest) hlen rfl
    (by show 2 * 0 + _ ≤ _; rw [hW]; omega) hd (fun _ _ => ⟨rfl, eT, hc, hs⟩)
  dsimp only [Pt.U, Pt.locs, Pt.cells, Pt.slots] at X' l1 y1 z1 st hQ
  subst l1 y1 z1
  exact OGo.step (fun _ kk => st.trans kk) (k v T' L X' hQ)
theorem own_special (X : Stand p l e R s m args below meth c T locs cells slots) (hx : p.tables.exec = Jvm.exec) (hZ : Z.Warmed39 s.vm) {own : String} {index : Nat} {y : MethodName} {bytes : ByteArray} {maxL : Nat} (hy1 : y.name = "<init>")
    (hown : s.vm.findClass own = some m.cls) (w1 : (Jvm.Cond.methodLink own index y).before a0 Z = true) (w2 : (Jvm.Cond.instanceMethod y).before a0 Z = true)
    (w4 : (Jvm.Cond.code y bytes maxL none).before a0 Z = true) (w3 : (Jvm.Cond.initialized y.cls).before a0 Z = true) (hy : y.cls ≠ "java/lang/invoke/MethodHandle" ∧ y.cls ≠ "java/lang/invoke/VarHandle") {a : Addr}
    {W : Nat} {rm : Room} {argsL rest : List Value} {Q : Option Value → Heap → List Loc → Prop} (hM : OMet l Z y bytes maxL none [] rm (.ref a :: argsL).toArray h Q) (eT : T.heap = h)
    {pc : Nat} {Ls : Array Slot} (hsize : Ls.size = c.maxLocals) (hlen : ∀ sig, parseMethodDescriptor y.desc = some sig → argsL.length = sig.parameters.length) (hW : (rest.map fun v => v.category).sum = W)
    (hd : decode c.code pc = .ok (.invokespecial index, 3)) (hf : rm.frames + 1 ≤ R.frames) (hl : W + (maxL + 11) + rm.locals ≤ R.locals) (hc : cells + rm.cells ≤ R.cells) (hs : slots + rm.slots ≤ R.slots) {P : State → Outcome → Prop}
    (k : ∀ (v : Option Value) (T' : State) (L : List Loc), Stand p l e R s m args below meth c T' (locs ++ L) (cells + rm.cells) (slots + rm.slots) → Q v T'.heap L → OGo p e below (T'.setTop (mkF m (pc + 3) Ls (v.toList ++ rest))) P) :
    OGo p e below (T.setTop (mkF m pc Ls (argsL.reverse ++ .ref a :: rest))) P := 
  own_specialK X hx hZ hy1 hown w1 w2 w4 hy (backOf (W := W) hM hZ w4 w3 hf hl) eT hsize hlen hW hd hc hs k
/-- an instance method by its contract -/
theorem own_virtualK (X : Stand p l e R s m args below meth c T locs cells slots) (hx : p.tables.exec = Jvm.exec) (hZ : Z.Warmed39 s.vm) {own C : String} {index : Nat} {y z : MethodName}
    (hown : s.vm.findClass own = some m.cls) (w1 : (Jvm.Cond.methodLink own index y).before a0 Z = true) (w2 : (Jvm.Cond.declares y).before a0 Z = true) (hnf : NotFace s y) (w5 : (Jvm.Cond.selects C y z).before a0 Z = true) (w6 : (Jvm.Cond.instanceMethod z).before a0 Z = true)
    (hy : y.cls ≠ "java/lang/invoke/MethodHandle" ∧ y.cls ≠ "java/lang/invoke/VarHandle") {b : Addr} (hb : Exa Z h b C)
    {W : Nat} {kc ks : Nat} {argsL rest : List Value} {Q : Option Value → Heap → List Loc → Prop} (hK : OBack l R p e below s args z 3 W (.ref b :: argsL).toArray h kc ks Q) (eT : T.heap = h)
    {pc : Nat} {Ls : Array Slot} (hsize : Ls.size = c.maxLocals) (hlen : ∀ sig, parseMethodDescriptor y.desc = some sig → argsL.length = sig.parameters.length) (hW : (rest.map fun v => v.category).sum = W)
    (hd : decode c.code pc = .ok (.invokevirtual index, 3)) (hc : cells + kc ≤ R.cells) (hs : slots + ks ≤ R.slots) {P : State → Outcome → Prop}
    (k : ∀ (v : Option Value) (T' : State) (L : List Loc), Stand p l e R s m args below meth c T' (locs ++ L) (cells + kc) (slots + ks) → Q v T'.heap L → OGo p e below (T'.setTop (mkF m (pc + 3) Ls (v.toList ++ rest))) P) :
    OGo p e below (T.setTop (mkF m pc Ls (argsL.reverse ++ .ref b :: rest))) P := by
  obtain ⟨cq, kq, qa, qb, qc⟩ := isOf hZ eT hb
  obtain ⟨v, vm, ⟨T', L', k', n'⟩, -, X', ⟨L, hQ, l1, y1, z1⟩, st⟩ := X.virtualBack hx (y := y) (z := z) hown (mvT hZ w1) (mvT hZ w2) hnf (mvT hZ w5) (mvT hZ w6) hy hK qa qc (g := mkF m pc Ls (argsL.reverse ++ .ref b :: rest)) rfl hsize (Steps.refl _) (argsL := argsL) (rest := rest) hlen rfl
    (by show 2 * 0 + _ ≤ _; rw [hW]; omega) hd (fun _ _ => ⟨rfl, eT, hc, hs⟩)
  dsimp only [Pt.U, Pt.locs, Pt.cells, Pt.slots] at X' l1 y1 z1 st hQ
  subst l1 y1 z1
  exact OGo.step (fun _ kk => st.trans kk) (k v T' L X' hQ)
theorem own_virtual (X : Stand p l e R s m args below meth c T locs cells slots) (hx : p.tables.exec = Jvm.exec) (hZ : Z.Warmed39 s.vm) {own C : String} {index : Nat} {y z : MethodName} {bytes : ByteArray} {maxL : Nat} {ret : Option FieldType}
    (hown : s.vm.findClass own = some m.cls) (w1 : (Jvm.Cond.methodLink own index y).before a0 Z = true) (w2 : (Jvm.Cond.declares y).before a0 Z = true) (hnf : NotFace s y) (w5 : (Jvm.Cond.selects C y z).before a0 Z = true) (w6 : (Jvm.Cond.instanceMethod z).before a0 Z = true)
    (hy : y.cls ≠ "java/lang/invoke/MethodHandle" ∧ y.cls ≠ "java/lang/invoke/VarHandle") (w4 : (Jvm.Cond.code z bytes maxL ret).before a0 Z = true) (w3 : (Jvm.Cond.initialized z.cls).before a0 Z = true) {b : Addr} (hb : Exa Z h b C)
    {W : Nat} {rm : Room} {argsL rest : List Value} {Q : Option Value → Heap → List Loc → Prop} (hM : OMet l Z z bytes maxL ret [] rm (.ref b :: argsL).toArray h Q) (eT : T.heap = h)
    {pc : Nat} {Ls : Array Slot} (hsize : Ls.size = c.maxLocals) (hlen : ∀ sig, parseMethodDescriptor y.desc = some sig → argsL.length = sig.parameters.length) (hW : (rest.map fun v => v.category).sum = W)
    (hd : decode c.code pc = .ok (.invokevirtual index, 3)) (hf : rm.frames + 1 ≤ R.frames) (hl : W + (maxL + 11) + rm.locals ≤ R.locals) (hc : cells + rm.cells ≤ R.cells) (hs : slots + rm.slots ≤ R.slots) {P : State → Outcome → Prop}
    (k : ∀ (v : Option Value) (T' : State) (L : List Loc), Stand p l e R s m args below meth c T' (locs ++ L) (cells + rm.cells) (slots + rm.slots) → Q v T'.heap L → OGo p e below (T'.setTop (mkF m (pc + 3) Ls (v.toList ++ rest))) P) :
    OGo p e below (T.setTop (mkF m pc Ls (argsL.reverse ++ .ref b :: rest))) P := 
  own_virtualK X hx hZ hown w1 w2 hnf w5 w6 hy hb (backOf (W := W) hM hZ w4 w3 hf hl) eT hsize hlen hW hd hc hs k
/-- an instance method that an ancestor declares, by its contract -/
theorem own_virtualUpK (X : Stand p l e R s m args below meth c T locs cells slots) (hx : p.tables.exec = Jvm.exec) (hZ : Z.Warmed39 s.vm) {own C owner : String} {index : Nat} {y z : MethodName}
    (hown : s.vm.findClass own = some m.cls) (w1 : (Jvm.Cond.methodLink own index y).before a0 Z = true) (w7 : (Jvm.Cond.sameMethod y.cls owner y.name y.desc).before a0 Z = true) (w2 : (Jvm.Cond.declares ⟨owner, y.name, y.desc⟩).before a0 Z = true) (w5 : (Jvm.Cond.selects C y z).before a0 Z = true) (w6 : (Jvm.Cond.instanceMethod z).before a0 Z = true)
    (hy : owner ≠ "java/lang/invoke/MethodHandle" ∧ owner ≠ "java/lang/invoke/VarHandle") {b : Addr} (hb : Exa Z h b C)
    {W : Nat} {kc ks : Nat} {argsL rest : List Value} {Q : Option Value → Heap → List Loc → Prop} (hK : OBack l R p e below s args z 3 W (.ref b :: argsL).toArray h kc ks Q) (eT : T.heap = h)
    {pc : Nat} {Ls : Array Slot} (hsize : Ls.size = c.maxLocals) (hlen : ∀ sig, parseMethodDescriptor y.desc = some sig → argsL.length = sig.parameters.length) (hW : (rest.map fun v => v.category).sum = W)
    (hd : decode c.code pc = .ok (.invokevirtual index, 3)) (hc : cells + kc ≤ R.cells) (hs : slots + ks ≤ R.slots) {P : State → Outcome → Prop}
    (k : ∀ (v : Option Value) (T' : State) (L : List Loc), Stand p l e R s m args below meth c T' (locs ++ L) (cells + kc) (slots + ks) → Q v T'.heap L → OGo p e below (T'.setTop (mkF m (pc + 3) Ls (v.toList ++ rest))) P) :
    OGo p e below (T.setTop (mkF m pc Ls (argsL.reverse ++ .ref b :: rest))) P := by
  obtain ⟨cq, kq, qa, qb, qc⟩ := isOf hZ eT hb
  obtain ⟨v, vm, ⟨T', L', k', n'⟩, -, X', ⟨L, hQ, l1, y1, z1⟩, st⟩ := X.virtualBackUp hx (x := y) (y := z) hown (mvT hZ w1) (mvT hZ w7) (mvT hZ w2) hy (mvT hZ w5) (mvT hZ w6) hK qa qc (g := mkF m pc Ls (argsL.reverse ++ .ref b :: rest)) rfl hsize (Steps.refl _) (argsL := argsL) (rest := rest) hlen rfl
    (by show 2 * 0 + _ ≤ _; rw [hW]; omega) hd (fun _ _ => ⟨rfl, eT, hc, hs⟩)
  dsimp only [Pt.U, Pt.locs, Pt.cells, Pt.slots] at X' l1 y1 z1 st hQ
  subst l1 y1 z1
  exact OGo.step (fun _ kk => st.trans kk) (k v T' L X' hQ)
theorem own_virtualUp (X : Stand p l e R s m args below meth c T locs cells slots) (hx : p.tables.exec = Jvm.exec) (hZ : Z.Warmed39 s.vm) {own C owner : String} {index : Nat} {y z : MethodName} {bytes : ByteArray} {maxL : Nat} {ret : Option FieldType}
    (hown : s.vm.findClass own = some m.cls) (w1 : (Jvm.Cond.methodLink own index y).before a0 Z = true) (w7 : (Jvm.Cond.sameMethod y.cls owner y.name y.desc).before a0 Z = true) (w2 : (Jvm.Cond.declares ⟨owner, y.name, y.desc⟩).before a0 Z = true) (w5 : (Jvm.Cond.selects C y z).before a0 Z = true) (w6 : (Jvm.Cond.instanceMethod z).before a0 Z = true)
    (hy : owner ≠ "java/lang/invoke/MethodHandle" ∧ owner ≠ "java/lang/invoke/VarHandle") (w4 : (Jvm.Cond.code z bytes maxL ret).before a0 Z = true) (w3 : (Jvm.Cond.initialized z.cls).before a0 Z = true) {b : Addr} (hb : Exa Z h b C)
    {W : Nat} {rm : Room} {argsL rest : List Value} {Q : Option Value → Heap → List Loc → Prop} (hM : OMet l Z z bytes maxL ret [] rm (.ref b :: argsL).toArray h Q) (eT : T.heap = h)
    {pc : Nat} {Ls : Array Slot} (hsize : Ls.size = c.maxLocals) (hlen : ∀ sig, parseMethodDescriptor y.desc = some sig → argsL.length = sig.parameters.length) (hW : (rest.map fun v => v.category).sum = W)
    (hd : decode c.code pc = .ok (.invokevirtual index, 3)) (hf : rm.frames + 1 ≤ R.frames) (hl : W + (maxL + 11) + rm.locals ≤ R.locals) (hc : cells + rm.cells ≤ R.cells) (hs : slots + rm.slots ≤ R.slots) {P : State → Outcome → Prop}
    (k : ∀ (v : Option Value) (T' : State) (L : List Loc), Stand p l e R s m args below meth c T' (locs ++ L) (cells + rm.cells) (slots + rm.slots) → Q v T'.heap L → OGo p e below (T'.setTop (mkF m (pc + 3) Ls (v.toList ++ rest))) P) :
    OGo p e below (T.setTop (mkF m pc Ls (argsL.reverse ++ .ref b :: rest))) P := 
  own_virtualUpK X hx hZ hown w1 w7 w2 w5 w6 hy hb (backOf (W := W) hM hZ w4 w3 hf hl) eT hsize hlen hW hd hc hs k
theorem own_cat {v : Value} (q : v.isRef = true) : v.category = 1 := by cases v <;> first | rfl | (simp [Value.isRef] at q)
theorem own_narR {v : Value} {t : FieldType} (q : v.isRef = true) (ht : t.isReference = true := by rfl) : narrow t v = v := by cases v <;> first | (simp [Value.isRef] at q; done) | (cases t <;> first | rfl | (cases ht))
theorem own_fitR {v : Value} {t : FieldType} (q : v.isRef = true) (ht : t.isReference = true := by rfl) : fits t v = true := by cases v <;> first | (simp [Value.isRef] at q; done) | (cases t <;> first | rfl | (cases ht))
theorem own_store1 {l l' : Array Slot} {i : Nat} {v : Value} {o : Slot} (hold : l[i]? = some o) (ho : o = .unset ∨ ∃ w, o = .val w ∧ w.category = 1) (hv : v.category = 1) (hl' : l.setIfInBounds i (.val v) = l' := by rfl) : storeLocals l i v = some l' := by
  rw [XS.store1 hold ho hv, hl']
end Own
theorem own_eqv {args : Array Value} {s : State} {a b : Term} {y : Value} (h : (Jvm.Cond.eq a b).value args s none s [] = some true) (hb : b.eval args s none [] s = some y) : a.eval args s none [] s = some y := by
  cases ha : a.eval args s none [] s with
  | none => simp [Cond.value, ha] at h
  | some x => cases x <;> cases y <;> simp_all [Cond.value]
theorem own_len {args : Array Value} {s : State} {t : Term} {a : Addr} {cl : Cell} {ty : FieldType} {n : Int32} (ev : t.eval args s none [] s = some (.ref a)) (A : Arr s s.heap a cl ty) (h : (Term.length t).eval args s none [] s = some (.int n)) : cl.slots.size < 2 ^ 31 ∧ cl.slots.size.toInt32 = n := by
  have ha : s.arrayAt? a = some cl := Arr.fin (State.WarmedH.refl s).alike A
  by_cases q : cl.slots.size < 2 ^ 31
  · rw [len_f ev ha q] at h
    exact ⟨q, Value.int.inj (Option.some.inj h)⟩
  · simp [Term.eval, ev, ha] at h
    omega
theorem own_elem {args : Array Value} {s : State} {t u : Term} {a : Addr} {cl : Cell} {ty : FieldType} {j : Int32} {v : Value} (ev : t.eval args s none [] s = some (.ref a)) (A : Arr s s.heap a cl ty) (h : (Term.elem t (Term.int j)).eval args s none [] s = some v) (hn : ¬ j < 0 := by decide) : cl.slots[j.toNatClampNeg]? = some v := by
  have ha : s.arrayAt? a = some cl := Arr.fin (State.WarmedH.refl s).alike A
  rw [← elem_f ev (Term.int_eval j) ha hn]; exact h
theorem own_pd0 : parseMethodDescriptor "(Lcom/example/tags_to_grants/tagstogrants/engine/Decision;)I" = some ⟨[(.object "com/example/tags_to_grants/tagstogrants/engine/Decision")], some .int⟩ := by decide +kernel
theorem own_pn0 : plainName "com/example/tags_to_grants/tagstogrants/cli/TagsToGrants" = true := by first | (simp [plainName, overriddenIn]; done) | decide +kernel
theorem own_pn1 : plainName "com/example/tags_to_grants/tagstogrants/cli/TagsToGrantsExitStatusPinLaw" = true := by first | (simp [plainName, overriddenIn]; done) | decide +kernel
theorem own_d_prog_10_method_6_code_0 : decode prog_10_method_6_code 0 = .ok (.aload_n 0, 1) := by decide +kernel
theorem own_d_prog_10_method_6_code_1 : decode prog_10_method_6_code 1 = .ok (.getstatic 150, 3) := by decide +kernel
theorem own_d_prog_10_method_6_code_4 : decode prog_10_method_6_code 4 = .ok (.if_acmp .ne 7, 3) := by decide +kernel
theorem own_d_prog_10_method_6_code_7 : decode prog_10_method_6_code 7 = .ok (.iconst 0, 1) := by decide +kernel
theorem own_d_prog_10_method_6_code_8 : decode prog_10_method_6_code 8 = .ok (.goto 4, 3) := by decide +kernel
theorem own_d_prog_10_method_6_code_12 : decode prog_10_method_6_code 12 = .ok (.ireturn, 1) := by decide +kernel
theorem own_d_prog_10_method_6_code_11 : decode prog_10_method_6_code 11 = .ok (.iconst 1, 1) := by decide +kernel
set_option maxRecDepth 65536 in
set_option maxHeartbeats 40000000 in
theorem own_rm1 (l : Launch) (Z : State) (a0 : Array Value) (hw : ∀ d ∈ tables_1, d.before a0 Z = true) (ws : List Jvm.Cond) (a1 wA : Addr) (h0 : Heap) (n0 : Nat) (Z0 : n0 ≤ h0.size) (SA : Sta Z h0 "com/example/tags_to_grants/tagstogrants/engine/Decision" "ALLOW" "Lcom/example/tags_to_grants/tagstogrants/engine/Decision;" (.ref wA)) :
    OMet l Z (⟨"com/example/tags_to_grants/tagstogrants/cli/TagsToGrants", "exitStatus", "(Lcom/example/tags_to_grants/tagstogrants/engine/Decision;)I"⟩ : MethodName) prog_10_method_6_code 1 (some .int) ws ({ frames := 0, cells := 0, slots := 0, locals := 0 } : Room) #[(.ref a1)] h0 (fun v h L => v = some (.int (if a1 = wA then 0 else 1)) ∧ Fr n0 L ∧ h = h0) := by
  refine OMet.body (plainFor_of_name own_pn0) ?_
  intro p e s m below meth c s₁ hx hby hml hown hnm hret hlk hZ X0 e0
  refine OGo.step (fun _ kk => castTop (show entryFrame m #[(.ref a1)] 1 = (mkF m 0 #[.val (.ref a1)] []) from by first | (simp [entryFrame, mkF, argsToLocals, Value.category]; done) | rfl) kk) ?_
  show OGo p e below (s₁.setTop (mkF m 0 #[.val (.ref a1)] [])) (OEnd s (fun v h L => v = some (.int (if a1 = wA then 0 else 1)) ∧ Fr n0 L ∧ h = h0) ({ frames := 0, cells := 0, slots := 0, locals := 0 } : Room).cells ({ frames := 0, cells := 0, slots := 0, locals := 0 } : Room).slots)
  refine OGo.step (fun _ kk => XS.aloadN X0.here hx rfl (hb hby own_d_prog_10_method_6_code_0) rfl rfl kk) ?_
  show OGo p e below (s₁.setTop (mkF m 1 #[.val (.ref a1)] [(.ref a1)])) (OEnd s (fun v h L => v = some (.int (if a1 = wA then 0 else 1)) ∧ Fr n0 L ∧ h = h0) ({ frames := 0, cells := 0, slots := 0, locals := 0 } : Room).cells ({ frames := 0, cells := 0, slots := 0, locals := 0 } : Room).slots)
  obtain ⟨T1, X1, e1, st1⟩ := getS2 X0 hx hZ hown (host := "") (Or.inl (hw _ (List.mem_of_getElem? (i := 7) rfl))) Via.refl e0 SA (g := (mkF m 1 #[.val (.ref a1)] [(.ref a1)])) rfl (hb hby own_d_prog_10_method_6_code_1)
  refine OGo.step st1 ?_
  show OGo p e below (T1.setTop (mkF m 4 #[.val (.ref a1)] [(.ref wA), (.ref a1)])) (OEnd s (fun v h L => v = some (.int (if a1 = wA then 0 else 1)) ∧ Fr n0 L ∧ h = h0) ({ frames := 0, cells := 0, slots := 0, locals := 0 } : Room).cells ({ frames := 0, cells := 0, slots := 0, locals := 0 } : Room).slots)
  have N0 := Fr.nil n0
  by_cases hh : ((.ref a1) : Value) = (.ref wA)
  · refine OGo.step (fun _ kk => Jvm.RoadKit.acmp (g := (mkF m 4 #[.val (.ref a1)] [(.ref wA), (.ref a1)])) X1 hx rfl rfl rfl (pc0 := 4) (pc' := 7) (same := true) rfl (hb hby own_d_prog_10_method_6_code_4) rfl (decide_eq_true hh) (by decide) (by decide) kk) ?_
    show OGo p e below (T1.setTop (mkF m 7 #[.val (.ref a1)] [])) (OEnd s (fun v h L => v = some (.int (if a1 = wA then 0 else 1)) ∧ Fr n0 L ∧ h = h0) ({ frames := 0, cells := 0, slots := 0, locals := 0 } : Room).cells ({ frames := 0, cells := 0, slots := 0, locals := 0 } : Room).slots)
    refine OGo.step (fun _ kk => XS.iconst X1.here hx rfl (hb hby own_d_prog_10_method_6_code_7) kk) ?_
    show OGo p e below (T1.setTop (mkF m 8 #[.val (.ref a1)] [(.int (0 : Int32))])) (OEnd s (fun v h L => v = some (.int (if a1 = wA then 0 else 1)) ∧ Fr n0 L ∧ h = h0) ({ frames := 0, cells := 0, slots := 0, locals := 0 } : Room).cells ({ frames := 0, cells := 0, slots := 0, locals := 0 } : Room).slots)
    refine OGo.step (fun _ kk => XS.goto X1.here hx rfl (pc0 := 8) (pc' := 12) rfl (hb hby own_d_prog_10_method_6_code_8) (by decide) (by decide) kk) ?_
    show OGo p e below (T1.setTop (mkF m 12 #[.val (.ref a1)] [(.int (0 : Int32))])) (OEnd s (fun v h L => v = some (.int (if a1 = wA then 0 else 1)) ∧ Fr n0 L ∧ h = h0) ({ frames := 0, cells := 0, slots := 0, locals := 0 } : Room).cells ({ frames := 0, cells := 0, slots := 0, locals := 0 } : Room).slots)
    exact own_ret X1 hx hlk hret rfl (Or.inl ⟨rfl, Or.inl rfl, _, rfl⟩) (hb hby own_d_prog_10_method_6_code_12) ⟨by rw [if_pos (Value.ref.inj hh)], N0, e1⟩ (by decide) (by decide)
  · refine OGo.step (fun _ kk => Jvm.RoadKit.acmp (g := (mkF m 4 #[.val (.ref a1)] [(.ref wA), (.ref a1)])) X1 hx rfl rfl rfl (pc0 := 4) (pc' := 11) (same := false) rfl (hb hby own_d_prog_10_method_6_code_4) rfl (decide_eq_false hh) (by decide) (by decide) kk) ?_
    show OGo p e below (T1.setTop (mkF m 11 #[.val (.ref a1)] [])) (OEnd s (fun v h L => v = some (.int (if a1 = wA then 0 else 1)) ∧ Fr n0 L ∧ h = h0) ({ frames := 0, cells := 0, slots := 0, locals := 0 } : Room).cells ({ frames := 0, cells := 0, slots := 0, locals := 0 } : Room).slots)
    refine OGo.step (fun _ kk => XS.iconst X1.here hx rfl (hb hby own_d_prog_10_method_6_code_11) kk) ?_
    show OGo p e below (T1.setTop (mkF m 12 #[.val (.ref a1)] [(.int (1 : Int32))])) (OEnd s (fun v h L => v = some (.int (if a1 = wA then 0 else 1)) ∧ Fr n0 L ∧ h = h0) ({ frames := 0, cells := 0, slots := 0, locals := 0 } : Room).cells ({ frames := 0, cells := 0, slots := 0, locals := 0 } : Room).slots)
    exact own_ret X1 hx hlk hret rfl (Or.inl ⟨rfl, Or.inl rfl, _, rfl⟩) (hb hby own_d_prog_10_method_6_code_12) ⟨by rw [if_neg fun q => hh (congrArg Value.ref q)], N0, e1⟩ (by decide) (by decide)

set_option maxRecDepth 65536 in
set_option maxHeartbeats 40000000 in
theorem own_rm0 (l : Launch) (Z : State) (a0 : Array Value) (hw : ∀ d ∈ tables_1, d.before a0 Z = true) (ws : List Jvm.Cond) (p1 : Int32) (wA wD : Addr) (h0 : Heap) (n0 : Nat) (Z0 : n0 ≤ h0.size) (SA : Sta Z h0 "com/example/tags_to_grants/tagstogrants/engine/Decision" "ALLOW" "Lcom/example/tags_to_grants/tagstogrants/engine/Decision;" (.ref wA)) (SD : Sta Z h0 "com/example/tags_to_grants/tagstogrants/engine/Decision" "DENY" "Lcom/example/tags_to_grants/tagstogrants/engine/Decision;" (.ref wD)) (hne : ¬ wD = wA) :
    OMet l Z x code maxLocals ret ws room_1 #[(.int p1)] h0 (fun v h L => v = some (.int (1 : Int32)) ∧ Fr n0 L) := by
  refine OMet.body (plainFor_of_name own_pn1) ?_
  intro p e s m below meth c s₁ hx hby hml hown hnm hret hlk hZ X0 e0
  have hml : c.maxLocals = 5 := hml
  refine OGo.step (fun _ kk => castTop (show entryFrame m #[(.int p1)] maxLocals = (mkF m 0 #[.val (.int p1), .unset, .unset, .unset, .unset] []) from by first | (simp [entryFrame, mkF, argsToLocals, Value.category, maxLocals]; done) | rfl) kk) ?_
  show OGo p e below (s₁.setTop (mkF m 0 #[.val (.int p1), .unset, .unset, .unset, .unset] [])) (OEnd s (fun v h L => v = some (.int (1 : Int32)) ∧ Fr n0 L) room_1.cells room_1.slots)
  refine OGo.step (fun _ kk => XS.iloadN X0.here hx rfl (hb hby at_0) rfl kk) ?_
  show OGo p e below (s₁.setTop (mkF m 1 #[.val (.int p1), .unset, .unset, .unset, .unset] [(.int p1)])) (OEnd s (fun v h L => v = some (.int (1 : Int32)) ∧ Fr n0 L) room_1.cells room_1.slots)
  refine OGo.step (fun _ kk => XS.iconst X0.here hx rfl (hb hby at_1) kk) ?_
  show OGo p e below (s₁.setTop (mkF m 2 #[.val (.int p1), .unset, .unset, .unset, .unset] [(.int (1 : Int32)), (.int p1)])) (OEnd s (fun v h L => v = some (.int (1 : Int32)) ∧ Fr n0 L) room_1.cells room_1.slots)
  refine OGo.step (fun _ kk => XS.iand X0.here hx rfl (hb hby at_2) rfl kk) ?_
  show OGo p e below (s₁.setTop (mkF m 3 #[.val (.int p1), .unset, .unset, .unset, .unset] [(.int (p1 &&& (1 : Int32)))])) (OEnd s (fun v h L => v = some (.int (1 : Int32)) ∧ Fr n0 L) room_1.cells room_1.slots)
  by_cases hk : (p1 &&& (1 : Int32)) = (0 : Int32)
  · refine OGo.step (fun _ kk => XS.ifYes X0.here hx rfl (pc0 := 3) (pc' := 10) rfl (hb hby at_3) rfl ((if0 _ _).trans (teq hk).1) (by decide) (by decide) kk) ?_
    show OGo p e below (s₁.setTop (mkF m 10 #[.val (.int p1), .unset, .unset, .unset, .unset] [])) (OEnd s (fun v h L => v = some (.int (1 : Int32)) ∧ Fr n0 L) room_1.cells room_1.slots)
    refine OGo.step (fun _ kk => XS.iconst X0.here hx rfl (hb hby at_10) kk) ?_
    show OGo p e below (s₁.setTop (mkF m 11 #[.val (.int p1), .unset, .unset, .unset, .unset] [(.int (0 : Int32))])) (OEnd s (fun v h L => v = some (.int (1 : Int32)) ∧ Fr n0 L) room_1.cells room_1.slots)
    refine OGo.step (fun _ kk => XS.istoreN X0.here hx rfl (hb hby at_11) rfl (l' := #[.val (.int p1), .val (.int (0 : Int32)), .unset, .unset, .unset]) rfl kk) ?_
    show OGo p e below (s₁.setTop (mkF m 12 #[.val (.int p1), .val (.int (0 : Int32)), .unset, .unset, .unset] [])) (OEnd s (fun v h L => v = some (.int (1 : Int32)) ∧ Fr n0 L) room_1.cells room_1.slots)
    refine OGo.step (fun _ kk => XS.iloadN X0.here hx rfl (hb hby at_12) rfl kk) ?_
    show OGo p e below (s₁.setTop (mkF m 13 #[.val (.int p1), .val (.int (0 : Int32)), .unset, .unset, .unset] [(.int (0 : Int32))])) (OEnd s (fun v h L => v = some (.int (1 : Int32)) ∧ Fr n0 L) room_1.cells room_1.slots)
    refine OGo.step (fun _ kk => XS.ifYes X0.here hx rfl (pc0 := 13) (pc' := 22) rfl (hb hby at_13) rfl ((if0 _ _).trans (teq rfl).1) (by decide) (by decide) kk) ?_
    show OGo p e below (s₁.setTop (mkF m 22 #[.val (.int p1), .val (.int (0 : Int32)), .unset, .unset, .unset] [])) (OEnd s (fun v h L => v = some (.int (1 : Int32)) ∧ Fr n0 L) room_1.cells room_1.slots)
    obtain ⟨T2, X2, e2, st2⟩ := getS2 X0 hx hZ hown (host := "") (Or.inl (hw _ (List.mem_of_getElem? (i := 0) rfl))) Via.refl e0 SD (g := (mkF m 22 #[.val (.int p1), .val (.int (0 : Int32)), .unset, .unset, .unset] [])) rfl (hb hby at_22)
    refine OGo.step st2 ?_
    show OGo p e below (T2.setTop (mkF m 25 #[.val (.int p1), .val (.int (0 : Int32)), .unset, .unset, .unset] [(.ref wD)])) (OEnd s (fun v h L => v = some (.int (1 : Int32)) ∧ Fr n0 L) room_1.cells room_1.slots)
    refine OGo.step (fun _ kk => XS.astoreN X2.here hx rfl (hb hby at_25) rfl rfl (l' := #[.val (.int p1), .val (.int (0 : Int32)), .val (.ref wD), .unset, .unset]) rfl kk) ?_
    show OGo p e below (T2.setTop (mkF m 26 #[.val (.int p1), .val (.int (0 : Int32)), .val (.ref wD), .unset, .unset] [])) (OEnd s (fun v h L => v = some (.int (1 : Int32)) ∧ Fr n0 L) room_1.cells room_1.slots)
    refine OGo.step (fun _ kk => XS.aloadN X2.here hx rfl (hb hby at_26) rfl rfl kk) ?_
    show OGo p e below (T2.setTop (mkF m 27 #[.val (.int p1), .val (.int (0 : Int32)), .val (.ref wD), .unset, .unset] [(.ref wD)])) (OEnd s (fun v h L => v = some (.int (1 : Int32)) ∧ Fr n0 L) room_1.cells room_1.slots)
    refine own_callS X2 hx hZ (y := (⟨"com/example/tags_to_grants/tagstogrants/cli/TagsToGrants", "exitStatus", "(Lcom/example/tags_to_grants/tagstogrants/engine/Decision;)I"⟩ : MethodName)) hown (hw _ (List.mem_of_getElem? (i := 3) rfl)) (hw _ (List.mem_of_getElem? (i := 4) rfl)) (hw _ (List.mem_of_getElem? (i := 5) rfl)) (hw _ (List.mem_of_getElem? (i := 6) rfl)) (by decide) (W := 0) (own_rm1 l Z a0 hw [] wD wA h0 n0 Z0 SA) e2  (pc := 27) (Ls := #[.val (.int p1), .val (.int (0 : Int32)), .val (.ref wD), .unset, .unset]) (argsL := [(.ref wD)]) (rest := []) (by rw [hml]; rfl) (lenOf own_pd0 rfl) rfl (hb hby at_27) (by decide) (by decide) (by decide) (by decide) ?_
    intro v3 T3 L3 X3 hQ3
    obtain ⟨rfl, N3, e3⟩ := hQ3
    show OGo p e below (T3.setTop (mkF m 30 #[.val (.int p1), .val (.int (0 : Int32)), .val (.ref wD), .unset, .unset] [(.int (if wD = wA then 0 else 1))])) (OEnd s (fun v h L => v = some (.int (1 : Int32)) ∧ Fr n0 L) room_1.cells room_1.slots)
    rw [if_neg hne]
    show OGo p e below (T3.setTop (mkF m 30 #[.val (.int p1), .val (.int (0 : Int32)), .val (.ref wD), .unset, .unset] [(.int (1 : Int32))])) (OEnd s (fun v h L => v = some (.int (1 : Int32)) ∧ Fr n0 L) room_1.cells room_1.slots)
    refine OGo.step (fun _ kk => XS.istoreN X3.here hx rfl (hb hby at_30) rfl (l' := #[.val (.int p1), .val (.int (0 : Int32)), .val (.ref wD), .val (.int (1 : Int32)), .unset]) rfl kk) ?_
    show OGo p e below (T3.setTop (mkF m 31 #[.val (.int p1), .val (.int (0 : Int32)), .val (.ref wD), .val (.int (1 : Int32)), .unset] [])) (OEnd s (fun v h L => v = some (.int (1 : Int32)) ∧ Fr n0 L) room_1.cells room_1.slots)
    refine OGo.step (fun _ kk => XS.iloadN X3.here hx rfl (hb hby at_31) rfl kk) ?_
    show OGo p e below (T3.setTop (mkF m 32 #[.val (.int p1), .val (.int (0 : Int32)), .val (.ref wD), .val (.int (1 : Int32)), .unset] [(.int (0 : Int32))])) (OEnd s (fun v h L => v = some (.int (1 : Int32)) ∧ Fr n0 L) room_1.cells room_1.slots)
    refine OGo.step (fun _ kk => XS.ifYes X3.here hx rfl (pc0 := 32) (pc' := 41) rfl (hb hby at_32) rfl ((if0 _ _).trans (teq rfl).1) (by decide) (by decide) kk) ?_
    show OGo p e below (T3.setTop (mkF m 41 #[.val (.int p1), .val (.int (0 : Int32)), .val (.ref wD), .val (.int (1 : Int32)), .unset] [])) (OEnd s (fun v h L => v = some (.int (1 : Int32)) ∧ Fr n0 L) room_1.cells room_1.slots)
    refine OGo.step (fun _ kk => XS.iconst X3.here hx rfl (hb hby at_41) kk) ?_
    show OGo p e below (T3.setTop (mkF m 42 #[.val (.int p1), .val (.int (0 : Int32)), .val (.ref wD), .val (.int (1 : Int32)), .unset] [(.int (1 : Int32))])) (OEnd s (fun v h L => v = some (.int (1 : Int32)) ∧ Fr n0 L) room_1.cells room_1.slots)
    refine OGo.step (fun _ kk => XS.istore X3.here hx rfl (hb hby at_42) rfl (l' := #[.val (.int p1), .val (.int (0 : Int32)), .val (.ref wD), .val (.int (1 : Int32)), .val (.int (1 : Int32))]) rfl kk) ?_
    show OGo p e below (T3.setTop (mkF m 44 #[.val (.int p1), .val (.int (0 : Int32)), .val (.ref wD), .val (.int (1 : Int32)), .val (.int (1 : Int32))] [])) (OEnd s (fun v h L => v = some (.int (1 : Int32)) ∧ Fr n0 L) room_1.cells room_1.slots)
    refine OGo.step (fun _ kk => XS.iloadN X3.here hx rfl (hb hby at_44) rfl kk) ?_
    show OGo p e below (T3.setTop (mkF m 45 #[.val (.int p1), .val (.int (0 : Int32)), .val (.ref wD), .val (.int (1 : Int32)), .val (.int (1 : Int32))] [(.int (1 : Int32))])) (OEnd s (fun v h L => v = some (.int (1 : Int32)) ∧ Fr n0 L) room_1.cells room_1.slots)
    refine OGo.step (fun _ kk => XS.iload X3.here hx rfl (hb hby at_45) rfl kk) ?_
    show OGo p e below (T3.setTop (mkF m 47 #[.val (.int p1), .val (.int (0 : Int32)), .val (.ref wD), .val (.int (1 : Int32)), .val (.int (1 : Int32))] [(.int (1 : Int32)), (.int (1 : Int32))])) (OEnd s (fun v h L => v = some (.int (1 : Int32)) ∧ Fr n0 L) room_1.cells room_1.slots)
    refine OGo.step (fun _ kk => XS.icmpNo X3.here hx rfl (hb hby at_47) rfl (teq rfl).2 kk) ?_
    show OGo p e below (T3.setTop (mkF m 50 #[.val (.int p1), .val (.int (0 : Int32)), .val (.ref wD), .val (.int (1 : Int32)), .val (.int (1 : Int32))] [])) (OEnd s (fun v h L => v = some (.int (1 : Int32)) ∧ Fr n0 L) room_1.cells room_1.slots)
    refine OGo.step (fun _ kk => XS.iloadN X3.here hx rfl (hb hby at_50) rfl kk) ?_
    show OGo p e below (T3.setTop (mkF m 51 #[.val (.int p1), .val (.int (0 : Int32)), .val (.ref wD), .val (.int (1 : Int32)), .val (.int (1 : Int32))] [(.int (1 : Int32))])) (OEnd s (fun v h L => v = some (.int (1 : Int32)) ∧ Fr n0 L) room_1.cells room_1.slots)
    refine OGo.step (fun _ kk => XS.iconst X3.here hx rfl (hb hby at_51) kk) ?_
    show OGo p e below (T3.setTop (mkF m 52 #[.val (.int p1), .val (.int (0 : Int32)), .val (.ref wD), .val (.int (1 : Int32)), .val (.int (1 : Int32))] [(.int (2 : Int32)), (.int (1 : Int32))])) (OEnd s (fun v h L => v = some (.int (1 : Int32)) ∧ Fr n0 L) room_1.cells room_1.slots)
    refine OGo.step (fun _ kk => XS.icmpNo X3.here hx rfl (hb hby at_52) rfl (feq (by decide)).1 kk) ?_
    show OGo p e below (T3.setTop (mkF m 55 #[.val (.int p1), .val (.int (0 : Int32)), .val (.ref wD), .val (.int (1 : Int32)), .val (.int (1 : Int32))] [])) (OEnd s (fun v h L => v = some (.int (1 : Int32)) ∧ Fr n0 L) room_1.cells room_1.slots)
    refine OGo.step (fun _ kk => XS.iconst X3.here hx rfl (hb hby at_55) kk) ?_
    show OGo p e below (T3.setTop (mkF m 56 #[.val (.int p1), .val (.int (0 : Int32)), .val (.ref wD), .val (.int (1 : Int32)), .val (.int (1 : Int32))] [(.int (1 : Int32))])) (OEnd s (fun v h L => v = some (.int (1 : Int32)) ∧ Fr n0 L) room_1.cells room_1.slots)
    refine OGo.step (fun _ kk => XS.goto X3.here hx rfl (pc0 := 56) (pc' := 60) rfl (hb hby at_56) (by decide) (by decide) kk) ?_
    show OGo p e below (T3.setTop (mkF m 60 #[.val (.int p1), .val (.int (0 : Int32)), .val (.ref wD), .val (.int (1 : Int32)), .val (.int (1 : Int32))] [(.int (1 : Int32))])) (OEnd s (fun v h L => v = some (.int (1 : Int32)) ∧ Fr n0 L) room_1.cells room_1.slots)
    exact own_retN X3 hx hlk hret (by simp) (hb hby at_60) ⟨rfl, (Fr.nil n0).app N3⟩ (by decide) (by decide)
  · refine OGo.step (fun _ kk => XS.ifNo X0.here hx rfl (hb hby at_3) rfl ((if0 _ _).trans (feq hk).1) kk) ?_
    show OGo p e below (s₁.setTop (mkF m 6 #[.val (.int p1), .unset, .unset, .unset, .unset] [])) (OEnd s (fun v h L => v = some (.int (1 : Int32)) ∧ Fr n0 L) room_1.cells room_1.slots)
    refine OGo.step (fun _ kk => XS.iconst X0.here hx rfl (hb hby at_6) kk) ?_
    show OGo p e below (s₁.setTop (mkF m 7 #[.val (.int p1), .unset, .unset, .unset, .unset] [(.int (1 : Int32))])) (OEnd s (fun v h L => v = some (.int (1 : Int32)) ∧ Fr n0 L) room_1.cells room_1.slots)
    refine OGo.step (fun _ kk => XS.goto X0.here hx rfl (pc0 := 7) (pc' := 11) rfl (hb hby at_7) (by decide) (by decide) kk) ?_
    show OGo p e below (s₁.setTop (mkF m 11 #[.val (.int p1), .unset, .unset, .unset, .unset] [(.int (1 : Int32))])) (OEnd s (fun v h L => v = some (.int (1 : Int32)) ∧ Fr n0 L) room_1.cells room_1.slots)
    refine OGo.step (fun _ kk => XS.istoreN X0.here hx rfl (hb hby at_11) rfl (l' := #[.val (.int p1), .val (.int (1 : Int32)), .unset, .unset, .unset]) rfl kk) ?_
    show OGo p e below (s₁.setTop (mkF m 12 #[.val (.int p1), .val (.int (1 : Int32)), .unset, .unset, .unset] [])) (OEnd s (fun v h L => v = some (.int (1 : Int32)) ∧ Fr n0 L) room_1.cells room_1.slots)
    refine OGo.step (fun _ kk => XS.iloadN X0.here hx rfl (hb hby at_12) rfl kk) ?_
    show OGo p e below (s₁.setTop (mkF m 13 #[.val (.int p1), .val (.int (1 : Int32)), .unset, .unset, .unset] [(.int (1 : Int32))])) (OEnd s (fun v h L => v = some (.int (1 : Int32)) ∧ Fr n0 L) room_1.cells room_1.slots)
    refine OGo.step (fun _ kk => XS.ifNo X0.here hx rfl (hb hby at_13) rfl ((if0 _ _).trans (feq (by decide)).1) kk) ?_
    show OGo p e below (s₁.setTop (mkF m 16 #[.val (.int p1), .val (.int (1 : Int32)), .unset, .unset, .unset] [])) (OEnd s (fun v h L => v = some (.int (1 : Int32)) ∧ Fr n0 L) room_1.cells room_1.slots)
    obtain ⟨T4, X4, e4, st4⟩ := getS2 X0 hx hZ hown (host := "") (Or.inl (hw _ (List.mem_of_getElem? (i := 9) rfl))) Via.refl e0 SA (g := (mkF m 16 #[.val (.int p1), .val (.int (1 : Int32)), .unset, .unset, .unset] [])) rfl (hb hby at_16)
    refine OGo.step st4 ?_
    show OGo p e below (T4.setTop (mkF m 19 #[.val (.int p1), .val (.int (1 : Int32)), .unset, .unset, .unset] [(.ref wA)])) (OEnd s (fun v h L => v = some (.int (1 : Int32)) ∧ Fr n0 L) room_1.cells room_1.slots)
    refine OGo.step (fun _ kk => XS.goto X4.here hx rfl (pc0 := 19) (pc' := 25) rfl (hb hby at_19) (by decide) (by decide) kk) ?_
    show OGo p e below (T4.setTop (mkF m 25 #[.val (.int p1), .val (.int (1 : Int32)), .unset, .unset, .unset] [(.ref wA)])) (OEnd s (fun v h L => v = some (.int (1 : Int32)) ∧ Fr n0 L) room_1.cells room_1.slots)
    refine OGo.step (fun _ kk => XS.astoreN X4.here hx rfl (hb hby at_25) rfl rfl (l' := #[.val (.int p1), .val (.int (1 : Int32)), .val (.ref wA), .unset, .unset]) rfl kk) ?_
    show OGo p e below (T4.setTop (mkF m 26 #[.val (.int p1), .val (.int (1 : Int32)), .val (.ref wA), .unset, .unset] [])) (OEnd s (fun v h L => v = some (.int (1 : Int32)) ∧ Fr n0 L) room_1.cells room_1.slots)
    refine OGo.step (fun _ kk => XS.aloadN X4.here hx rfl (hb hby at_26) rfl rfl kk) ?_
    show OGo p e below (T4.setTop (mkF m 27 #[.val (.int p1), .val (.int (1 : Int32)), .val (.ref wA), .unset, .unset] [(.ref wA)])) (OEnd s (fun v h L => v = some (.int (1 : Int32)) ∧ Fr n0 L) room_1.cells room_1.slots)
    refine own_callS X4 hx hZ (y := (⟨"com/example/tags_to_grants/tagstogrants/cli/TagsToGrants", "exitStatus", "(Lcom/example/tags_to_grants/tagstogrants/engine/Decision;)I"⟩ : MethodName)) hown (hw _ (List.mem_of_getElem? (i := 3) rfl)) (hw _ (List.mem_of_getElem? (i := 4) rfl)) (hw _ (List.mem_of_getElem? (i := 5) rfl)) (hw _ (List.mem_of_getElem? (i := 6) rfl)) (by decide) (W := 0) (own_rm1 l Z a0 hw [] wA wA h0 n0 Z0 SA) e4  (pc := 27) (Ls := #[.val (.int p1), .val (.int (1 : Int32)), .val (.ref wA), .unset, .unset]) (argsL := [(.ref wA)]) (rest := []) (by rw [hml]; rfl) (lenOf own_pd0 rfl) rfl (hb hby at_27) (by decide) (by decide) (by decide) (by decide) ?_
    intro v5 T5 L5 X5 hQ5
    obtain ⟨rfl, N5, e5⟩ := hQ5
    show OGo p e below (T5.setTop (mkF m 30 #[.val (.int p1), .val (.int (1 : Int32)), .val (.ref wA), .unset, .unset] [(.int (if wA = wA then 0 else 1))])) (OEnd s (fun v h L => v = some (.int (1 : Int32)) ∧ Fr n0 L) room_1.cells room_1.slots)
    rw [if_pos rfl]
    show OGo p e below (T5.setTop (mkF m 30 #[.val (.int p1), .val (.int (1 : Int32)), .val (.ref wA), .unset, .unset] [(.int (0 : Int32))])) (OEnd s (fun v h L => v = some (.int (1 : Int32)) ∧ Fr n0 L) room_1.cells room_1.slots)
    refine OGo.step (fun _ kk => XS.istoreN X5.here hx rfl (hb hby at_30) rfl (l' := #[.val (.int p1), .val (.int (1 : Int32)), .val (.ref wA), .val (.int (0 : Int32)), .unset]) rfl kk) ?_
    show OGo p e below (T5.setTop (mkF m 31 #[.val (.int p1), .val (.int (1 : Int32)), .val (.ref wA), .val (.int (0 : Int32)), .unset] [])) (OEnd s (fun v h L => v = some (.int (1 : Int32)) ∧ Fr n0 L) room_1.cells room_1.slots)
    refine OGo.step (fun _ kk => XS.iloadN X5.here hx rfl (hb hby at_31) rfl kk) ?_
    show OGo p e below (T5.setTop (mkF m 32 #[.val (.int p1), .val (.int (1 : Int32)), .val (.ref wA), .val (.int (0 : Int32)), .unset] [(.int (1 : Int32))])) (OEnd s (fun v h L => v = some (.int (1 : Int32)) ∧ Fr n0 L) room_1.cells room_1.slots)
    refine OGo.step (fun _ kk => XS.ifNo X5.here hx rfl (hb hby at_32) rfl ((if0 _ _).trans (feq (by decide)).1) kk) ?_
    show OGo p e below (T5.setTop (mkF m 35 #[.val (.int p1), .val (.int (1 : Int32)), .val (.ref wA), .val (.int (0 : Int32)), .unset] [])) (OEnd s (fun v h L => v = some (.int (1 : Int32)) ∧ Fr n0 L) room_1.cells room_1.slots)
    refine OGo.step (fun _ kk => XS.iconst X5.here hx rfl (hb hby at_35) kk) ?_
    show OGo p e below (T5.setTop (mkF m 36 #[.val (.int p1), .val (.int (1 : Int32)), .val (.ref wA), .val (.int (0 : Int32)), .unset] [(.int (0 : Int32))])) (OEnd s (fun v h L => v = some (.int (1 : Int32)) ∧ Fr n0 L) room_1.cells room_1.slots)
    refine OGo.step (fun _ kk => XS.istore X5.here hx rfl (hb hby at_36) rfl (l' := #[.val (.int p1), .val (.int (1 : Int32)), .val (.ref wA), .val (.int (0 : Int32)), .val (.int (0 : Int32))]) rfl kk) ?_
    show OGo p e below (T5.setTop (mkF m 38 #[.val (.int p1), .val (.int (1 : Int32)), .val (.ref wA), .val (.int (0 : Int32)), .val (.int (0 : Int32))] [])) (OEnd s (fun v h L => v = some (.int (1 : Int32)) ∧ Fr n0 L) room_1.cells room_1.slots)
    refine OGo.step (fun _ kk => XS.goto X5.here hx rfl (pc0 := 38) (pc' := 44) rfl (hb hby at_38) (by decide) (by decide) kk) ?_
    show OGo p e below (T5.setTop (mkF m 44 #[.val (.int p1), .val (.int (1 : Int32)), .val (.ref wA), .val (.int (0 : Int32)), .val (.int (0 : Int32))] [])) (OEnd s (fun v h L => v = some (.int (1 : Int32)) ∧ Fr n0 L) room_1.cells room_1.slots)
    refine OGo.step (fun _ kk => XS.iloadN X5.here hx rfl (hb hby at_44) rfl kk) ?_
    show OGo p e below (T5.setTop (mkF m 45 #[.val (.int p1), .val (.int (1 : Int32)), .val (.ref wA), .val (.int (0 : Int32)), .val (.int (0 : Int32))] [(.int (0 : Int32))])) (OEnd s (fun v h L => v = some (.int (1 : Int32)) ∧ Fr n0 L) room_1.cells room_1.slots)
    refine OGo.step (fun _ kk => XS.iload X5.here hx rfl (hb hby at_45) rfl kk) ?_
    show OGo p e below (T5.setTop (mkF m 47 #[.val (.int p1), .val (.int (1 : Int32)), .val (.ref wA), .val (.int (0 : Int32)), .val (.int (0 : Int32))] [(.int (0 : Int32)), (.int (0 : Int32))])) (OEnd s (fun v h L => v = some (.int (1 : Int32)) ∧ Fr n0 L) room_1.cells room_1.slots)
    refine OGo.step (fun _ kk => XS.icmpNo X5.here hx rfl (hb hby at_47) rfl (teq rfl).2 kk) ?_
    show OGo p e below (T5.setTop (mkF m 50 #[.val (.int p1), .val (.int (1 : Int32)), .val (.ref wA), .val (.int (0 : Int32)), .val (.int (0 : Int32))] [])) (OEnd s (fun v h L => v = some (.int (1 : Int32)) ∧ Fr n0 L) room_1.cells room_1.slots)
    refine OGo.step (fun _ kk => XS.iloadN X5.here hx rfl (hb hby at_50) rfl kk) ?_
    show OGo p e below (T5.setTop (mkF m 51 #[.val (.int p1), .val (.int (1 : Int32)), .val (.ref wA), .val (.int (0 : Int32)), .val (.int (0 : Int32))] [(.int (0 : Int32))])) (OEnd s (fun v h L => v = some (.int (1 : Int32)) ∧ Fr n0 L) room_1.cells room_1.slots)
    refine OGo.step (fun _ kk => XS.iconst X5.here hx rfl (hb hby at_51) kk) ?_
    show OGo p e below (T5.setTop (mkF m 52 #[.val (.int p1), .val (.int (1 : Int32)), .val (.ref wA), .val (.int (0 : Int32)), .val (.int (0 : Int32))] [(.int (2 : Int32)), (.int (0 : Int32))])) (OEnd s (fun v h L => v = some (.int (1 : Int32)) ∧ Fr n0 L) room_1.cells room_1.slots)
    refine OGo.step (fun _ kk => XS.icmpNo X5.here hx rfl (hb hby at_52) rfl (feq (by decide)).1 kk) ?_
    show OGo p e below (T5.setTop (mkF m 55 #[.val (.int p1), .val (.int (1 : Int32)), .val (.ref wA), .val (.int (0 : Int32)), .val (.int (0 : Int32))] [])) (OEnd s (fun v h L => v = some (.int (1 : Int32)) ∧ Fr n0 L) room_1.cells room_1.slots)
    refine OGo.step (fun _ kk => XS.iconst X5.here hx rfl (hb hby at_55) kk) ?_
    show OGo p e below (T5.setTop (mkF m 56 #[.val (.int p1), .val (.int (1 : Int32)), .val (.ref wA), .val (.int (0 : Int32)), .val (.int (0 : Int32))] [(.int (1 : Int32))])) (OEnd s (fun v h L => v = some (.int (1 : Int32)) ∧ Fr n0 L) room_1.cells room_1.slots)
    refine OGo.step (fun _ kk => XS.goto X5.here hx rfl (pc0 := 56) (pc' := 60) rfl (hb hby at_56) (by decide) (by decide) kk) ?_
    show OGo p e below (T5.setTop (mkF m 60 #[.val (.int p1), .val (.int (1 : Int32)), .val (.ref wA), .val (.int (0 : Int32)), .val (.int (0 : Int32))] [(.int (1 : Int32))])) (OEnd s (fun v h L => v = some (.int (1 : Int32)) ∧ Fr n0 L) room_1.cells room_1.slots)
    exact own_retN X5 hx hlk hret (by simp) (hb hby at_60) ⟨rfl, (Fr.nil n0).app N5⟩ (by decide) (by decide)

set_option maxRecDepth 65536 in
set_option maxHeartbeats 40000000 in
theorem comes_1 {Post : Tables → Env → Array Value → State → Outcome → State → Prop} (hpost : ∀ tb e args s v u, (limb_1_1.after args s (.returned v) u = true ∧ limb_1_2.after args s (.returned v) u = true ∧ True) → FrameEnd s (.returned v) u (Jvm.fieldLocs frame_1_writes args s ++ Jvm.arrayLocs frame_1_arrays args s ++ Jvm.staticLocs frame_1_statics s) 0 0 → Post tb e args s (.returned v) u) :
    ArmFor flags0 classFile x code maxLocals ret World_1 tables_1 room_1 Calls_1 rest_1 Pre_1 Post := by
  intro l hfl _ _ p e ha hc hk s m args below hf hA hF happ hP
  obtain ⟨hcalls, hrest, hpre⟩ := hP
  obtain ⟨-, -, -, hnamed, -, -, -, hat⟩ := (Spec.applies_iff hf).mp happ
  obtain ⟨hg, hn⟩ := and_e (Cond.before_iff.mp (show (Jvm.Cond.and given_1 narrow_1).before args s = true from hpre))
  obtain ⟨k6, k6'⟩ := and_e hg
  obtain ⟨w0_, rfl⟩ : ∃ w0_ : Value, args = #[w0_] := by
    have hs : args.size = 1 := by simpa [Cond.value, given_1] using k6
    obtain ⟨L⟩ := args
    match L, hs with
    | [w0_], _ => exact ⟨w0_, rfl⟩
  have hw := fun d (hd : d ∈ tables_1) => atoms_spec (ws := Jvm.Cond.code x code maxLocals ret :: tables_1) hat d (List.mem_cons_of_mem _ hd)
  have hfit : Fit s := fun {y c} hc i hi => by
    obtain ⟨ha, rfl⟩ := Array.getElem?_eq_some_iff.mp hc
    have q := List.all_eq_true.mp ((Array.all_eq_true_iff_forall_mem.mp hF) _ (Array.getElem_mem ha)) i (List.mem_range.mpr hi)
    simpa [Array.getElem?_eq_getElem hi] using q
  obtain ⟨i0, ei0⟩ := is_v k6'
  obtain rfl : w0_ = (.int i0) := Option.some.inj ei0
  obtain ⟨k7, k7'⟩ := and_e hn
  obtain ⟨k8, k8'⟩ := and_e k7'
  obtain ⟨k9, k9'⟩ := and_e k8'
  obtain ⟨a_DENY, ev_DENY⟩ := exa_v k7
  have S_DENY := Sta.start ev_DENY (Or.inr ⟨(hw _ (List.mem_of_getElem? (i := 1) rfl)), (hw _ (List.mem_of_getElem? (i := 2) rfl))⟩)
  have E_DENY := Exa.start ev_DENY k7
  obtain ⟨a_ALLOW, ev_ALLOW⟩ := exa_v k8
  have S_ALLOW := Sta.start ev_ALLOW (Or.inr ⟨(hw _ (List.mem_of_getElem? (i := 1) rfl)), (hw _ (List.mem_of_getElem? (i := 8) rfl))⟩)
  have E_ALLOW := Exa.start ev_ALLOW k8
  have F_DENY_ordinal := Fld.start ((fld_at ev_DENY).symm.trans (own_eqv k9 rfl))
  have F_ALLOW_ordinal := Fld.start ((fld_at ev_ALLOW).symm.trans (own_eqv k9' rfl))
  have hne : ¬ a_DENY = a_ALLOW := Fld.ne F_DENY_ordinal F_ALLOW_ordinal (by decide)
  obtain ⟨n, o, h1, h2, h3, _, L, rfl, ⟨rfl, N⟩, hq⟩ := own_rm0 l s _ hw tables_1 i0 a_ALLOW a_DENY s.heap s.heap.size (Nat.le_refl _) S_ALLOW S_DENY hne p e ha hc hk s m _ below hf ((Spec.applies_iff_loose hf).mp happ).1 ⟨rfl, State.Warmed39.refl s, rfl⟩ trivial
  exact ⟨n, _, h1, h2, h3, hpost _ _ _ _ _ _ ⟨Cond.after_iff.mpr rfl, Cond.after_iff.mpr (eq_i res_at (Term.int_eval (1)) rfl), trivial⟩ ⟨hq.1, hq.2.1, (hq.2.2.sift fun y hy => Or.inr (N y hy)).mono (by decide) (by decide)⟩⟩
theorem main_1_1 : Claimed_1_1 := comes_1 fun _ _ _ _ _ _ h hF => ⟨h.1, hF⟩
theorem main_1_2 : Claimed_1_2 := comes_1 fun _ _ _ _ _ _ h hF => ⟨h.2.1, hF⟩
end Jvm.Pilot.@@N@@
namespace Jvm.Pilot.@@N@@
open Jvm Jvm.ClassFile Sem Op Lib Jvm.Free Jvm.Stand Jvm.Pilot.@@N@@.Jvm.D
/-! MADE BY PROGRAM (witnessworld.py) out of the Statement's table words and the real class files: 13 classes; the members and pool entries that the words name. The judged class is class 1, her method 1. -/
namespace start1
open Jvm.ClassFile
def u (s : String) : CpInfo := .utf8 (stringToUtf16 s)
/-- a pool by its gaps: so many unusable entries, then the entry; so many at the end -/
def gap : Nat → List CpInfo → List CpInfo
  | 0, r => r
  | n + 1, r => .unusable :: gap n r
def poolList (es : List (Nat × CpInfo)) (last : Nat) : List CpInfo := es.foldr (fun e r => gap e.1 (e.2 :: r)) (gap last [])
def pool (es : List (Nat × CpInfo)) (last : Nat) : Array CpInfo := ⟨poolList es last⟩
def fileOf (pool : Array CpInfo) (this : Nat) (attrs : Array Attribute := #[]) (ms : Array MethodInfo := #[]) (fl : Nat := 33) (sup : Nat := 0) (ifs : Array Nat := #[]) (fds : Array FieldInfo := #[]) : ClassFile where
  minorVersion := 0
  majorVersion := 65
  constantPool := pool
  accessFlags := fl
  thisClass := this
  superClass := sup
  interfaces := ifs
  fields := fds
  methods := ms
  attributes := attrs
def plain (name : String) (sup : Option ClassId) : Class where
  name := name
  kind := .ordinary
  loader := none
  accessFlags := 33
  super := sup
  interfaces := #[]
  cf := none
  fields := #[]
  methods := #[]
  instanceTypes := #[]
  staticTypes := #[]
  resolved := #[]
  callSites := []
  init := .initialized
  statics := none
  mirror := none

def pool0 : Array CpInfo := pool [(5, u "<init>"), (0, u "()V"), (1, .class_ 10), (1, u "java/lang/Object")] 113

def k0m0 : Method := { name := "<init>", desc := "()V", sig := { parameters := [], returnType := none }, accessFlags := 1, code := none }
/-- java/lang/Object -/
def k0 : Class := { plain "java/lang/Object" none with
  accessFlags := 33
  interfaces := #[]
  cf := some (fileOf pool0 8 #[] #[{ accessFlags := 1, nameIndex := 5, descriptorIndex := 6, attributes := #[] }] 33 0 #[] #[])
  fields := #[]
  methods := #[k0m0]
  instanceTypes := #[]
  staticTypes := #[]
  resolved := Array.replicate 124 none
  statics := none }

def pool1 : Array CpInfo := pool [(2, .class_ 4), (1, u "java/lang/Object"), (0, u "<init>"), (0, u "()V"), (0, .fieldref 8 9), (0, .class_ 10), (0, .nameAndType 11 12), (0, u "com/example/tags_to_grants/tagstogrants/engine/Decision"), (0, u "ALLOW"), (0, u "Lcom/example/tags_to_grants/tagstogrants/engine/Decision;"), (0, .fieldref 8 14), (0, .nameAndType 15 12), (0, u "DENY"), (0, .methodref 17 18), (0, .class_ 19), (0, .nameAndType 20 21), (0, u "com/example/tags_to_grants/tagstogrants/cli/TagsToGrants"), (0, u "exitStatus"), (0, u "(Lcom/example/tags_to_grants/tagstogrants/engine/Decision;)I"), (0, .class_ 23), (0, u "com/example/tags_to_grants/tagstogrants/cli/TagsToGrantsExitStatusPinLaw"), (2, u "law"), (0, u "(I)Z")] 3

def k1m0 : Method := { name := "<init>", desc := "()V", sig := { parameters := [], returnType := none }, accessFlags := 2, code := none }
def k1c1 : Code := { maxStack := 2, maxLocals := 5, code := code, exceptionTable := #[], attributes := #[] }
def k1m1 : Method := { name := "law", desc := "(I)Z", sig := { parameters := [.int], returnType := some .boolean }, accessFlags := 9, code := some k1c1 }
/-- com/example/tags_to_grants/tagstogrants/cli/TagsToGrantsExitStatusPinLaw -/
def k1 : Class := { plain "com/example/tags_to_grants/tagstogrants/cli/TagsToGrantsExitStatusPinLaw" (some 0) with
  accessFlags := 49
  interfaces := #[]
  cf := some (fileOf pool1 22 #[] #[{ accessFlags := 2, nameIndex := 5, descriptorIndex := 6, attributes := #[] }, { accessFlags := 9, nameIndex := 26, descriptorIndex := 27, attributes := #[] }] 49 2 #[] #[])
  fields := #[]
  methods := #[k1m0, k1m1]
  instanceTypes := #[]
  staticTypes := #[]
  resolved := Array.replicate 31 none
  statics := none }

def pool2 : Array CpInfo := pool [(1, .class_ 2), (0, u "java/lang/constant/Constable"), (0, .class_ 4), (0, u "java/lang/Object")] 6

/-- java/lang/constant/Constable -/
def k2 : Class := { plain "java/lang/constant/Constable" (some 0) with
  accessFlags := 1537
  interfaces := #[]
  cf := some (fileOf pool2 1 #[] #[] 1537 3 #[] #[])
  fields := #[]
  methods := #[]
  instanceTypes := #[]
  staticTypes := #[]
  resolved := Array.replicate 11 none
  statics := none }

def pool3 : Array CpInfo := pool [(1, .class_ 2), (0, u "java/lang/Comparable"), (0, .class_ 4), (0, u "java/lang/Object")] 7

/-- java/lang/Comparable -/
def k3 : Class := { plain "java/lang/Comparable" (some 0) with
  accessFlags := 1537
  interfaces := #[]
  cf := some (fileOf pool3 1 #[] #[] 1537 3 #[] #[])
  fields := #[]
  methods := #[]
  instanceTypes := #[]
  staticTypes := #[]
  resolved := Array.replicate 12 none
  statics := none }

def pool4 : Array CpInfo := pool [(1, .class_ 2), (0, u "java/io/Serializable"), (0, .class_ 4), (0, u "java/lang/Object")] 2

/-- java/io/Serializable -/
def k4 : Class := { plain "java/io/Serializable" (some 0) with
  accessFlags := 1537
  interfaces := #[]
  cf := some (fileOf pool4 1 #[] #[] 1537 3 #[] #[])
  fields := #[]
  methods := #[]
  instanceTypes := #[]
  staticTypes := #[]
  resolved := Array.replicate 7 none
  statics := none }

def pool5 : Array CpInfo := pool [(2, .class_ 4), (1, u "java/lang/Enum"), (0, u "name"), (0, u "Ljava/lang/String;"), (2, u "ordinal"), (0, u "I"), (1, .class_ 14), (1, u "java/lang/Object"), (4, u "hash"), (86, .class_ 108), (1, u "java/lang/Enum$EnumDesc"), (2, .class_ 112), (0, u "java/lang/constant/Constable"), (0, .class_ 114), (0, u "java/lang/Comparable"), (0, .class_ 116), (0, u "java/io/Serializable")] 87

/-- java/lang/Enum -/
def k5 : Class := { plain "java/lang/Enum" (some 0) with
  accessFlags := 1057
  interfaces := #[2, 3, 4]
  cf := some (fileOf pool5 2 #[.nestMembers #[106]] #[] 1057 12 #[111, 113, 115] #[{ accessFlags := 18, nameIndex := 5, descriptorIndex := 6, attributes := #[] }, { accessFlags := 18, nameIndex := 9, descriptorIndex := 10, attributes := #[] }, { accessFlags := 2, nameIndex := 19, descriptorIndex := 10, attributes := #[] }])
  fields := #[{ name := "name", type := (.object "java/lang/String"), accessFlags := 18, slot := 0, constantValue := 0 }, { name := "ordinal", type := .int, accessFlags := 18, slot := 1, constantValue := 0 }, { name := "hash", type := .int, accessFlags := 2, slot := 2, constantValue := 0 }]
  methods := #[]
  instanceTypes := #[(.object "java/lang/String"), .int, .int]
  staticTypes := #[]
  resolved := Array.replicate 204 none
  statics := none }

def pool6 : Array CpInfo := pool [(1, .class_ 2), (0, u "com/example/tags_to_grants/tagstogrants/engine/Decision"), (2, u "ALLOW"), (0, u "Lcom/example/tags_to_grants/tagstogrants/engine/Decision;"), (2, u "DENY"), (2, u "$VALUES"), (0, u "[Lcom/example/tags_to_grants/tagstogrants/engine/Decision;"), (6, .class_ 22), (1, u "java/lang/Enum")] 41

/-- com/example/tags_to_grants/tagstogrants/engine/Decision -/
def k6 : Class := { plain "com/example/tags_to_grants/tagstogrants/engine/Decision" (some 5) with
  accessFlags := 16433
  interfaces := #[]
  cf := some (fileOf pool6 1 #[] #[] 16433 20 #[] #[{ accessFlags := 16409, nameIndex := 5, descriptorIndex := 6, attributes := #[] }, { accessFlags := 16409, nameIndex := 9, descriptorIndex := 6, attributes := #[] }, { accessFlags := 4122, nameIndex := 12, descriptorIndex := 13, attributes := #[] }])
  fields := #[{ name := "ALLOW", type := (.object "com/example/tags_to_grants/tagstogrants/engine/Decision"), accessFlags := 16409, slot := 0, constantValue := 0 }, { name := "DENY", type := (.object "com/example/tags_to_grants/tagstogrants/engine/Decision"), accessFlags := 16409, slot := 1, constantValue := 0 }, { name := "$VALUES", type := (.array (.object "com/example/tags_to_grants/tagstogrants/engine/Decision")), accessFlags := 4122, slot := 2, constantValue := 0 }]
  methods := #[]
  instanceTypes := #[(.object "java/lang/String"), .int, .int]
  staticTypes := #[(.object "com/example/tags_to_grants/tagstogrants/engine/Decision"), (.object "com/example/tags_to_grants/tagstogrants/engine/Decision"), (.array (.object "com/example/tags_to_grants/tagstogrants/engine/Decision"))]
  resolved := Array.replicate 64 none
  statics := some 0 }

def pool7 : Array CpInfo := pool [(2, .class_ 4), (1, u "java/lang/Object"), (0, u "<init>"), (0, u "()V"), (35, .class_ 44), (1, u "com/example/tags_to_grants/tagstogrants/cli/TagsToGrants"), (35, u "SUBCOMMANDS"), (0, u "Ljava/util/Map;"), (6, .class_ 89), (0, u "com/example/tags_to_grants/tagstogrants/cli/TagsToGrants$Subcommand"), (60, .fieldref 151 152), (0, .class_ 153), (0, .nameAndType 154 155), (0, u "com/example/tags_to_grants/tagstogrants/engine/Decision"), (0, u "ALLOW"), (0, u "Lcom/example/tags_to_grants/tagstogrants/engine/Decision;"), (136, u "EXIT_OK"), (0, u "I"), (2, u "EXIT_DENY"), (1, u "EXIT_ERROR"), (1, u "PROGRAM"), (0, u "Ljava/lang/String;"), (14, u "exitStatus"), (0, u "(Lcom/example/tags_to_grants/tagstogrants/engine/Decision;)I")] 84

def k7m0 : Method := { name := "<init>", desc := "()V", sig := { parameters := [], returnType := none }, accessFlags := 2, code := none }
def k7c1 : Code := { maxStack := 2, maxLocals := 1, code := prog_10_method_6_code, exceptionTable := #[], attributes := #[] }
def k7m1 : Method := { name := "exitStatus", desc := "(Lcom/example/tags_to_grants/tagstogrants/engine/Decision;)I", sig := { parameters := [(.object "com/example/tags_to_grants/tagstogrants/engine/Decision")], returnType := some .int }, accessFlags := 8, code := some k7c1 }
/-- com/example/tags_to_grants/tagstogrants/cli/TagsToGrants -/
def k7 : Class := { plain "com/example/tags_to_grants/tagstogrants/cli/TagsToGrants" (some 0) with
  accessFlags := 49
  interfaces := #[]
  cf := some (fileOf pool7 42 #[.nestMembers #[88]] #[{ accessFlags := 2, nameIndex := 5, descriptorIndex := 6, attributes := #[] }, { accessFlags := 8, nameIndex := 316, descriptorIndex := 317, attributes := #[] }] 49 2 #[] #[{ accessFlags := 24, nameIndex := 292, descriptorIndex := 293, attributes := #[] }, { accessFlags := 24, nameIndex := 296, descriptorIndex := 293, attributes := #[] }, { accessFlags := 24, nameIndex := 298, descriptorIndex := 293, attributes := #[] }, { accessFlags := 26, nameIndex := 300, descriptorIndex := 301, attributes := #[] }, { accessFlags := 26, nameIndex := 80, descriptorIndex := 81, attributes := #[] }])
  fields := #[{ name := "EXIT_OK", type := .int, accessFlags := 24, slot := 0, constantValue := 0 }, { name := "EXIT_DENY", type := .int, accessFlags := 24, slot := 1, constantValue := 0 }, { name := "EXIT_ERROR", type := .int, accessFlags := 24, slot := 2, constantValue := 0 }, { name := "PROGRAM", type := (.object "java/lang/String"), accessFlags := 26, slot := 3, constantValue := 0 }, { name := "SUBCOMMANDS", type := (.object "java/util/Map"), accessFlags := 26, slot := 4, constantValue := 0 }]
  methods := #[k7m0, k7m1]
  instanceTypes := #[]
  staticTypes := #[.int, .int, .int, (.object "java/lang/String"), (.object "java/util/Map")]
  resolved := Array.replicate 402 none
  statics := none }

def pool8 : Array CpInfo := pool [(1, u "java/lang/Cloneable"), (0, .class_ 1), (0, u "java/lang/Object"), (0, .class_ 3)] 3

/-- java/lang/Cloneable -/
def k8 : Class := { plain "java/lang/Cloneable" (some 0) with
  accessFlags := 1537
  interfaces := #[]
  cf := some (fileOf pool8 2 #[] #[] 1537 4 #[] #[])
  fields := #[]
  methods := #[]
  instanceTypes := #[]
  staticTypes := #[]
  resolved := Array.replicate 8 none
  statics := none }

/-- the primitive byte -/
def k9 : Class := { plain "byte" none with kind := .primitive 'B', accessFlags := 0x411 }
/-- [B -/
def k10 : Class := { plain "[B" (some 0) with kind := .array 9 .byte, interfaces := #[8, 4], accessFlags := 1041 }

/-- the primitive int -/
def k11 : Class := { plain "int" none with kind := .primitive 'I', accessFlags := 0x411 }
/-- [I -/
def k12 : Class := { plain "[I" (some 0) with kind := .array 11 .int, interfaces := #[8, 4], accessFlags := 1041 }

def heap : Heap := #[{ cls := 6, slots := #[.ref 1, .ref 2, .null], vm := .statics 6 },
  { cls := 6, slots := #[.null, .int 0, .int 0], vm := .none },
  { cls := 6, slots := #[.null, .int 1, .int 0], vm := .none }]
def classes : Array Class := #[k0, k1, k2, k3, k4, k5, k6, k7, k8, k9, k10, k11, k12]
def interned : List (Array UInt16 × Addr) := []
def slotsUsed : Nat := 9
def theMethod : MethodId := ⟨1, 1⟩
def args0 : Array Value := #[.int 5]
def aboutOver (below : List Frame) : State where
  vm := { classes := classes, interned := interned.toArray }
  heap := heap
  slotsUsed := slotsUsed
  threads := #[{ frames := .invoking theMethod args0 :: below }]
def below0 : List Frame := [.native { method := ⟨0, 0⟩, args := #[] }]
def about1 : State := aboutOver below0
def p0 : Program := .bare "" "" ""
def e0 : Env := launch0.env 0 0 0
theorem w_frames : about1.frames = Frame.invoking theMethod args0 :: below0 := rfl
set_option maxRecDepth 65536 in
theorem w_args : argsFit about1.vm theMethod args0 = true := by decide +kernel
set_option maxRecDepth 65536 in
theorem w_heap : heapFits about1 = true := by decide +kernel
set_option maxRecDepth 65536 in
theorem w_runnable : about1.curStatus? = some .runnable := by decide +kernel
set_option maxRecDepth 65536 in
theorem w_alone : about1.alone = true := by decide +kernel
set_option maxRecDepth 65536 in
theorem w_named : about1.methodNamed? x = some theMethod := by decide +kernel
set_option maxRecDepth 65536 in
theorem w_hears : about1.hears theMethod below0 = true := by decide +kernel
set_option maxRecDepth 65536 in
theorem w_ripe : about1.ripe theMethod args0 below0 = true := by decide +kernel
theorem w_running : about1.status = .running := rfl
set_option maxRecDepth 65536 in
theorem w_room : about1.hasRoom e0.platform room_1 = true :=
  launch0.hasRoom_least _ room_1 (by decide +kernel) (by decide +kernel) (by decide +kernel) (by decide +kernel) (by decide +kernel) (by decide +kernel)
theorem allAtoms_all (ts : List Jvm.Cond) (a : Array Jvm.Value) (st : Jvm.State) : (allAtoms ts).before a st = ts.all (fun c => c.before a st) := by
  induction ts with
  | nil => rfl
  | cons c t ih =>
    show (Jvm.Cond.and c (allAtoms t)).before a st = _
    rw [Jvm.Cond.before_and, ih, List.all_cons]
def words1 : List Jvm.Cond := Jvm.Cond.code x code maxLocals ret :: tables_1
/-- a 'code' word, met by the world's own term for the bytes: nothing is compared byte by byte -/
theorem code_word {y : MethodName} {bytes : ByteArray} {mx : Nat} {rt : Option FieldType} {a : Array Value} {s : State} {m : MethodId} {meth : Method} {c : Code} (h1 : s.methodNamed? y = some m) (h2 : s.vm.method? m = some meth) (h3 : meth.code = some c) (h4 : c.code = bytes)
    (h5 : (c.maxLocals == mx && c.exceptionTable.isEmpty && decide (c.maxStack ≤ mostOperands) && decide (meth.sig.returnType = rt) && !meth.locks && decide (parseMethodDescriptor y.desc = some meth.sig)) = true) : (Jvm.Cond.code y bytes mx rt).before a s = true := by
  simp only [Bool.and_eq_true, beq_iff_eq, Bool.not_eq_true', decide_eq_true_eq] at h5
  obtain ⟨⟨⟨⟨⟨g1, g2⟩, g3⟩, g4⟩, g5⟩, g6⟩ := h5
  simp [Cond.before, Cond.holds, Cond.value, h1, h2, h3, h4, g1, g2, g3, g4, g5, g6]
def isCode : Jvm.Cond → Bool
  | .code _ _ _ _ => true
  | _ => false
theorem all_split {L : List Jvm.Cond} {P : Jvm.Cond → Bool} (h1 : L.all (fun c => isCode c || P c) = true) (h2 : ∀ c ∈ L.filter isCode, P c = true) : L.all P = true := by
  refine List.all_eq_true.mpr fun c hc => ?_
  have h := List.all_eq_true.mp h1 c hc
  rcases Bool.eq_false_or_eq_true (isCode c) with hi | hi
  · exact h2 c (List.mem_filter.mpr ⟨hc, hi⟩)
  · simpa [hi] using h
set_option maxRecDepth 65536 in
theorem w_c0 : (Jvm.Cond.code x code maxLocals ret).before args0 about1 = true := code_word (m := ⟨1, 1⟩) (meth := k1m1) (c := k1c1) (by decide +kernel) rfl rfl rfl (by decide +kernel)
set_option maxRecDepth 65536 in
theorem w_c1 : (Jvm.Cond.code ({ cls := "com/example/tags_to_grants/tagstogrants/cli/TagsToGrants", name := "exitStatus", desc := "(Lcom/example/tags_to_grants/tagstogrants/engine/Decision;)I" } : Jvm.MethodName) prog_10_method_6_code (1 : Nat) (Option.some Jvm.ClassFile.FieldType.int)).before args0 about1 = true := code_word (m := ⟨7, 1⟩) (meth := k7m1) (c := k7c1) (by decide +kernel) rfl rfl rfl (by decide +kernel)
def codes1 : List Jvm.Cond := [Jvm.Cond.code x code maxLocals ret, Jvm.Cond.code ({ cls := "com/example/tags_to_grants/tagstogrants/cli/TagsToGrants", name := "exitStatus", desc := "(Lcom/example/tags_to_grants/tagstogrants/engine/Decision;)I" } : Jvm.MethodName) prog_10_method_6_code (1 : Nat) (Option.some Jvm.ClassFile.FieldType.int)]
set_option maxRecDepth 65536 in
theorem codes_eq : words1.filter isCode = codes1 := rfl
theorem w_codes : ∀ c ∈ words1.filter isCode, c.before args0 about1 = true := by
  rw [codes_eq]
  intro c hc
  simp only [codes1, List.mem_cons, List.not_mem_nil, or_false] at hc
  rcases hc with rfl | rfl
  · exact w_c0
  · exact w_c1
set_option maxRecDepth 65536 in
theorem w_t1 : words1.all (fun c => isCode c || c.before args0 about1) = true := by decide +kernel
theorem w_tables : (allAtoms (Jvm.Cond.code x code maxLocals ret :: tables_1)).before args0 about1 = true := by
  rw [allAtoms_all]
  show words1.all (fun c => c.before args0 about1) = true
  refine all_split ?_ w_codes
  rw [w_t1]
set_option maxRecDepth 65536 in
theorem w_case : (Jvm.Cond.and given_1 narrow_1).before args0 about1 = true := by decide +kernel
theorem w_applies : (headSpec (Jvm.Cond.code x code maxLocals ret :: tables_1) room_1).applies x e0.platform about1 = true :=
  (Spec.applies_iff w_frames).mpr ⟨w_running, w_runnable, w_alone, w_named, w_hears, w_ripe, w_room, w_tables⟩
theorem atStart : AtStart classFile x code maxLocals ret World_1 tables_1 room_1 Calls_1 rest_1 Pre_1 launch0 p0 e0 about1 theMethod args0 below0 :=
  ⟨lists_1, trivial, launch0.admits_env _ _ _, launch0.least_env, fairChoices_fair.cas, fairChoices_fair.clock, w_frames, w_args, w_heap, w_applies, trivial, trivial, w_case⟩
end start1
theorem witness_1 : WitnessClaimed_1 := ⟨start1.p0, start1.e0, start1.about1, start1.theMethod, start1.args0, start1.below0, start1.atStart⟩
end Jvm.Pilot.@@N@@
