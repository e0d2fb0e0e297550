import JvmDerived
import JvmDerived.Pilot.@@N@@Statement
import JvmDerived.Pilot.@@N@@Code
set_option linter.unusedVariables false
set_option linter.unusedSimpArgs false
@@BLOCK:NumsL.lean.txt@@
/- laws to paste: Road.backV, Road.eqW, Road.lenW, Road.chN, Road.codOf (cut by pick.py; bodies as the Statement names them) -/
namespace Jvm.Pilot.@@N@@
namespace StrChars
open Jvm Sem ClassFile Op Lib Jvm.Stand Jvm.Free.XT Jvm.Free.ALB Jvm.Free.JM Jvm.Free
open Jvm.Lib.Cold (StaticIs)
/-- a char array whose places are chars -/
def Ch (a : Addr) (A : Cell) (U : State) : Prop := Arr .char a A U ∧ Typed .char A
theorem Ch.mv {a : Addr} {A : Cell} {U U' : State} (h : Ch a A U) (hal : U.vm.Alike U'.vm) (hh : U'.heap = U.heap) : Ch a A U' := ⟨h.1.mv hal hh, h.2⟩
theorem Ch.keep {a : Addr} {A : Cell} {U U' : State} (h : Ch a A U) (hal : U.vm.Alike U'.vm) (hk : U'.heap[a]? = some A) : Ch a A U' := ⟨h.1.keep hal hk, h.2⟩
/-- what place i of a char[]'s cell holds -/
def cv (A : Cell) (i : Nat) : Int32 := match A.slots[i]? with | some (.int x) => x | _ => 0
theorem Ch.get {a : Addr} {A : Cell} {U : State} (h : Ch a A U) {i : Nat} (hi : i < A.slots.size) : A.slots[i]? = some (.int (cv A i)) := by
  have e := Array.getElem?_eq_getElem hi
  have f := h.2 i _ e
  unfold cv; rw [e]
  generalize A.slots[i] = v at f
  cases v <;> simp [fits] at f ⊢
/-- the byte that i2b leaves of a char -/
def lo8 (x : Int32) : Int32 := x.toInt8.toInt32
theorem fits_lo8 (y : Int32) : fits .byte (.int (lo8 y)) = true := by
  have h1 := y.toInt8.le_toInt
  have h2 := y.toInt8.toInt_lt
  simp only [lo8, fits, Bool.and_eq_true, decide_eq_true_eq, Int32.le_iff_toInt_le, Int8.toInt_toInt32, show (-128 : Int32).toInt = -128 from by decide, show (127 : Int32).toInt = 127 from by decide]
  omega
/-- A' is A but that each place j of lo .. hi - 1 holds f j -/
def Laid (A A' : Cell) (lo hi : Nat) (f : Nat → Value) : Prop := A'.cls = A.cls ∧ A'.vm = A.vm ∧ A'.slots.size = A.slots.size ∧ ∀ i, A'.slots[i]? = if lo ≤ i ∧ i < hi then some (f i) else A.slots[i]?
theorem Laid.zero (A : Cell) (lo : Nat) (f : Nat → Value) : Laid A A lo (lo + 0) f := ⟨rfl, rfl, rfl, fun i => by rw [if_neg (by omega)]⟩
theorem Laid.step {A Ak : Cell} {lo k : Nat} {f : Nat → Value} {v : Value} (h : Laid A Ak lo k f) (hlo : lo ≤ k) (hk : k < Ak.slots.size) (hv : v = f k) : Laid A (Ak.setSlot k v) lo (k + 1) f := by
  refine ⟨h.1, h.2.1, by simpa [Cell.setSlot] using h.2.2.1, fun i => ?_⟩
  by_cases e : k = i
  · subst e; rw [Cell.slots_setSlot_self v hk, if_pos (by omega), hv]
  · rw [Cell.slots_setSlot_ne v e, h.2.2.2 i]
    by_cases q : lo ≤ i ∧ i < k
    · rw [if_pos q, if_pos (by omega)]
    · rw [if_neg q, if_neg (by omega)]
def U16 : String := "java/lang/StringUTF16"
namespace Cmp5
def yN : MethodName := ⟨"java/lang/StringUTF16", "compress", "([CI[BII)I"⟩
abbrev yB : ByteArray := jdk_52_method_21_code
theorem d0 : decode yB 0 = .ok (.iconst 0, 1) := by decide +kernel
theorem d1 : decode yB 1 = .ok (.istore 5, 2) := by decide +kernel
theorem d3 : decode yB 3 = .ok (.iload 5, 2) := by decide +kernel
theorem d5 : decode yB 5 = .ok (.iload 4, 2) := by decide +kernel
theorem d7 : decode yB 7 = .ok (.if_icmp (.ge) 37, 3) := by decide +kernel
theorem d10 : decode yB 10 = .ok (.aload_n 0, 1) := by decide +kernel
theorem d11 : decode yB 11 = .ok (.iload_n 1, 1) := by decide +kernel
theorem d12 : decode yB 12 = .ok (.caload, 1) := by decide +kernel
theorem d13 : decode yB 13 = .ok (.istore 6, 2) := by decide +kernel
theorem d15 : decode yB 15 = .ok (.iload 6, 2) := by decide +kernel
theorem d17 : decode yB 17 = .ok (.sipush 255, 3) := by decide +kernel
theorem d20 : decode yB 20 = .ok (.if_icmp (.le) 6, 3) := by decide +kernel
theorem d26 : decode yB 26 = .ok (.aload_n 2, 1) := by decide +kernel
theorem d27 : decode yB 27 = .ok (.iload_n 3, 1) := by decide +kernel
theorem d28 : decode yB 28 = .ok (.iload 6, 2) := by decide +kernel
theorem d30 : decode yB 30 = .ok (.i2b, 1) := by decide +kernel
theorem d31 : decode yB 31 = .ok (.bastore, 1) := by decide +kernel
theorem d32 : decode yB 32 = .ok (.iinc 1 1, 3) := by decide +kernel
theorem d35 : decode yB 35 = .ok (.iinc 3 1, 3) := by decide +kernel
theorem d38 : decode yB 38 = .ok (.iinc 5 1, 3) := by decide +kernel
theorem d41 : decode yB 41 = .ok (.goto (-38), 3) := by decide +kernel
theorem d44 : decode yB 44 = .ok (.iload 4, 2) := by decide +kernel
theorem d46 : decode yB 46 = .ok (.ireturn, 1) := by decide +kernel
def site : List Cond := []
def tab : Cond := tabOf yN yB 7 (some .int) site
def P (b : Addr) (A : Cell) (d : Addr) (B : Cell) (o q len : Nat) (args : Array Value) (s : State) : Prop := args = #[.ref b, .int (Int32.ofNat o), .ref d, .int (Int32.ofNat q), .int (Int32.ofNat len)] ∧ Ch b A s ∧ Arr .byte d B s ∧ b ≠ d ∧ o + len ≤ A.slots.size ∧ q + len ≤ B.slots.size ∧ ∀ i, i < len → ¬ 255 < cv A (o + i)
def E (b : Addr) (A : Cell) (d : Addr) (B : Cell) (o q len : Nat) (r : Option Value) (s u : State) : Prop := r = some (.int (Int32.ofNat len)) ∧ ∃ B', Put d B' s u ∧ Laid B B' q (q + len) (fun j => Value.int (lo8 (cv A (o + (j - q)))))
/-- no char of the range above 255: len; the places written hold each char's low byte -/
theorem law (l : Launch) (b : Addr) (A : Cell) (d : Addr) (B : Cell) (o q len : Nat) : Law l yN 5 5 0 0 yB 7 (some .int) site (P b A d B o q len) (E b A d B o q len) (copyLocs d q len) 0 0 := by
  refine Law.of_walk (plainFor_of_name (by decide +kernel)) (by decide +kernel) (by decide +kernel) (by decide) (fun _ _ h => by rw [h.1]; rfl) (fun _ U U' hal hh h => ⟨h.1, h.2.1.mv hal hh, h.2.2.1.mv hal hh, h.2.2.2⟩) (fun r U U' V V' h1 hal h2 h => ⟨h.1, h.2.elim fun B' q => ⟨B', q.1.mv h1 h2, q.2⟩⟩) ?_
  intro p e s m args below meth c s₁ X0 hexec hbytes hml hret hlk hnm hown hh0 W hP
  obtain ⟨rfl, hA, hB, hne, l1, l2, hp⟩ := hP
  have c1 : Steps p.tables e below (s₁.setTop (entryFrame m #[.ref b, .int (Int32.ofNat o), .ref d, .int (Int32.ofNat q), .int (Int32.ofNat len)] 7)) (s₁.setTop (mkF m 0 #[.val (.ref b), .val (.int (Int32.ofNat o)), .val (.ref d), .val (.int (Int32.ofNat q)), .val (.int (Int32.ofNat len)), .unset, .unset] [])) := entry rfl
  have hA0 := hA.1.mv X0.warmed.alike hh0
  have hB0 := hB.mv X0.warmed.alike hh0
  have a31 := hA.1.2.2.2
  have c2 : Steps p.tables e below (s₁.setTop (entryFrame m #[.ref b, .int (Int32.ofNat o), .ref d, .int (Int32.ofNat q), .int (Int32.ofNat len)] 7)) (s₁.setTop (mkF m 3 #[.val (.ref b), .val (.int (Int32.ofNat o)), .val (.ref d), .val (.int (Int32.ofNat q)), .val (.int (Int32.ofNat len)), .val (.int 0), .unset] [])) := c1.trans (by
    refine iconstV X0.here hexec rfl 0 (hb hbytes d0) (by decide) ?_
    refine XS.istore X0.here hexec rfl (hb hbytes d1) rfl rfl ?_
    exact Steps.refl _)
  have loop : ∀ (r i : Nat), i + r = len → ∀ (z : Slot), (z = .unset ∨ ∃ w, z = .val w ∧ w.category = 1) → ∀ (Tl : State) (Bk : Cell), Stand p l e { frames := 0, locals := 0, cells := 0, slots := 0 } s m #[.ref b, .int (Int32.ofNat o), .ref d, .int (Int32.ofNat q), .int (Int32.ofNat len)] below meth c Tl ([] ++ copyLocs d q i) 0 0 → Put d Bk s₁ Tl → Laid B Bk q (q + i) (fun j => Value.int (lo8 (cv A (o + (j - q))))) →
      Steps p.tables e below (s₁.setTop (entryFrame m #[.ref b, .int (Int32.ofNat o), .ref d, .int (Int32.ofNat q), .int (Int32.ofNat len)] 7)) (Tl.setTop (mkF m 3 #[.val (.ref b), .val (.int (Int32.ofNat (o + i))), .val (.ref d), .val (.int (Int32.ofNat (q + i))), .val (.int (Int32.ofNat len)), .val (.int (Int32.ofNat i)), z] [])) → ∃ (T' : State) (B' : Cell) (z' : Slot), Stand p l e { frames := 0, locals := 0, cells := 0, slots := 0 } s m #[.ref b, .int (Int32.ofNat o), .ref d, .int (Int32.ofNat q), .int (Int32.ofNat len)] below meth c T' ([] ++ copyLocs d q len) 0 0 ∧ Put d B' s₁ T' ∧ Laid B B' q (q + len) (fun j => Value.int (lo8 (cv A (o + (j - q))))) ∧
      Steps p.tables e below (s₁.setTop (entryFrame m #[.ref b, .int (Int32.ofNat o), .ref d, .int (Int32.ofNat q), .int (Int32.ofNat len)] 7)) (T'.setTop (mkF m 3 #[.val (.ref b), .val (.int (Int32.ofNat (o + len))), .val (.ref d), .val (.int (Int32.ofNat (q + len))), .val (.int (Int32.ofNat len)), .val (.int (Int32.ofNat len)), z'] [])) := by
    intro r
    induction r with
    | zero =>
      intro i hi z hz Tl Bk Xl pl fl cl
      have hil : i = len := by omega
      rw [hil] at Xl fl cl
      exact ⟨Tl, Bk, z, Xl, pl, fl, cl⟩
    | succ r ih =>
      intro i hi z hz Tl Bk Xl pl fl cl
      have all := X0.warmed.alike.symm.trans Xl.warmed.alike
      have hAl := hA0.keep all (pl.other hne hA0.1)
      have hBk := hB0.like all pl.1 fl.1 fl.2.1 fl.2.2.1
      have hlt : q + i < Bk.slots.size := by rw [fl.2.2.1]; omega
      have c3 : Steps p.tables e below (s₁.setTop (entryFrame m #[.ref b, .int (Int32.ofNat o), .ref d, .int (Int32.ofNat q), .int (Int32.ofNat len)] 7)) (Tl.setTop (mkF m 12 #[.val (.ref b), .val (.int (Int32.ofNat (o + i))), .val (.ref d), .val (.int (Int32.ofNat (q + i))), .val (.int (Int32.ofNat len)), .val (.int (Int32.ofNat i)), z] [.int (Int32.ofNat (o + i)), .ref b])) := cl.trans (by
        refine XS.iload Xl.here hexec rfl (hb hbytes d3) rfl ?_
        refine XS.iload Xl.here hexec rfl (hb hbytes d5) rfl ?_
        refine XS.icmpNo Xl.here hexec rfl (hb hbytes d7) rfl (ii_ge_f (lt32 (by omega) (by omega))) ?_
        refine XS.aloadN Xl.here hexec rfl (hb hbytes d10) rfl rfl ?_
        refine XS.iloadN Xl.here hexec rfl (hb hbytes d11) rfl ?_
        exact Steps.refl _)
      have c4 : Steps p.tables e below (s₁.setTop (entryFrame m #[.ref b, .int (Int32.ofNat o), .ref d, .int (Int32.ofNat q), .int (Int32.ofNat len)] 7)) (Tl.setTop (mkF m 13 #[.val (.ref b), .val (.int (Int32.ofNat (o + i))), .val (.ref d), .val (.int (Int32.ofNat (q + i))), .val (.int (Int32.ofNat len)), .val (.int (Int32.ofNat i)), z] [.int (cv A (o + i))])) := c3.trans (by
        refine Xl.aget hexec hAl rfl (hA.get (i := o + i) (by omega)) rfl rfl (hb hbytes d12) ?_
        exact Steps.refl _)
      have c5 : Steps p.tables e below (s₁.setTop (entryFrame m #[.ref b, .int (Int32.ofNat o), .ref d, .int (Int32.ofNat q), .int (Int32.ofNat len)] 7)) (Tl.setTop (mkF m 15 #[.val (.ref b), .val (.int (Int32.ofNat (o + i))), .val (.ref d), .val (.int (Int32.ofNat (q + i))), .val (.int (Int32.ofNat len)), .val (.int (Int32.ofNat i)), .val (.int (cv A (o + i)))] [])) := c4.trans (by
        refine XS.istoreS Xl.here hexec rfl (hb hbytes d13) rfl rfl hz ?_
        exact Steps.refl _)
      have c6 : Steps p.tables e below (s₁.setTop (entryFrame m #[.ref b, .int (Int32.ofNat o), .ref d, .int (Int32.ofNat q), .int (Int32.ofNat len)] 7)) (Tl.setTop (mkF m 31 #[.val (.ref b), .val (.int (Int32.ofNat (o + i))), .val (.ref d), .val (.int (Int32.ofNat (q + i))), .val (.int (Int32.ofNat len)), .val (.int (Int32.ofNat i)), .val (.int (cv A (o + i)))] [.int (lo8 (cv A (o + i))), .int (Int32.ofNat (q + i)), .ref d])) := c5.trans (by
        refine XS.iload Xl.here hexec rfl (hb hbytes d15) rfl ?_
        refine sipushV Xl.here hexec rfl 255 (hb hbytes d17) (by decide) ?_
        refine XS.icmpYes Xl.here hexec rfl (pc0 := 20) rfl (hb hbytes d20) rfl (ii_le_t (hp i (by omega))) (by decide) rfl ?_
        refine XS.aloadN Xl.here hexec rfl (hb hbytes d26) rfl rfl ?_
        refine XS.iloadN Xl.here hexec rfl (hb hbytes d27) rfl ?_
        refine XS.iload Xl.here hexec rfl (hb hbytes d28) rfl ?_
        refine i2b Xl.here hexec rfl (hb hbytes d30) rfl ?_
        exact Steps.refl _)
      obtain ⟨T7, X7, p7, st7⟩ := Xl.aput hexec hBk rfl hlt rfl (fits_lo8 (cv A (o + i))) (g := (mkF m 31 #[.val (.ref b), .val (.int (Int32.ofNat (o + i))), .val (.ref d), .val (.int (Int32.ofNat (q + i))), .val (.int (Int32.ofNat len)), .val (.int (Int32.ofNat i)), .val (.int (cv A (o + i)))] [.int (lo8 (cv A (o + i))), .int (Int32.ofNat (q + i)), .ref d])) rfl (rest := []) rfl (hb hbytes d31)
      have c8 : Steps p.tables e below (s₁.setTop (entryFrame m #[.ref b, .int (Int32.ofNat o), .ref d, .int (Int32.ofNat q), .int (Int32.ofNat len)] 7)) (T7.setTop (mkF m 32 #[.val (.ref b), .val (.int (Int32.ofNat (o + i))), .val (.ref d), .val (.int (Int32.ofNat (q + i))), .val (.int (Int32.ofNat len)), .val (.int (Int32.ofNat i)), .val (.int (cv A (o + i)))] [])) := c6.trans (st7 _ (Steps.refl _))
      have c9 : Steps p.tables e below (s₁.setTop (entryFrame m #[.ref b, .int (Int32.ofNat o), .ref d, .int (Int32.ofNat q), .int (Int32.ofNat len)] 7)) (T7.setTop (mkF m 3 #[.val (.ref b), .val (.int (Int32.ofNat (o + i) + 1)), .val (.ref d), .val (.int (Int32.ofNat (q + i) + 1)), .val (.int (Int32.ofNat len)), .val (.int (Int32.ofNat i + 1)), .val (.int (cv A (o + i)))] [])) := c8.trans (by
        refine iincV X7.here hexec rfl 1 (hb hbytes d32) (by decide) rfl rfl ?_
        refine iincV X7.here hexec rfl 1 (hb hbytes d35) (by decide) rfl rfl ?_
        refine iincV X7.here hexec rfl 1 (hb hbytes d38) (by decide) rfl rfl ?_
        refine XS.goto X7.here hexec rfl (pc0 := 41) rfl (hb hbytes d41) (by decide) rfl ?_
        exact Steps.refl _)
      have c10 : Steps p.tables e below (s₁.setTop (entryFrame m #[.ref b, .int (Int32.ofNat o), .ref d, .int (Int32.ofNat q), .int (Int32.ofNat len)] 7)) (T7.setTop (mkF m 3 #[.val (.ref b), .val (.int (Int32.ofNat (o + (i + 1)))), .val (.ref d), .val (.int (Int32.ofNat (q + (i + 1)))), .val (.int (Int32.ofNat len)), .val (.int (Int32.ofNat (i + 1))), .val (.int (cv A (o + i)))] [])) := by
        have := c9
        rw [succ32, succ32, succ32] at this
        exact this
      exact ih (i + 1) (by omega) _ (Or.inr ⟨_, rfl, rfl⟩) T7 _ (by rw [copyLocs_step, ← List.append_assoc]; exact X7) (pl.trans p7) (fl.step (by omega) hlt (by simp)) c10
  obtain ⟨T9, B9, z9, X9, p9, f9, g9⟩ := loop len 0 (by omega) .unset (Or.inl rfl) s₁ B (by simpa [copyLocs] using X0) ⟨hB0.1, fun _ _ => rfl, rfl⟩ (Laid.zero _ _ _) c2
  have c11 : Steps p.tables e below (s₁.setTop (entryFrame m #[.ref b, .int (Int32.ofNat o), .ref d, .int (Int32.ofNat q), .int (Int32.ofNat len)] 7)) (T9.setTop (mkF m 46 #[.val (.ref b), .val (.int (Int32.ofNat (o + len))), .val (.ref d), .val (.int (Int32.ofNat (q + len))), .val (.int (Int32.ofNat len)), .val (.int (Int32.ofNat len)), z9] [.int (Int32.ofNat len)])) := g9.trans (by
    refine XS.iload X9.here hexec rfl (hb hbytes d3) rfl ?_
    refine XS.iload X9.here hexec rfl (hb hbytes d5) rfl ?_
    refine XS.icmpYes X9.here hexec rfl (pc0 := 7) rfl (hb hbytes d7) rfl (ii_ge_t (nlt32 (by omega) (Nat.le_refl _))) (by decide) rfl ?_
    refine XS.iload X9.here hexec rfl (hb hbytes d44) rfl ?_
    exact Steps.refl _)
  exact ⟨T9, some (.int (Int32.ofNat len)), _, _, _, X9, by simp, rfl, rfl, (fun h => by cases h), ⟨rfl, B9, p9.from hh0, f9⟩, fun fs hl => c11.trans (X9.ireturnOut hexec hret rfl (Or.inl rfl) (hb hbytes d46) hl)⟩
end Cmp5
namespace Cmp3
def yN : MethodName := ⟨"java/lang/StringUTF16", "compress", "([CII)[B"⟩
abbrev yB : ByteArray := jdk_52_method_16_code
theorem d0 : decode yB 0 = .ok (.iload_n 2, 1) := by decide +kernel
theorem d1 : decode yB 1 = .ok (.newarray .byte, 2) := by decide +kernel
theorem d3 : decode yB 3 = .ok (.astore_n 3, 1) := by decide +kernel
theorem d4 : decode yB 4 = .ok (.aload_n 0, 1) := by decide +kernel
theorem d5 : decode yB 5 = .ok (.iload_n 1, 1) := by decide +kernel
theorem d6 : decode yB 6 = .ok (.aload_n 3, 1) := by decide +kernel
theorem d7 : decode yB 7 = .ok (.iconst 0, 1) := by decide +kernel
theorem d8 : decode yB 8 = .ok (.iload_n 2, 1) := by decide +kernel
theorem d9 : decode yB 9 = .ok (.invokestatic 115, 3) := by decide +kernel
theorem d12 : decode yB 12 = .ok (.istore 4, 2) := by decide +kernel
theorem d14 : decode yB 14 = .ok (.iload 4, 2) := by decide +kernel
theorem d16 : decode yB 16 = .ok (.iload_n 2, 1) := by decide +kernel
theorem d17 : decode yB 17 = .ok (.if_icmp (.eq) 40, 3) := by decide +kernel
theorem d57 : decode yB 57 = .ok (.aload_n 3, 1) := by decide +kernel
theorem d58 : decode yB 58 = .ok (.areturn, 1) := by decide +kernel
def site : List Cond := [.arrayClass .byte, Cmp5.tab] ++ staticW U16 115 Cmp5.yN
def tab : Cond := tabOf yN yB 6 (some (.array .byte)) site
def P (b : Addr) (A : Cell) (o len : Nat) (args : Array Value) (s : State) : Prop := args = #[.ref b, .int (Int32.ofNat o), .int (Int32.ofNat len)] ∧ Ch b A s ∧ o + len ≤ A.slots.size ∧ len ≤ 536870912 ∧ ∀ i, i < len → ¬ 255 < cv A (o + i)
def E (b : Addr) (A : Cell) (o len : Nat) (r : Option Value) (s u : State) : Prop := NewArr .byte "[B" len (fun j => .int (lo8 (cv A (o + j)))) r s u ∧ u.heap.size = s.heap.size + 1
/-- no char of the range above 255: a new byte[] of their low bytes -/
theorem law (l : Launch) (b : Addr) (A : Cell) (o len : Nat) : Law l yN 3 3 1 18 yB 6 (some (.array .byte)) site (P b A o len) (E b A o len) [] 1 len := by
  refine Law.of_walk (plainFor_of_name (by decide +kernel)) (by decide +kernel) (by decide +kernel) (by decide) (fun _ _ h => by rw [h.1]; rfl) (fun _ U U' hal hh h => ⟨h.1, h.2.1.mv hal hh, h.2.2⟩) (fun r U U' V V' h1 hal h2 h => ⟨NewArr.mv r U U' V V' h1 hal h2 h.1, by rw [h1, h2]; exact h.2⟩) ?_
  intro p e s m args below meth c s₁ X0 hexec hbytes hml hret hlk hnm hown hh0 W hP
  obtain ⟨rfl, hA, l1, l2, hp⟩ := hP
  have a31 := hA.1.2.2.2
  have c1 : Steps p.tables e below (s₁.setTop (entryFrame m #[.ref b, .int (Int32.ofNat o), .int (Int32.ofNat len)] 6)) (s₁.setTop (mkF m 0 #[.val (.ref b), .val (.int (Int32.ofNat o)), .val (.int (Int32.ofNat len)), .unset, .unset, .unset] [])) := entry rfl
  have c2 : Steps p.tables e below (s₁.setTop (entryFrame m #[.ref b, .int (Int32.ofNat o), .int (Int32.ofNat len)] 6)) (s₁.setTop (mkF m 1 #[.val (.ref b), .val (.int (Int32.ofNat o)), .val (.int (Int32.ofNat len)), .unset, .unset, .unset] [.int (Int32.ofNat len)])) := c1.trans (by
    refine XS.iloadN X0.here hexec rfl (hb hbytes d0) rfl ?_
    exact Steps.refl _)
  obtain ⟨T3, B3, X3, ba3, bs3, bv3, bh3, bf3, st3⟩ := X0.anew hexec (atype := .byte) (wk W (.arrayClass .byte)) rfl (by show len * 1 ≤ _; omega) (by omega) (g := (mkF m 1 #[.val (.ref b), .val (.int (Int32.ofNat o)), .val (.int (Int32.ofNat len)), .unset, .unset, .unset] [.int (Int32.ofNat len)])) rfl (hb hbytes d1) (rest := []) rfl (Nat.le_refl _) (by show 0 + len ≤ len; omega)
  rw [hh0] at ba3 st3
  have kp3 : XT.Kept s T3 := (XT.Kept.of_eq hh0).push bh3
  have hA3 := hA.keep X3.warmed.alike (kp3 _ _ hA.1.1)
  have hne : b ≠ s.heap.size := hA.1.ne
  have c4 : Steps p.tables e below (s₁.setTop (entryFrame m #[.ref b, .int (Int32.ofNat o), .int (Int32.ofNat len)] 6)) (T3.setTop (mkF m 3 #[.val (.ref b), .val (.int (Int32.ofNat o)), .val (.int (Int32.ofNat len)), .unset, .unset, .unset] [.ref s.heap.size])) := c2.trans (st3 _ (Steps.refl _))
  have c5 : Steps p.tables e below (s₁.setTop (entryFrame m #[.ref b, .int (Int32.ofNat o), .int (Int32.ofNat len)] 6)) (T3.setTop (mkF m 9 #[.val (.ref b), .val (.int (Int32.ofNat o)), .val (.int (Int32.ofNat len)), .val (.ref s.heap.size), .unset, .unset] [.int (Int32.ofNat len), .int 0, .ref s.heap.size, .int (Int32.ofNat o), .ref b])) := c4.trans (by
    refine XS.astoreN X3.here hexec rfl (hb hbytes d3) rfl rfl rfl ?_
    refine XS.aloadN X3.here hexec rfl (hb hbytes d4) rfl rfl ?_
    refine XS.iloadN X3.here hexec rfl (hb hbytes d5) rfl ?_
    refine XS.aloadN X3.here hexec rfl (hb hbytes d6) rfl rfl ?_
    refine iconstV X3.here hexec rfl 0 (hb hbytes d7) (by decide) ?_
    refine XS.iloadN X3.here hexec rfl (hb hbytes d8) rfl ?_
    exact Steps.refl _)
  obtain ⟨v6, T6, X6, E6, g6⟩ := X3.callS hexec (Cmp5.law l b A s.heap.size B3 o 0 len) hown (wks W (staticW U16 115 Cmp5.yN)) (wk W Cmp5.tab) (W := 0) (Nat.le_of_ble_eq_true rfl) (Nat.le_of_ble_eq_true rfl) (Nat.le_refl _) (by show 0 + len + 0 ≤ len; omega) (g := (mkF m 9 #[.val (.ref b), .val (.int (Int32.ofNat o)), .val (.int (Int32.ofNat len)), .val (.ref s.heap.size), .unset, .unset] [.int (Int32.ofNat len), .int (Int32.ofNat 0), .ref s.heap.size, .int (Int32.ofNat o), .ref b])) rfl (by rw [hml]; rfl) c5 (argsL := [.ref b, .int (Int32.ofNat o), .ref s.heap.size, .int (Int32.ofNat 0), .int (Int32.ofNat len)]) (rest := []) rfl rfl (by show 2 * 0 + 0 ≤ _; decide) (hb hbytes d9) (⟨rfl, hA3, ba3, hne, l1, by rw [bs3]; simp, hp⟩)
  obtain ⟨rfl, B6, p6, f6⟩ := E6
  have c7 : Steps p.tables e below (s₁.setTop (entryFrame m #[.ref b, .int (Int32.ofNat o), .int (Int32.ofNat len)] 6)) (T6.setTop (mkF m 12 #[.val (.ref b), .val (.int (Int32.ofNat o)), .val (.int (Int32.ofNat len)), .val (.ref s.heap.size), .unset, .unset] [.int (Int32.ofNat len)])) := g6
  have c8 : Steps p.tables e below (s₁.setTop (entryFrame m #[.ref b, .int (Int32.ofNat o), .int (Int32.ofNat len)] 6)) (T6.setTop (mkF m 58 #[.val (.ref b), .val (.int (Int32.ofNat o)), .val (.int (Int32.ofNat len)), .val (.ref s.heap.size), .val (.int (Int32.ofNat len)), .unset] [.ref s.heap.size])) := c7.trans (by
    refine XS.istore X6.here hexec rfl (hb hbytes d12) rfl rfl ?_
    refine XS.iload X6.here hexec rfl (hb hbytes d14) rfl ?_
    refine XS.iloadN X6.here hexec rfl (hb hbytes d16) rfl ?_
    refine XS.icmpYes X6.here hexec rfl (pc0 := 17) rfl (hb hbytes d17) rfl (ii_eq_t rfl) (by decide) rfl ?_
    refine XS.aloadN X6.here hexec rfl (hb hbytes d57) rfl rfl ?_
    exact Steps.refl _)
  have X8 := X6.wide (L' := []) (cells' := 1) (slots' := len) (fun x hx hlt => by
    simp only [List.nil_append, copyLocs, List.mem_map, List.mem_range] at hx
    obtain ⟨i, -, rfl⟩ := hx
    exact absurd hlt (Nat.lt_irrefl _)) (Nat.le_refl _) (by omega)
  exact ⟨T6, some (.ref s.heap.size), _, _, _, X8, rfl, rfl, rfl, (fun h => by cases h), ⟨⟨rfl, B6, ba3.like (X3.warmed.alike.symm.trans X6.warmed.alike) p6.1 f6.1 f6.2.1 f6.2.2.1, f6.2.1.trans bv3, by rw [X6.warmed.alike.findClass, f6.1]; exact bf3, by rw [f6.2.2.1, bs3]; simp, fun j hj => by rw [f6.2.2.2 j, if_pos (by omega)]; rfl, kp3.put p6 (Nat.le_refl _)⟩, by rw [p6.2.2, bh3, hh0]; simp⟩, fun fs hl => c8.trans (X8.areturnOut hexec rfl hret rfl (hb hbytes d58) hl)⟩
end Cmp3
namespace CodL
def yN : MethodName := ⟨"java/lang/StringUTF16", "coderFromArrayLen", "([BI)B"⟩
abbrev yB : ByteArray := jdk_52_method_15_code
theorem d0 : decode yB 0 = .ok (.iload_n 1, 1) := by decide +kernel
theorem d1 : decode yB 1 = .ok (.aload_n 0, 1) := by decide +kernel
theorem d2 : decode yB 2 = .ok (.arraylength, 1) := by decide +kernel
theorem d3 : decode yB 3 = .ok (.isub, 1) := by decide +kernel
theorem d4 : decode yB 4 = .ok (.bipush 31, 2) := by decide +kernel
theorem d6 : decode yB 6 = .ok (.iushr, 1) := by decide +kernel
theorem d7 : decode yB 7 = .ok (.i2b, 1) := by decide +kernel
theorem d8 : decode yB 8 = .ok (.ireturn, 1) := by decide +kernel
def site : List Cond := []
def tab : Cond := tabOf yN yB 2 (some .byte) site
def P (d : Addr) (B : Cell) (args : Array Value) (s : State) : Prop := args = #[.ref d, .int (Int32.ofNat B.slots.size)] ∧ Arr .byte d B s
def E (r : Option Value) (s u : State) : Prop := XT.PureE (some (.int 0)) r s u
/-- an array as long as the number of chars: LATIN1 -/
theorem law (l : Launch) (d : Addr) (B : Cell) : Law l yN 2 2 0 0 yB 2 (some .byte) site (P d B) E [] 0 0 := by
  refine Law.of_walk (plainFor_of_name (by decide +kernel)) (by decide +kernel) (by decide +kernel) (by decide) (fun _ _ h => by rw [h.1]; rfl) (fun _ U U' hal hh h => ⟨h.1, h.2.mv hal hh⟩) (fun r U U' V V' h1 hal h2 h => XT.PureE.mv r U U' V V' h1 hal h2 h) ?_
  intro p e s m args below meth c s₁ X0 hexec hbytes hml hret hlk hnm hown hh0 W hP
  obtain ⟨rfl, hB⟩ := hP
  have hB0 := hB.mv X0.warmed.alike hh0
  have c1 : Steps p.tables e below (s₁.setTop (entryFrame m #[.ref d, .int (Int32.ofNat B.slots.size)] 2)) (s₁.setTop (mkF m 0 #[.val (.ref d), .val (.int (Int32.ofNat B.slots.size))] [])) := entry rfl
  have c2 : Steps p.tables e below (s₁.setTop (entryFrame m #[.ref d, .int (Int32.ofNat B.slots.size)] 2)) (s₁.setTop (mkF m 2 #[.val (.ref d), .val (.int (Int32.ofNat B.slots.size))] [.ref d, .int (Int32.ofNat B.slots.size)])) := c1.trans (by
    refine XS.iloadN X0.here hexec rfl (hb hbytes d0) rfl ?_
    refine XS.aloadN X0.here hexec rfl (hb hbytes d1) rfl rfl ?_
    exact Steps.refl _)
  have c3 : Steps p.tables e below (s₁.setTop (entryFrame m #[.ref d, .int (Int32.ofNat B.slots.size)] 2)) (s₁.setTop (mkF m 8 #[.val (.ref d), .val (.int (Int32.ofNat B.slots.size))] [.int (lo8 (ushr (Int32.ofNat B.slots.size - Int32.ofNat B.slots.size) 31))])) := c2.trans (by
    refine X0.alen hexec hB0 rfl rfl (hb hbytes d2) ?_
    refine XS.isub X0.here hexec rfl (hb hbytes d3) rfl ?_
    refine bipushV X0.here hexec rfl 31 (hb hbytes d4) (by decide) ?_
    refine iushr X0.here hexec rfl (hb hbytes d6) rfl ?_
    refine i2b X0.here hexec rfl (hb hbytes d7) rfl ?_
    exact Steps.refl _)
  have e0 : lo8 (ushr (Int32.ofNat B.slots.size - Int32.ofNat B.slots.size) 31) = 0 := by rw [Int32.sub_self]; decide
  rw [e0] at c3
  exact ⟨s₁, some (.int 0), _, _, _, X0, rfl, rfl, rfl, (fun h => by cases h), ⟨rfl, hh0⟩, fun fs hl => c3.trans (X0.ireturnOut hexec hret rfl (Or.inr (Or.inr (Or.inl rfl))) (hb hbytes d8) hl)⟩
end CodL
/-- the String at a is Latin-1 over a new byte[] (the heap's one new cell): the low bytes of the len chars of A from o on; every cell but a is kept -/
def Got (a : Addr) (D : Cell) (fV fC : Field) (A : Cell) (o len : Nat) (r : Option Value) (s u : State) : Prop := r = none ∧ ∃ D' V : Cell, Blank "java/lang/String" a D' u ∧ Same D D' [fV.slot, fC.slot] ∧ D'.slots[fV.slot]? = some (.ref s.heap.size) ∧ D'.slots[fC.slot]? = some (.int 0) ∧ Arr .byte s.heap.size V u ∧ V.vm = .none ∧ u.vm.findClass "[B" = some V.cls ∧ V.slots.size = len ∧ (∀ j, j < len → V.slots[j]? = some (.int (lo8 (cv A (o + j))))) ∧ (∀ (y : Addr) (c : Cell), y ≠ a → s.heap[y]? = some c → u.heap[y]? = some c) ∧ u.heap.size = s.heap.size + 1
theorem Got.mv {a : Addr} {D A : Cell} {fV fC : Field} {o len : Nat} : ∀ r (U U' V V' : State), U'.heap = U.heap → V.vm.Alike V'.vm → V'.heap = V.heap → Got a D fV fC A o len r U V → Got a D fV fC A o len r U' V' :=
  fun r U U' V V' h1 hal h2 ⟨e0, D', X, a1, a2, a3, a4, a5, a6, a7, a8, a9, a10, a11⟩ => ⟨e0, D', X, a1.mv hal h2, a2, by rw [h1]; exact a3, a4, by rw [h1]; exact a5.mv hal h2, a6, by rw [hal.findClass]; exact a7, a8, a9, by rw [h1, h2]; exact a10, by rw [h1, h2]; exact a11⟩
namespace New4
def yN : MethodName := ⟨"java/lang/String", "<init>", "([CIILjava/lang/Void;)V"⟩
abbrev yB : ByteArray := jdk_42_method_149_code
theorem d0 : decode yB 0 = .ok (.aload_n 0, 1) := by decide +kernel
theorem d1 : decode yB 1 = .ok (.invokespecial 1, 3) := by decide +kernel
theorem d4 : decode yB 4 = .ok (.iload_n 3, 1) := by decide +kernel
theorem d5 : decode yB 5 = .ok (.ifCond (.ne) 22, 3) := by decide +kernel
theorem d27 : decode yB 27 = .ok (.getstatic 38, 3) := by decide +kernel
theorem d30 : decode yB 30 = .ok (.ifCond (.eq) 28, 3) := by decide +kernel
theorem d33 : decode yB 33 = .ok (.aload_n 1, 1) := by decide +kernel
theorem d34 : decode yB 34 = .ok (.iload_n 2, 1) := by decide +kernel
theorem d35 : decode yB 35 = .ok (.iload_n 3, 1) := by decide +kernel
theorem d36 : decode yB 36 = .ok (.invokestatic 177, 3) := by decide +kernel
theorem d39 : decode yB 39 = .ok (.astore 5, 2) := by decide +kernel
theorem d41 : decode yB 41 = .ok (.aload_n 0, 1) := by decide +kernel
theorem d42 : decode yB 42 = .ok (.aload 5, 2) := by decide +kernel
theorem d44 : decode yB 44 = .ok (.iload_n 3, 1) := by decide +kernel
theorem d45 : decode yB 45 = .ok (.invokestatic 47, 3) := by decide +kernel
theorem d48 : decode yB 48 = .ok (.putfield 15, 3) := by decide +kernel
theorem d51 : decode yB 51 = .ok (.aload_n 0, 1) := by decide +kernel
theorem d52 : decode yB 52 = .ok (.aload 5, 2) := by decide +kernel
theorem d54 : decode yB 54 = .ok (.putfield 9, 3) := by decide +kernel
theorem d57 : decode yB 57 = .ok (.return_, 1) := by decide +kernel
def site : List Cond := [.fieldLink "java/lang/String" 38 "java/lang/String" "COMPACT_STRINGS" "Z", Cmp3.tab, CodL.tab, .laysFinal "java/lang/String" "java/lang/String" "value" "[B", .fieldLink "java/lang/String" 9 "java/lang/String" "value" "[B", .laysFinal "java/lang/String" "java/lang/String" "coder" "B", .fieldLink "java/lang/String" 15 "java/lang/String" "coder" "B"] ++ objW "java/lang/String" 1 ++ staticW "java/lang/String" 177 Cmp3.yN ++ staticW "java/lang/String" 47 CodL.yN
def tab : Cond := tabOf yN yB 6 none site
def P (a : Addr) (D : Cell) (fV fC : Field) (b : Addr) (A : Cell) (z : Int32) (o len : Nat) (args : Array Value) (s : State) : Prop := args = #[.ref a, .ref b, .int (Int32.ofNat o), .int (Int32.ofNat len), .null] ∧ Blank "java/lang/String" a D s ∧ Found "java/lang/String" "value" "[B" fV s ∧ Found "java/lang/String" "coder" "B" fC s ∧ Ch b A s ∧ StaticIs s "java/lang/String" "COMPACT_STRINGS" "Z" (.int z) ∧ ¬ z = 0 ∧ 0 < len ∧ o + len ≤ A.slots.size ∧ len ≤ 536870912 ∧ ∀ i, i < len → ¬ 255 < cv A (o + i)
def E (a : Addr) (D : Cell) (fV fC : Field) (A : Cell) (o len : Nat) (r : Option Value) (s u : State) : Prop := Got a D fV fC A o len r s u
/-- len > 0, no char of the range above 255: a Latin-1 String of their low bytes -/
theorem law (l : Launch) (a : Addr) (D : Cell) (fV fC : Field) (b : Addr) (A : Cell) (z : Int32) (o len : Nat) : Law l yN 5 4 2 35 yB 6 none site (P a D fV fC b A z o len) (E a D fV fC A o len) [⟨a, fC.slot⟩, ⟨a, fV.slot⟩] 1 len := by
  refine Law.of_walk (plainFor_of_name (by decide +kernel)) (by decide +kernel) (by decide +kernel) (by decide) (fun _ _ h => by rw [h.1]; rfl) (fun _ U U' hal hh h => ⟨h.1, h.2.1.mv hal hh, h.2.2.1.al hal, h.2.2.2.1.al hal, h.2.2.2.2.1.mv hal hh, h.2.2.2.2.2.1.there hal hh, h.2.2.2.2.2.2⟩) (fun r U U' V V' h1 hal h2 h => Got.mv r U U' V V' h1 hal h2 h) ?_
  intro p e s m args below meth c s₁ X0 hexec hbytes hml hret hlk hnm hown hh0 W hP
  obtain ⟨rfl, hB, f1, f2, hA, s1, hz, l0, l1, l2, hp⟩ := hP
  have a31 := hA.1.2.2.2
  have c1 : Steps p.tables e below (s₁.setTop (entryFrame m #[.ref a, .ref b, .int (Int32.ofNat o), .int (Int32.ofNat len), .null] 6)) (s₁.setTop (mkF m 0 #[.val (.ref a), .val (.ref b), .val (.int (Int32.ofNat o)), .val (.int (Int32.ofNat len)), .val .null, .unset] [])) := entry rfl
  have c2 : Steps p.tables e below (s₁.setTop (entryFrame m #[.ref a, .ref b, .int (Int32.ofNat o), .int (Int32.ofNat len), .null] 6)) (s₁.setTop (mkF m 1 #[.val (.ref a), .val (.ref b), .val (.int (Int32.ofNat o)), .val (.int (Int32.ofNat len)), .val .null, .unset] [.ref a])) := c1.trans (by
    refine XS.aloadN X0.here hexec rfl (hb hbytes d0) rfl rfl ?_
    exact Steps.refl _)
  obtain ⟨T3, X3, q3, st3⟩ := X0.oinit hexec hown (wks W (objW "java/lang/String" 1)) (g := (mkF m 1 #[.val (.ref a), .val (.ref b), .val (.int (Int32.ofNat o)), .val (.int (Int32.ofNat len)), .val .null, .unset] [.ref a])) rfl (by rw [hml]; rfl) (rest := []) rfl (hb hbytes d1) (W := 0) (by show 2 * 0 + 0 ≤ _; decide) (Nat.le_of_ble_eq_true rfl) (Nat.le_of_ble_eq_true rfl)
  have hh3 := q3.trans hh0
  have c4 : Steps p.tables e below (s₁.setTop (entryFrame m #[.ref a, .ref b, .int (Int32.ofNat o), .int (Int32.ofNat len), .null] 6)) (T3.setTop (mkF m 27 #[.val (.ref a), .val (.ref b), .val (.int (Int32.ofNat o)), .val (.int (Int32.ofNat len)), .val .null, .unset] [])) := (c2.trans (st3 _ (Steps.refl _))).trans (by
    refine XS.iloadN X3.here hexec rfl (hb hbytes d4) rfl ?_
    refine XS.ifYes X3.here hexec rfl (pc0 := 5) rfl (hb hbytes d5) rfl (i0_ne_t (nz32 (by omega) l0)) (by decide) rfl ?_
    exact Steps.refl _)
  obtain ⟨T5, X5, q5, st5⟩ := X3.sget hexec hown (wk W (.fieldLink "java/lang/String" 38 "java/lang/String" "COMPACT_STRINGS" "Z")) s1 (fun _ _ h => by rw [hh3]; exact h) (g := (mkF m 27 #[.val (.ref a), .val (.ref b), .val (.int (Int32.ofNat o)), .val (.int (Int32.ofNat len)), .val .null, .unset] [])) rfl (hb hbytes d27)
  have hh5 := q5.trans hh3
  have c6 : Steps p.tables e below (s₁.setTop (entryFrame m #[.ref a, .ref b, .int (Int32.ofNat o), .int (Int32.ofNat len), .null] 6)) (T5.setTop (mkF m 30 #[.val (.ref a), .val (.ref b), .val (.int (Int32.ofNat o)), .val (.int (Int32.ofNat len)), .val .null, .unset] [.int z])) := c4.trans (st5 _ (Steps.refl _))
  have c7 : Steps p.tables e below (s₁.setTop (entryFrame m #[.ref a, .ref b, .int (Int32.ofNat o), .int (Int32.ofNat len), .null] 6)) (T5.setTop (mkF m 36 #[.val (.ref a), .val (.ref b), .val (.int (Int32.ofNat o)), .val (.int (Int32.ofNat len)), .val .null, .unset] [.int (Int32.ofNat len), .int (Int32.ofNat o), .ref b])) := c6.trans (by
    refine XS.ifNo X5.here hexec rfl (hb hbytes d30) rfl (i0_eq_f hz) ?_
    refine XS.aloadN X5.here hexec rfl (hb hbytes d33) rfl rfl ?_
    refine XS.iloadN X5.here hexec rfl (hb hbytes d34) rfl ?_
    refine XS.iloadN X5.here hexec rfl (hb hbytes d35) rfl ?_
    exact Steps.refl _)
  obtain ⟨v8, T8, X8, E8, g8⟩ := X5.callS hexec (Cmp3.law l b A o len) hown (wks W (staticW "java/lang/String" 177 Cmp3.yN)) (wk W Cmp3.tab) (W := 0) (Nat.le_of_ble_eq_true rfl) (Nat.le_of_ble_eq_true rfl) (Nat.le_refl _) (by show 0 + len ≤ len; omega) (g := (mkF m 36 #[.val (.ref a), .val (.ref b), .val (.int (Int32.ofNat o)), .val (.int (Int32.ofNat len)), .val .null, .unset] [.int (Int32.ofNat len), .int (Int32.ofNat o), .ref b])) rfl (by rw [hml]; rfl) c7 (argsL := [.ref b, .int (Int32.ofNat o), .int (Int32.ofNat len)]) (rest := []) rfl rfl (by show 2 * 0 + 0 ≤ _; decide) (hb hbytes d36) (⟨rfl, hA.mv X5.warmed.alike hh5, l1, l2, hp⟩)
  obtain ⟨e8, z8⟩ := E8
  obtain ⟨rfl, N, n1, n2, n3, n4, n5, n6⟩ := NewArr.mv _ T5 s _ _ hh5.symm (Vm.Alike.refl _) rfl e8
  rw [hh5] at z8
  have hB1 := hB.keep X8.warmed.alike (n6 _ _ hB.1)
  have hne : s.heap.size ≠ a := (Nat.ne_of_lt (Array.getElem?_eq_some_iff.mp hB.1).1).symm
  have c9 : Steps p.tables e below (s₁.setTop (entryFrame m #[.ref a, .ref b, .int (Int32.ofNat o), .int (Int32.ofNat len), .null] 6)) (T8.setTop (mkF m 39 #[.val (.ref a), .val (.ref b), .val (.int (Int32.ofNat o)), .val (.int (Int32.ofNat len)), .val .null, .unset] [.ref s.heap.size])) := g8
  have c10 : Steps p.tables e below (s₁.setTop (entryFrame m #[.ref a, .ref b, .int (Int32.ofNat o), .int (Int32.ofNat len), .null] 6)) (T8.setTop (mkF m 45 #[.val (.ref a), .val (.ref b), .val (.int (Int32.ofNat o)), .val (.int (Int32.ofNat len)), .val .null, .val (.ref s.heap.size)] [.int (Int32.ofNat N.slots.size), .ref s.heap.size, .ref a])) := by
    have hc : Steps p.tables e below (s₁.setTop (entryFrame m #[.ref a, .ref b, .int (Int32.ofNat o), .int (Int32.ofNat len), .null] 6)) (T8.setTop (mkF m 45 #[.val (.ref a), .val (.ref b), .val (.int (Int32.ofNat o)), .val (.int (Int32.ofNat len)), .val .null, .val (.ref s.heap.size)] [.int (Int32.ofNat len), .ref s.heap.size, .ref a])) := c9.trans (by
      refine XS.astore X8.here hexec rfl (hb hbytes d39) rfl rfl rfl ?_
      refine XS.aloadN X8.here hexec rfl (hb hbytes d41) rfl rfl ?_
      refine XS.aload X8.here hexec rfl (hb hbytes d42) rfl rfl ?_
      refine XS.iloadN X8.here hexec rfl (hb hbytes d44) rfl ?_
      exact Steps.refl _)
    rw [n4]; exact hc
  obtain ⟨v11, T11, X11, E11, g11⟩ := X8.callS hexec (CodL.law l s.heap.size N) hown (wks W (staticW "java/lang/String" 47 CodL.yN)) (wk W CodL.tab) (W := 1) (Nat.le_of_ble_eq_true rfl) (Nat.le_of_ble_eq_true rfl) (Nat.le_refl _) (by show 0 + len + 0 ≤ len; omega) (g := (mkF m 45 #[.val (.ref a), .val (.ref b), .val (.int (Int32.ofNat o)), .val (.int (Int32.ofNat len)), .val .null, .val (.ref s.heap.size)] [.int (Int32.ofNat N.slots.size), .ref s.heap.size, .ref a])) rfl (by rw [hml]; rfl) c10 (argsL := [.ref s.heap.size, .int (Int32.ofNat N.slots.size)]) (rest := [.ref a]) rfl rfl (by show 2 * 0 + (1 + 0) ≤ _; decide) (hb hbytes d45) (⟨rfl, n1⟩)
  obtain ⟨rfl, q11⟩ := E11
  have hB11 := hB1.mv (X8.warmed.alike.symm.trans X11.warmed.alike) q11
  have c12 : Steps p.tables e below (s₁.setTop (entryFrame m #[.ref a, .ref b, .int (Int32.ofNat o), .int (Int32.ofNat len), .null] 6)) (T11.setTop (mkF m 48 #[.val (.ref a), .val (.ref b), .val (.int (Int32.ofNat o)), .val (.int (Int32.ofNat len)), .val .null, .val (.ref s.heap.size)] [.int 0, .ref a])) := g11
  obtain ⟨T13, X13, p13, bl13, sl13, st13⟩ := X11.finit hexec hown (wk W (.fieldLink "java/lang/String" 15 "java/lang/String" "coder" "B")) (Or.inr ⟨_, (wk W (.laysFinal "java/lang/String" "java/lang/String" "coder" "B"))⟩) (Or.inl ⟨rfl, hnm⟩) f2 (Or.inl rfl) hB11 (t := .byte) (by decide +kernel) rfl (g := (mkF m 48 #[.val (.ref a), .val (.ref b), .val (.int (Int32.ofNat o)), .val (.int (Int32.ofNat len)), .val .null, .val (.ref s.heap.size)] [.int 0, .ref a])) rfl (rest := []) rfl (hb hbytes d48)
  have c14 : Steps p.tables e below (s₁.setTop (entryFrame m #[.ref a, .ref b, .int (Int32.ofNat o), .int (Int32.ofNat len), .null] 6)) (T13.setTop (mkF m 54 #[.val (.ref a), .val (.ref b), .val (.int (Int32.ofNat o)), .val (.int (Int32.ofNat len)), .val .null, .val (.ref s.heap.size)] [.ref s.heap.size, .ref a])) := (c12.trans (st13 _ (Steps.refl _))).trans (by
    refine XS.aloadN X13.here hexec rfl (hb hbytes d51) rfl rfl ?_
    refine XS.aload X13.here hexec rfl (hb hbytes d52) rfl rfl ?_
    exact Steps.refl _)
  obtain ⟨T15, X15, p15, bl15, sl15, st15⟩ := X13.finit hexec hown (wk W (.fieldLink "java/lang/String" 9 "java/lang/String" "value" "[B")) (Or.inr ⟨_, (wk W (.laysFinal "java/lang/String" "java/lang/String" "value" "[B"))⟩) (Or.inl ⟨rfl, hnm⟩) f1 (Or.inl rfl) bl13 (t := (.array .byte)) (by decide +kernel) rfl (g := (mkF m 54 #[.val (.ref a), .val (.ref b), .val (.int (Int32.ofNat o)), .val (.int (Int32.ofNat len)), .val .null, .val (.ref s.heap.size)] [.ref s.heap.size, .ref a])) rfl (rest := []) rfl (hb hbytes d54)
  have c16 : Steps p.tables e below (s₁.setTop (entryFrame m #[.ref a, .ref b, .int (Int32.ofNat o), .int (Int32.ofNat len), .null] 6)) (T15.setTop (mkF m 57 #[.val (.ref a), .val (.ref b), .val (.int (Int32.ofNat o)), .val (.int (Int32.ofNat len)), .val .null, .val (.ref s.heap.size)] [])) := c14.trans (st15 _ (Steps.refl _))
  have ap := apart (Or.inr ⟨_, (wk W (.laysFinal "java/lang/String" "java/lang/String" "value" "[B"))⟩) (Or.inr ⟨_, (wk W (.laysFinal "java/lang/String" "java/lang/String" "coder" "B"))⟩) f1 f2 (t₁ := .array .byte) (t₂ := .byte) (by decide +kernel) (by decide +kernel) (by decide)
  have al := X8.warmed.alike.symm.trans X15.warmed.alike
  have n7 : T11.heap[s.heap.size]? = some N := by rw [q11]; exact n1.1
  exact ⟨T15, none, _, _, _, X15, by simp, rfl, by omega, (fun _ => rfl), ⟨rfl, _, N, bl15, ((Same.refl D _).set _ (by simp)).set _ (by simp), sl15, (Cell.slots_setSlot_ne _ ap).trans sl13, n1.keep al (p15.other hne (p13.other hne n7)), n2, by rw [al.findClass]; exact n3, n4, n5, fun y c h1 h2 => p15.other h1 (p13.other h1 (by rw [q11]; exact n6 y c h2)), by rw [p15.2.2, p13.2.2, q11]; exact z8⟩, fun fs hl => c16.trans (X15.returnOut hexec hret (hb hbytes d57) hl)⟩
end New4
namespace New1
def yN : MethodName := ⟨"java/lang/String", "<init>", "([C)V"⟩
abbrev yB : ByteArray := jdk_42_method_3_code
theorem d0 : decode yB 0 = .ok (.aload_n 0, 1) := by decide +kernel
theorem d1 : decode yB 1 = .ok (.aload_n 1, 1) := by decide +kernel
theorem d2 : decode yB 2 = .ok (.iconst 0, 1) := by decide +kernel
theorem d3 : decode yB 3 = .ok (.aload_n 1, 1) := by decide +kernel
theorem d4 : decode yB 4 = .ok (.arraylength, 1) := by decide +kernel
theorem d5 : decode yB 5 = .ok (.aconst_null, 1) := by decide +kernel
theorem d6 : decode yB 6 = .ok (.invokespecial 27, 3) := by decide +kernel
theorem d9 : decode yB 9 = .ok (.return_, 1) := by decide +kernel
def site : List Cond := [New4.tab] ++ initW "java/lang/String" 27 New4.yN
def tab : Cond := tabOf yN yB 2 none site
def P (a : Addr) (D : Cell) (fV fC : Field) (b : Addr) (A : Cell) (z : Int32) (args : Array Value) (s : State) : Prop := args = #[.ref a, .ref b] ∧ Blank "java/lang/String" a D s ∧ Found "java/lang/String" "value" "[B" fV s ∧ Found "java/lang/String" "coder" "B" fC s ∧ Ch b A s ∧ StaticIs s "java/lang/String" "COMPACT_STRINGS" "Z" (.int z) ∧ ¬ z = 0 ∧ 0 < A.slots.size ∧ A.slots.size ≤ 536870912 ∧ ∀ i, i < A.slots.size → ¬ 255 < cv A i
def E (a : Addr) (D : Cell) (fV fC : Field) (A : Cell) (r : Option Value) (s u : State) : Prop := Got a D fV fC A 0 A.slots.size r s u
/-- new String(chars), not empty, no char above 255: a Latin-1 String of their low bytes -/
theorem law (l : Launch) (a : Addr) (D : Cell) (fV fC : Field) (b : Addr) (A : Cell) (z : Int32) : Law l yN 2 1 3 52 yB 2 none site (P a D fV fC b A z) (E a D fV fC A) [⟨a, fC.slot⟩, ⟨a, fV.slot⟩] 1 A.slots.size := by
  refine Law.of_walk (plainFor_of_name (by decide +kernel)) (by decide +kernel) (by decide +kernel) (by decide) (fun _ _ h => by rw [h.1]; rfl) (fun _ U U' hal hh h => ⟨h.1, h.2.1.mv hal hh, h.2.2.1.al hal, h.2.2.2.1.al hal, h.2.2.2.2.1.mv hal hh, h.2.2.2.2.2.1.there hal hh, h.2.2.2.2.2.2⟩) (fun r U U' V V' h1 hal h2 h => Got.mv r U U' V V' h1 hal h2 h) ?_
  intro p e s m args below meth c s₁ X0 hexec hbytes hml hret hlk hnm hown hh0 W hP
  obtain ⟨rfl, hB, f1, f2, hA, s1, hz, l0, l2, hp⟩ := hP
  have c1 : Steps p.tables e below (s₁.setTop (entryFrame m #[.ref a, .ref b] 2)) (s₁.setTop (mkF m 0 #[.val (.ref a), .val (.ref b)] [])) := entry rfl
  have c2 : Steps p.tables e below (s₁.setTop (entryFrame m #[.ref a, .ref b] 2)) (s₁.setTop (mkF m 6 #[.val (.ref a), .val (.ref b)] [.null, .int (Int32.ofNat A.slots.size), .int 0, .ref b, .ref a])) := c1.trans (by
    refine XS.aloadN X0.here hexec rfl (hb hbytes d0) rfl rfl ?_
    refine XS.aloadN X0.here hexec rfl (hb hbytes d1) rfl rfl ?_
    refine iconstV X0.here hexec rfl 0 (hb hbytes d2) (by decide) ?_
    refine XS.aloadN X0.here hexec rfl (hb hbytes d3) rfl rfl ?_
    refine X0.alen hexec (hA.1.mv X0.warmed.alike hh0) rfl rfl (hb hbytes d4) ?_
    refine XS.aconstNull X0.here hexec rfl (hb hbytes d5) ?_
    exact Steps.refl _)
  obtain ⟨v3, T3, X3, E3, g3⟩ := X0.callN hexec (New4.law l a D fV fC b A z 0 A.slots.size) rfl hown (wks W (initW "java/lang/String" 27 New4.yN)) (W New4.tab (by simp only [site, List.mem_cons, List.mem_append, true_or, or_true])) (W := 0) (Nat.le_of_ble_eq_true rfl) (Nat.le_of_ble_eq_true rfl) (Nat.le_refl _) (by show 0 + A.slots.size ≤ A.slots.size; omega) (g := (mkF m 6 #[.val (.ref a), .val (.ref b)] [.null, .int (Int32.ofNat A.slots.size), .int (Int32.ofNat 0), .ref b, .ref a])) rfl (by rw [hml]; rfl) c2 (argsL := [.ref b, .int (Int32.ofNat 0), .int (Int32.ofNat A.slots.size), .null]) (rest := []) rfl rfl (by show 2 * 0 + 0 ≤ _; decide) (hb hbytes d6) (⟨rfl, hB.mv X0.warmed.alike hh0, f1.al X0.warmed.alike, f2.al X0.warmed.alike, hA.mv X0.warmed.alike hh0, s1.there X0.warmed.alike hh0, hz, l0, by omega, l2, fun i hi => by rw [Nat.zero_add]; exact hp i hi⟩)
  have e0 := Got.mv _ s₁ s _ _ hh0.symm (Vm.Alike.refl _) rfl E3
  obtain rfl := e0.1
  have c4 : Steps p.tables e below (s₁.setTop (entryFrame m #[.ref a, .ref b] 2)) (T3.setTop (mkF m 9 #[.val (.ref a), .val (.ref b)] [])) := g3
  exact ⟨T3, none, _, _, _, X3, by simp, rfl, by omega, (fun _ => rfl), e0, fun fs hl => c4.trans (X3.returnOut hexec hret (hb hbytes d9) hl)⟩
theorem pays {l : Launch} {R : Room} {p : Program} {e : Env} {below : List Frame} {s : State} {sargs : Array Value} {len W : Nat} (a : Addr) (D : Cell) (fV fC : Field) (b : Addr) (A : Cell) (z : Int32) (htab : tab.before sargs s = true) (hfr : 4 ≤ R.frames) (hlo : W + 65 ≤ R.locals) :
    Back l R p e below s sargs yN len W (fun A₁ a₁ => A₁.cells + 1 ≤ R.cells ∧ A₁.slots + A.slots.size ≤ R.slots ∧ P a D fV fC b A z a₁ A₁.U) (fun A₁ _ v₁ B₁ => E a D fV fC A v₁ A₁.U B₁.U ∧ B₁.locs = A₁.locs ++ [⟨a, fC.slot⟩, ⟨a, fV.slot⟩] ∧ B₁.cells = A₁.cells + 1 ∧ B₁.slots = A₁.slots + A.slots.size) :=
  (law l a D fV fC b A z).pays htab hfr (by omega)
end New1
/-- the byte, read back as charAt reads it, is the char -/
theorem lo8_mask {x : Int32} (h0 : ¬ x < 0) (h1 : ¬ 255 < x) : lo8 x &&& 255 = x := by
  have t : ∀ k : Fin 256, lo8 (Int32.ofNat k.val) &&& 255 = Int32.ofNat k.val := by decide +kernel
  rw [Int32.lt_iff_toInt_lt] at h0 h1
  have e0 : (0 : Int32).toInt = 0 := rfl
  have e1 : (255 : Int32).toInt = 255 := rfl
  obtain ⟨k, hk⟩ : ∃ k : Nat, x.toInt = k := ⟨x.toInt.toNat, by omega⟩
  have hx : x = Int32.ofNat k := Int32.toInt_inj.mp (by rw [hk, Int32.toInt_ofNat_small (by omega)])
  rw [hx]
  exact t ⟨k, by omega⟩
end StrChars
namespace StrChars.Road
open Jvm Sem ClassFile Op Lib Jvm.Stand Jvm.Free Jvm.Free.XT
open Jvm.Lib.Cold (StaticIs)
abbrev ST : String := "java/lang/String"
/-- every table word that New1's law asks, flat -/
abbrev words : List Jvm.Cond := [.code New1.yN New1.yB 2 none, .initialized ST, .methodLink ST 27 New4.yN, .instanceMethod New4.yN,
  .code New4.yN New4.yB 6 none, .fieldLink ST 38 ST "COMPACT_STRINGS" "Z", .laysFinal ST ST "value" "[B", .fieldLink ST 9 ST "value" "[B", .laysFinal ST ST "coder" "B", .fieldLink ST 15 ST "coder" "B",
  .methodLink ST 1 Lib.objectInit, .instanceMethod Lib.objectInit, .code Lib.objectInit ⟨#[0xb1]⟩ 1 none, .methodLink ST 177 Cmp3.yN, .static Cmp3.yN, .methodLink ST 47 CodL.yN, .static CodL.yN,
  .code Cmp3.yN Cmp3.yB 6 (some (.array .byte)), .initialized U16, .arrayClass .byte, .methodLink U16 115 Cmp5.yN, .static Cmp5.yN, .code Cmp5.yN Cmp5.yB 7 (some .int), .code CodL.yN CodL.yB 2 (some .byte)]
theorem tab_of {a : Array Value} {s : State} (h : ∀ w ∈ words, w.before a s = true) : New1.tab.before a s = true := by
  have h5 : Cmp5.tab.before a s = true := unparts (wk h (.code Cmp5.yN Cmp5.yB 7 (some .int))) (wks h (.initialized Cmp5.yN.cls :: Cmp5.site))
  have hc : CodL.tab.before a s = true := unparts (wk h (.code CodL.yN CodL.yB 2 (some .byte))) (wks h (.initialized CodL.yN.cls :: CodL.site))
  have q5 : ∀ w ∈ Cmp5.tab :: words, w.before a s = true := fun w hw => (List.mem_cons.mp hw).elim (fun e => e ▸ h5) (h w)
  have h3 : Cmp3.tab.before a s = true := unparts (wk q5 (.code Cmp3.yN Cmp3.yB 6 (some (.array .byte)))) (wks q5 (.initialized Cmp3.yN.cls :: Cmp3.site))
  have q3 : ∀ w ∈ Cmp3.tab :: CodL.tab :: words, w.before a s = true := fun w hw => (List.mem_cons.mp hw).elim (fun e => e ▸ h3) fun hw => (List.mem_cons.mp hw).elim (fun e => e ▸ hc) (h w)
  have h4 : New4.tab.before a s = true := unparts (wk q3 (.code New4.yN New4.yB 6 none)) (wks q3 (.initialized New4.yN.cls :: New4.site))
  have q4 : ∀ w ∈ New4.tab :: words, w.before a s = true := fun w hw => (List.mem_cons.mp hw).elim (fun e => e ▸ h4) (h w)
  exact unparts (wk q4 (.code New1.yN New1.yB 2 none)) (wks q4 (.initialized New1.yN.cls :: New1.site))
/-- the words ride from the start Z to the walk's own state -/
theorem moved {Z s : State} {a0 args : Array Value} (hZ : Z.Warmed39 s.vm) (hw : ∀ d ∈ words, d.before a0 Z = true) : ∀ d ∈ words, d.before args s = true := fun d hd => by
  have q := hw d hd
  have t : ∀ d ∈ words, d = .arrayClass .byte ∨ (d.onTables && d.keepsFace) = true := by decide +kernel
  rcases t d hd with rfl | t
  · exact RoadKit.mvA hZ q
  · exact RoadKit.mv hZ q t
/-- WHAT COMES BACK, over the tables of the start Z: h the heap at the call, h' behind it -/
def Q (Z : State) (x : Addr) (A : Cell) (h : Heap) (v : Option Value) (h' : Heap) (L : List Loc) : Prop := v = none ∧ (∀ y ∈ L, y.base = x) ∧ RoadKit.Keep h h' [x] ∧ h'.size = h.size + 1 ∧ RoadKit.Exa Z h' x ST ∧ RoadKit.Fld Z h' x ST "value" "[B" (.ref h.size) ∧ RoadKit.Fld Z h' x ST "coder" "B" (.int 0) ∧
  (∃ V : Cell, RoadKit.Arr Z h' h.size V .byte ∧ V.vm = .none ∧ Z.vm.findClass "[B" = some V.cls ∧ V.slots.size = A.slots.size ∧ ∀ j, j < A.slots.size → V.slots[j]? = some (.int (lo8 (cv A j)))) ∧
  ∀ (O n d : String) (w : Value), RoadKit.Fld Z h x O n d w → RoadKit.slotOf Z O n d ≠ RoadKit.slotOf Z ST "value" "[B" → RoadKit.slotOf Z O n d ≠ RoadKit.slotOf Z ST "coder" "B" → RoadKit.Fld Z h' x O n d w
/-- **new String(chars) AT A CALL, IN THE ROAD'S FORM**: for specialBack behind newO: x the fresh String, b the char[] with the cell A -/
theorem back {p : Program} {l : Launch} {e : Env} {R : Room} {s : State} {args : Array Value} {below : List Frame} {len W : Nat} {Z : State} {a0 : Array Value} {h : Heap} (hZ : Z.Warmed39 s.vm) (hw : ∀ d ∈ words, d.before a0 Z = true) {kI : Nat} (wi : (Jvm.Cond.instantiable ST kI).before a0 Z = true)
    {x b : Addr} {A : Cell} {z : Int32} {v0 c0 : Value} (E : RoadKit.Exa Z h x ST) (V : RoadKit.Fld Z h x ST "value" "[B" v0) (C : RoadKit.Fld Z h x ST "coder" "B" c0) (K : RoadKit.Arr Z h b A .char) (hty : Typed .char A) (S : RoadKit.Sta Z h ST "COMPACT_STRINGS" "Z" (.int z)) (hz : ¬ z = 0)
    (l0 : 0 < A.slots.size) (l2 : A.slots.size ≤ 536870912) (hp : ∀ i, i < A.slots.size → ¬ 255 < cv A i) (hfr : 4 ≤ R.frames) (hlo : W + 65 ≤ R.locals) :
    Back l R p e below s args New1.yN len W (fun P a => a = #[.ref x, .ref b] ∧ P.U.heap = h ∧ P.cells + 1 ≤ R.cells ∧ P.slots + A.slots.size ≤ R.slots)
      (fun P _ v B => ∃ L, Q Z x A h v B.U.heap L ∧ B.locs = P.locs ++ L ∧ B.cells = P.cells + 1 ∧ B.slots = P.slots + A.slots.size) := by
  intro m meth c P g ig mk a X hg hsize hdg hW hn hp'
  obtain ⟨rfl, rfl, r1, r2⟩ := hp'
  have al : Z.vm.Alike P.U.vm := hZ.alike.trans X.warmed.alike
  obtain ⟨D, cfV, kV, iV, fV, hD, gV, stV, knV, obV, asV, slV⟩ := id V
  obtain ⟨D', cfC, kC, iC, fC, hD', gC, stC, -, -, asC, slC⟩ := id C
  cases hD.symm.trans hD'
  obtain ⟨D2, kD, e1, e2, e3, e4, e5⟩ := id E
  cases hD.symm.trans e1
  obtain ⟨c2, k2, i1, i2, i3, -⟩ := Cond.instantiable_spec wi
  cases e2.symm.trans i1
  cases e3.symm.trans i2
  obtain ⟨kU, u1, u2⟩ := al.2.2 _ _ e3
  have hB : Blank ST x D P.U := ⟨hD, ⟨knV, fun q hq => by rw [hq] at obV; cases obV⟩, by rw [al.findClass]; exact e2, kU, u1, by rw [u2]; exact i3, by rw [u2]; exact e5 i3⟩
  have F1 : Found ST "value" "[B" fV P.U := ⟨SBG.found_only al ⟨cfV, kV, iV, gV⟩, stV⟩
  have F2 : Found ST "coder" "B" fC P.U := ⟨SBG.found_only al ⟨cfC, kC, iC, gC⟩, stC⟩
  have hA : Ch b A P.U := ⟨⟨K.1, State.isArrayOf_alike al K.2.1, K.2.2, by omega⟩, hty⟩
  have hS : StaticIs P.U ST "COMPACT_STRINGS" "Z" (.int z) := by
    obtain ⟨cfS, iS, kS, fS, st, cS, t1, t2, t3, t4, t5, t6, t7⟩ := S
    exact StaticIs.there (s := { Z with heap := P.U.heap }) ⟨cfS, iS, kS, fS, st, cS, t1, t2, t3, t4, t5, (fun q => by rw [q] at t6; cases t6), t7⟩ al rfl
  obtain ⟨v, B, X', ⟨⟨hv, E', V', q1, q2, q3, q4, q5, q6, q7, q8, q9, q10, q11⟩, hl, hc, hs⟩, st⟩ := New1.pays x D fV fC b A z (tab_of (moved hZ hw)) hfr hlo m meth c P g ig mk _ X hg hsize hdg hW hn ⟨r1, r2, rfl, hB, F1, F2, hA, hS, hz, l0, l2, hp⟩
  have al' : Z.vm.Alike B.U.vm := hZ.alike.trans X'.warmed.alike
  have hsz : E'.slots.size = D.slots.size := by
    obtain ⟨-, -, -, kB, w1, w2, w3⟩ := q1
    obtain ⟨kB', y1, y2⟩ := al'.2.2 _ _ e3
    rw [q2.2.1] at w1
    cases w1.symm.trans y1
    rw [w3, e5 i3, y2]
  refine ⟨v, B, X', ⟨_, ⟨hv, ?_, ⟨by omega, fun y cy hy hn' => q10 y cy (by simpa using hn') hy, fun y cy hy => ?_⟩, q11, ⟨E', _, q1.1, by rw [q2.2.1]; exact e2, by rw [q2.2.1]; exact e3, by rw [q2.1]; exact obV, fun _ => by rw [hsz]; exact e5 i3⟩,
    ⟨E', cfV, kV, iV, fV, q1.1, gV, stV, by rw [q2.1]; exact knV, by rw [q2.1]; exact obV, by rw [q2.2.1]; exact asV, q3⟩, ⟨E', cfC, kC, iC, fC, q1.1, gC, stC, by rw [q2.1]; exact knV, by rw [q2.1]; exact obV, by rw [q2.2.1]; exact asC, q4⟩,
    ⟨V', ⟨q5.1, State.isArrayOf_alike al'.symm q5.2.1, q5.2.2.1⟩, q6, by rw [← al'.findClass]; exact q7, q8, fun j hj => by have := q9 j hj; rwa [Nat.zero_add] at this⟩, fun O n d w F n1 n2 => ?_⟩, hl, hc, hs⟩, st⟩
  · intro y hy
    simp only [List.mem_cons, List.not_mem_nil, or_false] at hy
    rcases hy with rfl | rfl <;> rfl
  · by_cases q : y = x
    · subst q
      cases hD.symm.trans hy
      exact ⟨E', q1.1, q2.2.1, q2.1, hsz⟩
    · exact ⟨cy, q10 y cy q hy, rfl, rfl, rfl⟩
  · obtain ⟨D3, cf, k, i, f, g1, g2, g3, g4, g5, g6, g7⟩ := F
    cases hD.symm.trans g1
    simp only [RoadKit.slotOf, g2, gV, gC, Option.map_some, Option.getD_some] at n1 n2
    exact ⟨E', cf, k, i, f, q1.1, g2, g3, by rw [q2.1]; exact g4, by rw [q2.1]; exact g5, by rw [q2.2.1]; exact g6, by rw [q2.2.2 f.slot (by simp [n1, n2])]; exact g7⟩
end StrChars.Road
namespace StrChars.Road
open Jvm Sem ClassFile Op Lib Jvm.Stand Jvm.Free Jvm.Free.XT
/-- WHAT COMES BACK, the byte[] as a list of values -/
def QA (Z : State) (x : Addr) (zn : Int32) (cs : List Int32) (h : Heap) (v : Option Value) (h' : Heap) (L : List Loc) : Prop := v = none ∧ (∀ y ∈ L, y.base = x) ∧ RoadKit.Keep h h' [x] ∧ h'.size = h.size + 1 ∧ RoadKit.Exa Z h' x ST ∧ RoadKit.Fld Z h' x ST "value" "[B" (.ref h.size) ∧ RoadKit.Fld Z h' x ST "coder" "B" (.int 0) ∧
  (∃ kb, Z.vm.findClass "[B" = some kb ∧ RoadKit.Arv Z h' h.size kb .byte zn (cs.map fun c => .int (lo8 c)) (.int 0)) ∧
  ∀ (O n d : String) (w : Value), RoadKit.Fld Z h x O n d w → RoadKit.slotOf Z O n d ≠ RoadKit.slotOf Z ST "value" "[B" → RoadKit.slotOf Z O n d ≠ RoadKit.slotOf Z ST "coder" "B" → RoadKit.Fld Z h' x O n d w
/-- **new String(chars) AT A CALL, THE ARRAYS AS LISTS**: the char[] at b holds cs, not empty, no char above 255 -/
theorem backArv {p : Program} {l : Launch} {e : Env} {R : Room} {s : State} {args : Array Value} {below : List Frame} {len W : Nat} {Z : State} {a0 : Array Value} {h : Heap} (hZ : Z.Warmed39 s.vm) (hw : ∀ d ∈ words, d.before a0 Z = true) {kI : Nat} (wi : (Jvm.Cond.instantiable ST kI).before a0 Z = true)
    {x b : Addr} {k : ClassId} {zn z : Int32} {cs : List Int32} {dv v0 c0 : Value} (E : RoadKit.Exa Z h x ST) (V : RoadKit.Fld Z h x ST "value" "[B" v0) (C : RoadKit.Fld Z h x ST "coder" "B" c0) (K : RoadKit.Arv Z h b k .char zn (cs.map Value.int) dv) (S : RoadKit.Sta Z h ST "COMPACT_STRINGS" "Z" (.int z)) (hz : ¬ z = 0)
    (hlen : zn.toNatClampNeg = cs.length) (h0 : 0 < cs.length) (hbig : cs.length ≤ 536870912) (hall : ∀ c ∈ cs, ¬ 255 < c) (hfr : 4 ≤ R.frames) (hlo : W + 65 ≤ R.locals) :
    Back l R p e below s args New1.yN len W (fun P a => a = #[.ref x, .ref b] ∧ P.U.heap = h ∧ P.cells + 1 ≤ R.cells ∧ P.slots + cs.length ≤ R.slots)
      (fun P _ v B => ∃ L, QA Z x zn cs h v B.U.heap L ∧ B.locs = P.locs ++ L ∧ B.cells = P.cells + 1 ∧ B.slots = P.slots + cs.length) := by
  obtain ⟨A, K1, K2, K3, K4, K5, K6⟩ := K
  have e : A.slots.size = cs.length := K3.trans hlen
  have hat : ∀ (i : Nat) (hi : i < cs.length), A.slots[i]? = some (.int cs[i]) := fun i hi => by rw [K5 i (by omega)]; simp [List.getD_eq_getElem?_getD, hi]
  have hcv : ∀ (i : Nat) (hi : i < cs.length), cv A i = cs[i] := fun i hi => by unfold cv; rw [hat i hi]
  have hty : Typed .char A := fun i v hv => by
    have hi : i < A.slots.size := (Array.getElem?_eq_some_iff.mp hv).1
    have q := K5 i hi
    rw [hv] at q
    rw [Option.some.inj q]
    exact K6 i hi
  refine Back.mono (back hZ hw wi E V C K1 hty S hz (by omega) (by omega) (fun i hi => by rw [hcv i (by omega)]; exact hall _ (List.getElem_mem _)) hfr hlo) (fun P a hp => ⟨hp.1, hp.2.1, hp.2.2.1, by rw [e]; exact hp.2.2.2⟩) (fun P a v B hp hq => ?_)
  obtain ⟨L, ⟨q1, q2, q3, q4, q5, q6, q7, ⟨V', v1, v2, v3, v4, v5⟩, q9⟩, hl, hc, hs⟩ := hq
  refine ⟨L, ⟨q1, q2, q3, q4, q5, q6, q7, ⟨V'.cls, v3, V', v1, rfl, by rw [v4, e, hlen], K4, fun i hi => ?_, fun i hi => ?_⟩, q9⟩, hl, hc, by rw [hs, e]⟩
  · have hi' : i < cs.length := by omega
    rw [v5 i (by omega), hcv i hi']; simp [List.getD_eq_getElem?_getD, hi']
  · have hi' : i < cs.length := by omega
    simp only [List.getD_eq_getElem?_getD, List.getElem?_map, List.getElem?_eq_getElem hi', Option.map_some, Option.getD_some]
    exact fits_lo8 _
end StrChars.Road
namespace StrChars.Road
open Jvm Sem ClassFile Op Lib Jvm.Stand Jvm.Free Jvm.Free.XT
/-- WHAT COMES BACK, in the writer's own shape -/
def QV (Z : State) (x : Addr) (N : Int32) (bs : List Int32) (h : Heap) (n0 : Nat) (v : Option Value) (h' : Heap) (L : List Loc) : Prop := v = none ∧ RoadKit.Fr n0 L ∧ RoadKit.Keep h h' [x] ∧ RoadKit.Exa Z h' x ST ∧ RoadKit.Fld Z h' x ST "coder" "B" (.int 0) ∧
  ∃ (t : Addr) (kb : ClassId), n0 ≤ t ∧ h.size ≤ t ∧ ¬ t = x ∧ RoadKit.Fld Z h' x ST "value" "[B" (.ref t) ∧ RoadKit.Arv Z h' t kb .byte N (bs.map Value.int) (.int 0)
/-- **new String(chars) AT A CALL, FOR THE WRITER**: a char[] of n known ints, each 0 to 255 -/
theorem backV {p : Program} {l : Launch} {e : Env} {R : Room} {s : State} {args : Array Value} {below : List Frame} {len W : Nat} {Z : State} {a0 : Array Value} {h : Heap} (hZ : Z.Warmed39 s.vm) (hw : ∀ d ∈ words, d.before a0 Z = true) {kI : Nat} (wi : (Jvm.Cond.instantiable ST kI).before a0 Z = true)
    {x b : Addr} {kC : ClassId} {cs bs : List Int32} {d v0 c0 : Value} {z N : Int32} {n n0 : Nat} (hx0 : n0 ≤ x) (hh0 : n0 ≤ h.size) (E : RoadKit.Exa Z h x ST) (V : RoadKit.Fld Z h x ST "value" "[B" v0) (C : RoadKit.Fld Z h x ST "coder" "B" c0) (K : RoadKit.Arv Z h b kC .char N (cs.map Value.int) d) (S : RoadKit.Sta Z h ST "COMPACT_STRINGS" "Z" (.int z)) (hz : ¬ z = 0)
    (hn : cs.length = n) (hN : N = Int32.ofNat n) (l0 : 0 < n) (l2 : n ≤ 4000) (hp : ∀ c ∈ cs, ¬ c < 0 ∧ ¬ (255 : Int32) < c) (hb : bs = cs.map (fun c => c.toInt8.toInt32)) (hfr : 4 ≤ R.frames) (hlo : W + 65 ≤ R.locals) :
    Back l R p e below s args (⟨"java/lang/String", "<init>", "([C)V"⟩ : MethodName) len W (fun P a => a = #[.ref x, .ref b] ∧ P.U.heap = h ∧ P.cells + 1 ≤ R.cells ∧ P.slots + n ≤ R.slots)
      (fun P _ v B => ∃ L, QV Z x N bs h n0 v B.U.heap L ∧ B.locs = P.locs ++ L ∧ B.cells = P.cells + 1 ∧ B.slots = P.slots + n) := by
  subst hn hN hb
  refine Back.mono (backArv hZ hw wi E V C K S hz (n32 (by omega)) l0 (by omega) (fun c hc => (hp c hc).2) hfr hlo) (fun P a hp => hp) (fun P a v B hp hq => ?_)
  obtain ⟨L, ⟨q1, q2, q3, q4, q5, q6, q7, ⟨kb, v1, v2⟩, q9⟩, hl, hc, hs⟩ := hq
  exact ⟨L, ⟨q1, fun y hy => by rw [q2 y hy]; exact hx0, q3, q5, q7, h.size, kb, hh0, Nat.le_refl _, Nat.ne_of_gt E.lt, q6, by rw [List.map_map]; exact v2⟩, hl, hc, hs⟩
end StrChars.Road
namespace StrChars
open Jvm Sem ClassFile Op Lib Jvm.Stand Jvm.Free.XT Jvm.Free.ALB Jvm.Free.JM Jvm.Free
open Jvm.Lib.Cold (StaticIs)
def hi8 (x : Int32) : Int32 := lo8 (x >>> ((8 : Int32) &&& 31))
/-- what StringUTF16.getChar makes of two bytes -/
def pairCh (u v : Int32) : Int32 := (((u &&& 255) <<< ((0 : Int32) &&& 31)) ||| ((v &&& 255) <<< ((8 : Int32) &&& 31))).toUInt32.toUInt16.toUInt32.toInt32
theorem shr0 (c : Int32) : c >>> ((0 : Int32) &&& 31) = c := by
  have e : ((0 : Int32) &&& 31) = 0 := by decide
  rw [e]
  apply Int32.toBitVec_inj.mp
  rw [Int32.toBitVec_shiftRight]
  have e1 : ((0 : Int32).toBitVec.smod 32) = 0#32 := by decide
  rw [e1, BitVec.sshiftRight_eq']
  exact BitVec.sshiftRight_zero
theorem lo8_and (x : Int32) : (lo8 x &&& 255).toBitVec.toNat = x.toBitVec.toNat % 256 := by
  have h : (lo8 x).toBitVec = (x.toBitVec.signExtend 8).signExtend 32 := by rw [lo8, Int8.toBitVec_toInt32, Int32.toBitVec_toInt8]
  rw [Int32.toBitVec_and, BitVec.toNat_and, h]
  have e : ((x.toBitVec.signExtend 8).signExtend 32).toNat % 256 = x.toBitVec.toNat % 256 := by
    rw [BitVec.toNat_signExtend]
    have hlt := x.toBitVec.isLt
    simp only [BitVec.toNat_setWidth, BitVec.toNat_signExtend]
    split <;> split <;> omega
  rw [← e]
  exact Nat.and_two_pow_sub_one_eq_mod _ 8
theorem pair_says {c : Int32} (h0 : ¬ c < 0) (h1 : ¬ 65535 < c) : pairCh (lo8 c) (hi8 c) = c := by
  rw [Int32.lt_iff_toInt_lt] at h0 h1
  have e0 : (0 : Int32).toInt = 0 := rfl
  have e1 : (65535 : Int32).toInt = 65535 := rfl
  have hc : c.toInt = c.toBitVec.toNat := by
    have := c.toBitVec.isLt
    have e : c.toInt = c.toBitVec.toInt := rfl
    rw [e] at h0 h1
    rw [e]
    rw [BitVec.toInt_eq_toNat_cond] at h0 h1 ⊢
    split at h0 <;> split <;> omega
  have hn : c.toBitVec.toNat < 65536 := by omega
  have a1 := lo8_and c
  have a2 : (hi8 c &&& 255).toBitVec.toNat = c.toBitVec.toNat / 256 := by
    rw [hi8, lo8_and]
    have e : ((8 : Int32) &&& 31) = 8 := by decide
    rw [e, Int32.toBitVec_shiftRight]
    have e2 : ((8 : Int32).toBitVec.smod 32) = 8#32 := by decide
    rw [e2, BitVec.sshiftRight_eq', BitVec.toNat_sshiftRight_of_msb_false (by rw [BitVec.msb_eq_false_iff_two_mul_lt]; omega)]
    show c.toBitVec.toNat >>> 8 % 256 = _
    rw [Nat.shiftRight_eq_div_pow]
    omega
  unfold pairCh
  apply Int32.toBitVec_inj.mp
  apply BitVec.eq_of_toNat_eq
  have f0 : ((0 : Int32) &&& 31) = 0 := by decide
  have f8 : ((8 : Int32) &&& 31) = 8 := by decide
  rw [f0, f8]
  have g : (((lo8 c &&& 255) <<< (0 : Int32)) ||| ((hi8 c &&& 255) <<< (8 : Int32))).toBitVec.toNat = c.toBitVec.toNat := by
    rw [Int32.toBitVec_or, Int32.toBitVec_shiftLeft, Int32.toBitVec_shiftLeft]
    have s0 : ((0 : Int32).toBitVec.smod 32) = 0#32 := by decide
    have s8 : ((8 : Int32).toBitVec.smod 32) = 8#32 := by decide
    rw [s0, s8, BitVec.toNat_or]
    simp only [BitVec.shiftLeft_eq', BitVec.toNat_shiftLeft, a1, a2]
    show (c.toBitVec.toNat % 256) <<< 0 % 2 ^ 32 ||| (c.toBitVec.toNat / 256) <<< 8 % 2 ^ 32 = _
    rw [Nat.shiftLeft_zero, Nat.mod_eq_of_lt (show c.toBitVec.toNat % 256 < 2 ^ 32 by omega), Nat.mod_eq_of_lt (show (c.toBitVec.toNat / 256) <<< 8 < 2 ^ 32 by rw [Nat.shiftLeft_eq]; omega), Nat.or_comm, ← Nat.shiftLeft_add_eq_or_of_lt (by omega), Nat.shiftLeft_eq]
    omega
  show BitVec.toNat (((((lo8 c &&& 255) <<< (0 : Int32)) ||| ((hi8 c &&& 255) <<< (8 : Int32))).toBitVec.setWidth 16).setWidth 32) = _
  rw [BitVec.toNat_setWidth, BitVec.toNat_setWidth, g]
  omega
end StrChars
namespace StrChars
open Jvm Sem ClassFile Op Lib Jvm.Stand Jvm.Free.XT Jvm.Free.ALB Jvm.Free.JM Jvm.Free
open Jvm.Lib.Cold (StaticIs)
theorem shr1 {n : Nat} (h : 2 * n < 2 ^ 31) : Int32.ofNat (2 * n) >>> ((1 : Int32) &&& 31) = Int32.ofNat n := by
  have e : ((1 : Int32) &&& 31) = 1 := by decide
  rw [e]
  apply Int32.toBitVec_inj.mp
  rw [Int32.toBitVec_shiftRight]
  have e1 : ((1 : Int32).toBitVec.smod 32) = 1#32 := by decide
  have hm : (BitVec.ofNat 32 (2 * n)).toNat = 2 * n := by rw [BitVec.toNat_ofNat, Nat.mod_eq_of_lt (by omega)]
  rw [e1, BitVec.sshiftRight_eq']
  apply BitVec.eq_of_toNat_eq
  show ((BitVec.ofNat 32 (2 * n)).sshiftRight 1).toNat = (BitVec.ofNat 32 n).toNat
  rw [BitVec.toNat_sshiftRight_of_msb_false (by rw [BitVec.msb_eq_false_iff_two_mul_lt, hm]; omega), hm, BitVec.toNat_ofNat, Nat.shiftRight_eq_div_pow]
  omega
/-- charAt's cast of a byte read back -/
def chr8 (u : Int32) : Int32 := (u &&& 255).toUInt32.toUInt16.toUInt32.toInt32
theorem chr8_lo8 {c : Int32} (h0 : ¬ c < 0) (h1 : ¬ 255 < c) : chr8 (lo8 c) = c := by
  have t : ∀ k : Fin 256, (Int32.ofNat k.val).toUInt32.toUInt16.toUInt32.toInt32 = Int32.ofNat k.val := by decide +kernel
  unfold chr8
  rw [lo8_mask h0 h1]
  rw [Int32.lt_iff_toInt_lt] at h0 h1
  have e0 : (0 : Int32).toInt = 0 := rfl
  have e1 : (255 : Int32).toInt = 255 := rfl
  obtain ⟨k, hk⟩ : ∃ k : Nat, c.toInt = k := ⟨c.toInt.toNat, by omega⟩
  have hx : c = Int32.ofNat k := Int32.toInt_inj.mp (by rw [hk, Int32.toInt_ofNat_small (by omega)])
  rw [hx]
  exact t ⟨k, by omega⟩
theorem narrow_ch {c : Int32} (h0 : ¬ c < 0) (h1 : ¬ 65535 < c) : narrow .char (.int c) = .int c := by
  have q : narrow .char (.int (pairCh (lo8 c) (hi8 c))) = .int (pairCh (lo8 c) (hi8 c)) := narrow_c _
  rwa [pair_says h0 h1] at q
/-- the array's cell V codes the n chars f 0 .. f (n - 1) by the coder cd, as the JDK does: coder 1 just where some char is above 255 -/
def Cod (cd : Int32) (n : Nat) (f : Nat → Int32) (V : Cell) : Prop := (cd = 0 ∧ V.slots.size = n ∧ ∀ j, j < n → V.slots[j]? = some (.int (lo8 (f j))) ∧ ¬ 255 < f j) ∨ (cd = 1 ∧ V.slots.size = 2 * n ∧ (∀ j, j < n → V.slots[2 * j]? = some (.int (lo8 (f j))) ∧ V.slots[2 * j + 1]? = some (.int (hi8 (f j)))) ∧ ∃ j, j < n ∧ 255 < f j)
theorem Cod.cd {cd : Int32} {n : Nat} {f : Nat → Int32} {V : Cell} (h : Cod cd n f V) : cd = 0 ∨ cd = 1 := h.imp (fun q => q.1) fun q => q.1
theorem Cod.len {cd : Int32} {n : Nat} {f : Nat → Int32} {V : Cell} (h : Cod cd n f V) (hs : V.slots.size < 2 ^ 31) : Int32.ofNat V.slots.size >>> (cd &&& 31) = Int32.ofNat n := by
  rcases h with ⟨rfl, h, -⟩ | ⟨rfl, h, -⟩
  · rw [shr0, h]
  · rw [h, shr1 (by omega)]
/-- **x is a String of the n chars f 0 .. f (n - 1)**, Latin-1 or UTF-16; its array at t has the cell V -/
def Txt (x t : Addr) (V : Cell) (cd : Int32) (n : Nat) (f : Nat → Int32) (U : State) : Prop := Exact "java/lang/String" x U ∧ Has x "java/lang/String" "value" "[B" (.ref t) U ∧ Has x "java/lang/String" "coder" "B" (.int cd) U ∧ XT.Arr .byte t V U ∧ Cod cd n f V ∧ ∀ j, j < n → ¬ f j < 0 ∧ ¬ 65535 < f j
theorem Txt.mv {x t : Addr} {V : Cell} {cd : Int32} {n : Nat} {f : Nat → Int32} {U U' : State} (h : Txt x t V cd n f U) (hal : U.vm.Alike U'.vm) (hh : U'.heap = U.heap) : Txt x t V cd n f U' := ⟨h.1.mv hal hh, h.2.1.mv hal hh, h.2.2.1.mv hal hh, h.2.2.2.1.mv hal hh, h.2.2.2.2⟩
namespace Cdr
def yN : MethodName := ⟨"java/lang/String", "coder", "()B"⟩
abbrev yB : ByteArray := jdk_42_method_152_code
theorem d0 : decode yB 0 = .ok (.getstatic 38, 3) := by decide +kernel
theorem d3 : decode yB 3 = .ok (.ifCond (.eq) 10, 3) := by decide +kernel
theorem d6 : decode yB 6 = .ok (.aload_n 0, 1) := by decide +kernel
theorem d7 : decode yB 7 = .ok (.getfield 15, 3) := by decide +kernel
theorem d10 : decode yB 10 = .ok (.goto 4, 3) := by decide +kernel
theorem d14 : decode yB 14 = .ok (.ireturn, 1) := by decide +kernel
def site : List Cond := [.fieldLink "java/lang/String" 38 "java/lang/String" "COMPACT_STRINGS" "Z", .fieldLink "java/lang/String" 15 "java/lang/String" "coder" "B"]
def tab : Cond := tabOf yN yB 1 (some .byte) site
def P (x : Addr) (cd z : Int32) (args : Array Value) (s : State) : Prop := args = #[.ref x] ∧ Has x "java/lang/String" "coder" "B" (.int cd) s ∧ (cd = 0 ∨ cd = 1) ∧ StaticIs s "java/lang/String" "COMPACT_STRINGS" "Z" (.int z) ∧ ¬ z = 0
def E (cd : Int32) (r : Option Value) (s u : State) : Prop := XT.PureE (some (.int cd)) r s u
theorem law (l : Launch) (x : Addr) (cd z : Int32) : Law l yN 1 0 0 0 yB 1 (some .byte) site (P x cd z) (E cd) [] 0 0 := by
  refine Law.of_walk (plainFor_of_name (by decide +kernel)) (by decide +kernel) (by decide +kernel) (by decide) (fun _ _ h => by rw [h.1]; rfl) (fun _ U U' hal hh h => ⟨h.1, h.2.1.mv hal hh, h.2.2.1, h.2.2.2.1.there hal hh, h.2.2.2.2⟩) (fun r U U' V V' h1 hal h2 h => XT.PureE.mv r U U' V V' h1 hal h2 h) ?_
  intro p e s m args below meth c s₁ X0 hexec hbytes hml hret hlk hnm hown hh0 W hP
  obtain ⟨rfl, hx, hc, s1, hz⟩ := hP
  have c1 : Steps p.tables e below (s₁.setTop (entryFrame m #[.ref x] 1)) (s₁.setTop (mkF m 0 #[.val (.ref x)] [])) := entry rfl
  obtain ⟨T2, X2, q2, st2⟩ := X0.sget hexec hown (wk W (.fieldLink "java/lang/String" 38 "java/lang/String" "COMPACT_STRINGS" "Z")) s1 (fun _ _ h => by rw [hh0]; exact h) (g := (mkF m 0 #[.val (.ref x)] [])) rfl (hb hbytes d0)
  have hh2 := q2.trans hh0
  have c3 : Steps p.tables e below (s₁.setTop (entryFrame m #[.ref x] 1)) (T2.setTop (mkF m 7 #[.val (.ref x)] [.ref x])) := (c1.trans (st2 _ (Steps.refl _))).trans (by
    refine XS.ifNo X2.here hexec rfl (hb hbytes d3) rfl (i0_eq_f hz) ?_
    refine XS.aloadN X2.here hexec rfl (hb hbytes d6) rfl rfl ?_
    exact Steps.refl _)
  obtain ⟨T4, X4, q4, st4⟩ := X2.hget hexec hown (wk W (.fieldLink "java/lang/String" 15 "java/lang/String" "coder" "B")) (hx.mv X2.warmed.alike hh2) (g := (mkF m 7 #[.val (.ref x)] [.ref x])) rfl (rest := []) rfl (hb hbytes d7)
  have c5 : Steps p.tables e below (s₁.setTop (entryFrame m #[.ref x] 1)) (T4.setTop (mkF m 14 #[.val (.ref x)] [.int cd])) := (c3.trans (st4 _ (Steps.refl _))).trans (by
    refine XS.goto X4.here hexec rfl (pc0 := 10) rfl (hb hbytes d10) (by decide) rfl ?_
    exact Steps.refl _)
  exact ⟨T4, some (.int cd), _, _, _, X4, rfl, rfl, rfl, (fun h => by cases h), ⟨rfl, q4.trans hh2⟩, fun fs hl => c5.trans (X4.ireturnOut hexec hret (by rcases hc with rfl | rfl <;> rfl) (Or.inr (Or.inr (Or.inl rfl))) (hb hbytes d14) hl)⟩
end Cdr
namespace Len
def yN : MethodName := ⟨"java/lang/String", "length", "()I"⟩
abbrev yB : ByteArray := jdk_42_method_54_code
theorem d0 : decode yB 0 = .ok (.aload_n 0, 1) := by decide +kernel
theorem d1 : decode yB 1 = .ok (.getfield 9, 3) := by decide +kernel
theorem d4 : decode yB 4 = .ok (.arraylength, 1) := by decide +kernel
theorem d5 : decode yB 5 = .ok (.aload_n 0, 1) := by decide +kernel
theorem d6 : decode yB 6 = .ok (.invokevirtual 335, 3) := by decide +kernel
theorem d9 : decode yB 9 = .ok (.ishr, 1) := by decide +kernel
theorem d10 : decode yB 10 = .ok (.ireturn, 1) := by decide +kernel
def site : List Cond := [.fieldLink "java/lang/String" 9 "java/lang/String" "value" "[B", Cdr.tab] ++ virtW "java/lang/String" 335 "java/lang/String" Cdr.yN Cdr.yN
def tab : Cond := tabOf yN yB 1 (some .int) site
def P (x t : Addr) (V : Cell) (cd : Int32) (n : Nat) (f : Nat → Int32) (z : Int32) (args : Array Value) (s : State) : Prop := args = #[.ref x] ∧ Txt x t V cd n f s ∧ StaticIs s "java/lang/String" "COMPACT_STRINGS" "Z" (.int z) ∧ ¬ z = 0
def E (n : Nat) (r : Option Value) (s u : State) : Prop := XT.PureE (some (.int (Int32.ofNat n))) r s u
/-- length() of a String of n chars, in either coding -/
theorem law (l : Launch) (x t : Addr) (V : Cell) (cd : Int32) (n : Nat) (f : Nat → Int32) (z : Int32) : Law l yN 1 0 1 13 yB 1 (some .int) site (P x t V cd n f z) (E n) [] 0 0 := by
  refine Law.of_walk (plainFor_of_name (by decide +kernel)) (by decide +kernel) (by decide +kernel) (by decide) (fun _ _ h => by rw [h.1]; rfl) (fun _ U U' hal hh h => ⟨h.1, h.2.1.mv hal hh, h.2.2.1.there hal hh, h.2.2.2⟩) (fun r U U' V V' h1 hal h2 h => XT.PureE.mv r U U' V V' h1 hal h2 h) ?_
  intro p e s m args below meth c s₁ X0 hexec hbytes hml hret hlk hnm hown hh0 W hP
  obtain ⟨rfl, hx, s1, hz⟩ := hP
  have v31 := hx.2.2.2.1.2.2.2
  have c1 : Steps p.tables e below (s₁.setTop (entryFrame m #[.ref x] 1)) (s₁.setTop (mkF m 1 #[.val (.ref x)] [.ref x])) := Steps.trans (entry rfl) (by
    show Steps p.tables e below (s₁.setTop (mkF m 0 #[.val (.ref x)] [])) _
    refine XS.aloadN X0.here hexec rfl (hb hbytes d0) rfl rfl ?_
    exact Steps.refl _)
  obtain ⟨T2, X2, q2, st2⟩ := X0.hget hexec hown (wk W (.fieldLink "java/lang/String" 9 "java/lang/String" "value" "[B")) (hx.mv X0.warmed.alike hh0).2.1 (g := (mkF m 1 #[.val (.ref x)] [.ref x])) rfl (rest := []) rfl (hb hbytes d1)
  have hh2 := q2.trans hh0
  have hx2 := hx.mv X2.warmed.alike hh2
  have c3 : Steps p.tables e below (s₁.setTop (entryFrame m #[.ref x] 1)) (T2.setTop (mkF m 6 #[.val (.ref x)] [.ref x, .int (Int32.ofNat V.slots.size)])) := (c1.trans (st2 _ (Steps.refl _))).trans (by
    refine X2.alen hexec hx2.2.2.2.1 rfl rfl (hb hbytes d4) ?_
    refine XS.aloadN X2.here hexec rfl (hb hbytes d5) rfl rfl ?_
    exact Steps.refl _)
  obtain ⟨v4, T4, X4, E4, g4⟩ := X2.callV hexec (Cdr.law l x cd z) hown (wks W (virtW "java/lang/String" 335 "java/lang/String" Cdr.yN Cdr.yN)) rfl (by decide) (wk W Cdr.tab) (W := 1) (Nat.le_of_ble_eq_true rfl) (Nat.le_of_ble_eq_true rfl) (Nat.le_refl _) (Nat.le_refl _) (hx2.1.fc X2.warmed.alike) hx2.1.is (g := (mkF m 6 #[.val (.ref x)] [.ref x, .int (Int32.ofNat V.slots.size)])) rfl (by rw [hml]; rfl) c3 (argsL := []) (rest := [.int (Int32.ofNat V.slots.size)]) rfl rfl (by show 2 * 0 + (1 + 0) ≤ _; decide) (hb hbytes d6) (⟨rfl, hx2.2.2.1, hx.2.2.2.2.1.cd, s1.there X2.warmed.alike hh2, hz⟩)
  obtain ⟨rfl, q4⟩ := E4
  have c5 : Steps p.tables e below (s₁.setTop (entryFrame m #[.ref x] 1)) (T4.setTop (mkF m 10 #[.val (.ref x)] [.int (Int32.ofNat V.slots.size >>> (cd &&& 31))])) := Steps.trans g4 (by
    refine ishr X4.here hexec rfl (hb hbytes d9) rfl ?_
    exact Steps.refl _)
  rw [hx.2.2.2.2.1.len v31] at c5
  exact ⟨T4, some (.int (Int32.ofNat n)), _, _, _, X4, rfl, rfl, rfl, (fun h => by cases h), ⟨rfl, q4.trans hh2⟩, fun fs hl => c5.trans (X4.ireturnOut hexec hret rfl (Or.inl rfl) (hb hbytes d10) hl)⟩
theorem pays {l : Launch} {R : Room} {p : Program} {e : Env} {below : List Frame} {s : State} {sargs : Array Value} {len W : Nat} (x t : Addr) (V : Cell) (cd : Int32) (n : Nat) (f : Nat → Int32) (z : Int32) (htab : tab.before sargs s = true) (hfr : 2 ≤ R.frames) (hlo : W + 25 ≤ R.locals) :
    Back l R p e below s sargs yN len W (fun A₁ a₁ => A₁.cells + 0 ≤ R.cells ∧ A₁.slots + 0 ≤ R.slots ∧ P x t V cd n f z a₁ A₁.U) (fun A₁ _ v₁ B₁ => E n v₁ A₁.U B₁.U ∧ B₁.locs = A₁.locs ++ [] ∧ B₁.cells = A₁.cells + 0 ∧ B₁.slots = A₁.slots + 0) :=
  (law l x t V cd n f z).pays htab hfr (by omega)
end Len
namespace IsL
def yN : MethodName := ⟨"java/lang/String", "isLatin1", "()Z"⟩
abbrev yB : ByteArray := jdk_42_method_154_code
theorem d0 : decode yB 0 = .ok (.getstatic 38, 3) := by decide +kernel
theorem d3 : decode yB 3 = .ok (.ifCond (.eq) 14, 3) := by decide +kernel
theorem d6 : decode yB 6 = .ok (.aload_n 0, 1) := by decide +kernel
theorem d7 : decode yB 7 = .ok (.getfield 15, 3) := by decide +kernel
theorem d10 : decode yB 10 = .ok (.ifCond (.ne) 7, 3) := by decide +kernel
theorem d13 : decode yB 13 = .ok (.iconst 1, 1) := by decide +kernel
theorem d14 : decode yB 14 = .ok (.goto 4, 3) := by decide +kernel
theorem d17 : decode yB 17 = .ok (.iconst 0, 1) := by decide +kernel
theorem d18 : decode yB 18 = .ok (.ireturn, 1) := by decide +kernel
def site : List Cond := [.fieldLink "java/lang/String" 38 "java/lang/String" "COMPACT_STRINGS" "Z", .fieldLink "java/lang/String" 15 "java/lang/String" "coder" "B"]
def tab : Cond := tabOf yN yB 1 (some .boolean) site
def P (x : Addr) (cd z : Int32) (args : Array Value) (s : State) : Prop := args = #[.ref x] ∧ Has x "java/lang/String" "coder" "B" (.int cd) s ∧ (cd = 0 ∨ cd = 1) ∧ StaticIs s "java/lang/String" "COMPACT_STRINGS" "Z" (.int z) ∧ ¬ z = 0
def E (cd : Int32) (r : Option Value) (s u : State) : Prop := XT.PureE (some (.int (1 - cd))) r s u
theorem law (l : Launch) (x : Addr) (cd z : Int32) : Law l yN 1 0 0 0 yB 1 (some .boolean) site (P x cd z) (E cd) [] 0 0 := by
  refine Law.of_walk (plainFor_of_name (by decide +kernel)) (by decide +kernel) (by decide +kernel) (by decide) (fun _ _ h => by rw [h.1]; rfl) (fun _ U U' hal hh h => ⟨h.1, h.2.1.mv hal hh, h.2.2.1, h.2.2.2.1.there hal hh, h.2.2.2.2⟩) (fun r U U' V V' h1 hal h2 h => XT.PureE.mv r U U' V V' h1 hal h2 h) ?_
  intro p e s m args below meth c s₁ X0 hexec hbytes hml hret hlk hnm hown hh0 W hP
  obtain ⟨rfl, hx, hc, s1, hz⟩ := hP
  have c1 : Steps p.tables e below (s₁.setTop (entryFrame m #[.ref x] 1)) (s₁.setTop (mkF m 0 #[.val (.ref x)] [])) := entry rfl
  obtain ⟨T2, X2, q2, st2⟩ := X0.sget hexec hown (wk W (.fieldLink "java/lang/String" 38 "java/lang/String" "COMPACT_STRINGS" "Z")) s1 (fun _ _ h => by rw [hh0]; exact h) (g := (mkF m 0 #[.val (.ref x)] [])) rfl (hb hbytes d0)
  have hh2 := q2.trans hh0
  have c3 : Steps p.tables e below (s₁.setTop (entryFrame m #[.ref x] 1)) (T2.setTop (mkF m 7 #[.val (.ref x)] [.ref x])) := (c1.trans (st2 _ (Steps.refl _))).trans (by
    refine XS.ifNo X2.here hexec rfl (hb hbytes d3) rfl (i0_eq_f hz) ?_
    refine XS.aloadN X2.here hexec rfl (hb hbytes d6) rfl rfl ?_
    exact Steps.refl _)
  obtain ⟨T4, X4, q4, st4⟩ := X2.hget hexec hown (wk W (.fieldLink "java/lang/String" 15 "java/lang/String" "coder" "B")) (hx.mv X2.warmed.alike hh2) (g := (mkF m 7 #[.val (.ref x)] [.ref x])) rfl (rest := []) rfl (hb hbytes d7)
  have c5 : Steps p.tables e below (s₁.setTop (entryFrame m #[.ref x] 1)) (T4.setTop (mkF m 10 #[.val (.ref x)] [.int cd])) := c3.trans (st4 _ (Steps.refl _))
  have c6 : Steps p.tables e below (s₁.setTop (entryFrame m #[.ref x] 1)) (T4.setTop (mkF m 18 #[.val (.ref x)] [.int (1 - cd)])) := by
    rcases hc with rfl | rfl
    · exact c5.trans (by
        refine XS.ifNo X4.here hexec rfl (hb hbytes d10) rfl (i0_ne_f rfl) ?_
        refine iconstV X4.here hexec rfl 1 (hb hbytes d13) (by decide) ?_
        refine XS.goto X4.here hexec rfl (pc0 := 14) rfl (hb hbytes d14) (by decide) rfl ?_
        exact Steps.refl _)
    · exact c5.trans (by
        refine XS.ifYes X4.here hexec rfl (pc0 := 10) rfl (hb hbytes d10) rfl (i0_ne_t (by decide)) (by decide) rfl ?_
        refine iconstV X4.here hexec rfl 0 (hb hbytes d17) (by decide) ?_
        exact Steps.refl _)
  exact ⟨T4, some (.int (1 - cd)), _, _, _, X4, rfl, rfl, rfl, (fun h => by cases h), ⟨rfl, q4.trans hh2⟩, fun fs hl => c6.trans (X4.ireturnOut hexec hret (by rcases hc with rfl | rfl <;> rfl) (Or.inr (Or.inl rfl)) (hb hbytes d18) hl)⟩
end IsL
namespace LChA
def yN : MethodName := ⟨"java/lang/StringLatin1", "charAt", "([BI)C"⟩
abbrev yB : ByteArray := jdk_43_method_2_code
theorem d0 : decode yB 0 = .ok (.iload_n 1, 1) := by decide +kernel
theorem d1 : decode yB 1 = .ok (.aload_n 0, 1) := by decide +kernel
theorem d2 : decode yB 2 = .ok (.arraylength, 1) := by decide +kernel
theorem d3 : decode yB 3 = .ok (.invokestatic 9, 3) := by decide +kernel
theorem d6 : decode yB 6 = .ok (.aload_n 0, 1) := by decide +kernel
theorem d7 : decode yB 7 = .ok (.iload_n 1, 1) := by decide +kernel
theorem d8 : decode yB 8 = .ok (.baload, 1) := by decide +kernel
theorem d9 : decode yB 9 = .ok (.sipush 255, 3) := by decide +kernel
theorem d12 : decode yB 12 = .ok (.iand, 1) := by decide +kernel
theorem d13 : decode yB 13 = .ok (.i2c, 1) := by decide +kernel
theorem d14 : decode yB 14 = .ok (.ireturn, 1) := by decide +kernel
def site : List Cond := [JO.Str_checkIndex.tab] ++ staticW "java/lang/StringLatin1" 9 JO.Str_checkIndex.yN
def tab : Cond := tabOf yN yB 2 (some .char) site
def P (t : Addr) (V : Cell) (i : Nat) (u : Int32) (fm : Value) (args : Array Value) (s : State) : Prop := args = #[.ref t, .int (Int32.ofNat i)] ∧ XT.Arr .byte t V s ∧ V.slots[i]? = some (.int u) ∧ (StaticIs s "jdk/internal/util/Preconditions" "SIOOBE_FORMATTER" "Ljava/util/function/BiFunction;" fm ∧ fm.isRef = true)
def E (u : Int32) (r : Option Value) (s w : State) : Prop := XT.PureE (some (.int (chr8 u))) r s w
theorem law (l : Launch) (t : Addr) (V : Cell) (i : Nat) (u : Int32) (fm : Value) : Law l yN 2 2 2 27 yB 2 (some .char) site (P t V i u fm) (E u) [] 0 0 := by
  refine Law.of_walk (plainFor_of_name (by decide +kernel)) (by decide +kernel) (by decide +kernel) (by decide) (fun _ _ h => by rw [h.1]; rfl) (fun _ U U' hal hh h => ⟨h.1, h.2.1.mv hal hh, h.2.2.1, h.2.2.2.1.there hal hh, h.2.2.2.2⟩) (fun r U U' V V' h1 hal h2 h => XT.PureE.mv r U U' V V' h1 hal h2 h) ?_
  intro p e s m args below meth c s₁ X0 hexec hbytes hml hret hlk hnm hown hh0 W hP
  obtain ⟨rfl, hV, hu, s1, rf⟩ := hP
  have v31 := hV.2.2.2
  have hi : i < V.slots.size := (Array.getElem?_eq_some_iff.mp hu).1
  have c1 : Steps p.tables e below (s₁.setTop (entryFrame m #[.ref t, .int (Int32.ofNat i)] 2)) (s₁.setTop (mkF m 0 #[.val (.ref t), .val (.int (Int32.ofNat i))] [])) := entry rfl
  have c2 : Steps p.tables e below (s₁.setTop (entryFrame m #[.ref t, .int (Int32.ofNat i)] 2)) (s₁.setTop (mkF m 3 #[.val (.ref t), .val (.int (Int32.ofNat i))] [.int (Int32.ofNat V.slots.size), .int (Int32.ofNat i)])) := c1.trans (by
    refine XS.iloadN X0.here hexec rfl (hb hbytes d0) rfl ?_
    refine XS.aloadN X0.here hexec rfl (hb hbytes d1) rfl rfl ?_
    refine X0.alen hexec (hV.mv X0.warmed.alike hh0) rfl rfl (hb hbytes d2) ?_
    exact Steps.refl _)
  obtain ⟨v3, T3, X3, E3, g3⟩ := X0.callS hexec (JO.Str_checkIndex.law l (Int32.ofNat i) (Int32.ofNat V.slots.size) fm) hown (wks W (staticW "java/lang/StringLatin1" 9 JO.Str_checkIndex.yN)) (wk W JO.Str_checkIndex.tab) (W := 0) (Nat.le_of_ble_eq_true rfl) (Nat.le_of_ble_eq_true rfl) (Nat.le_refl _) (Nat.le_refl _) (g := (mkF m 3 #[.val (.ref t), .val (.int (Int32.ofNat i))] [.int (Int32.ofNat V.slots.size), .int (Int32.ofNat i)])) rfl (by rw [hml]; rfl) c2 (argsL := [.int (Int32.ofNat i), .int (Int32.ofNat V.slots.size)]) (rest := []) rfl rfl (by show 2 * 0 + 0 ≤ _; decide) (hb hbytes d3) (⟨rfl, rf, s1.there X0.warmed.alike hh0, Int32.ofNat_not_neg (by omega), lt32 v31 hi⟩)
  obtain ⟨rfl, q3⟩ := E3
  have hh3 := q3.trans hh0
  have c4 : Steps p.tables e below (s₁.setTop (entryFrame m #[.ref t, .int (Int32.ofNat i)] 2)) (T3.setTop (mkF m 14 #[.val (.ref t), .val (.int (Int32.ofNat i))] [.int (chr8 u)])) := Steps.trans g3 (by
    refine XS.aloadN X3.here hexec rfl (hb hbytes d6) rfl rfl ?_
    refine XS.iloadN X3.here hexec rfl (hb hbytes d7) rfl ?_
    refine X3.aget hexec (hV.mv X3.warmed.alike hh3) rfl hu rfl rfl (hb hbytes d8) ?_
    refine sipushV X3.here hexec rfl 255 (hb hbytes d9) (by decide) ?_
    refine XS.iand X3.here hexec rfl (hb hbytes d12) rfl ?_
    refine i2c X3.here hexec rfl (hb hbytes d13) rfl ?_
    exact Steps.refl _)
  exact ⟨T3, some (.int (chr8 u)), _, _, _, X3, rfl, rfl, rfl, (fun h => by cases h), ⟨rfl, hh3⟩, fun fs hl => c4.trans (X3.ireturnOut hexec hret (narrow_c _) (Or.inr (Or.inr (Or.inr (Or.inl rfl)))) (hb hbytes d14) hl)⟩
end LChA
end StrChars
namespace StrChars.Road
open Jvm Sem ClassFile Op Lib Jvm.Stand Jvm.Free Jvm.Free.XT
open Jvm.Lib.Cold (StaticIs)
theorem consq {a : Array Value} {s : State} {c : Jvm.Cond} {L : List Jvm.Cond} (h0 : c.before a s = true) (h : ∀ w ∈ L, w.before a s = true) : ∀ w ∈ c :: L, w.before a s = true := fun w hw => (List.mem_cons.mp hw).elim (fun e => e ▸ h0) (h w)
/-- the words of String.length(), either coding -/
abbrev wordsLen : List Jvm.Cond := [.code Len.yN Len.yB 1 (some .int), .initialized ST, .fieldLink ST 9 ST "value" "[B", .fieldLink ST 38 ST "COMPACT_STRINGS" "Z", .fieldLink ST 15 ST "coder" "B", .code Cdr.yN Cdr.yB 1 (some .byte), .methodLink ST 335 Cdr.yN, .declares Cdr.yN, .selects ST Cdr.yN Cdr.yN, .instanceMethod Cdr.yN]
theorem tabLen_of {a : Array Value} {s : State} (h : ∀ w ∈ wordsLen, w.before a s = true) : Len.tab.before a s = true := by
  have hc : Cdr.tab.before a s = true := unparts (wk h (.code Cdr.yN Cdr.yB 1 (some .byte))) (wks h (.initialized Cdr.yN.cls :: Cdr.site))
  have q := consq hc h
  exact unparts (wk q (.code Len.yN Len.yB 1 (some .int))) (wks q (.initialized Len.yN.cls :: Len.site))
theorem movedLen {Z s : State} {a0 args : Array Value} (hZ : Z.Warmed39 s.vm) (hw : ∀ d ∈ wordsLen, d.before a0 Z = true) : ∀ d ∈ wordsLen, d.before args s = true := fun d hd => by
  have q := hw d hd
  have t : ∀ d ∈ wordsLen, d = .arrayClass .byte ∨ (d.onTables && d.keepsFace) = true := by decide +kernel
  rcases t d hd with rfl | t
  · exact RoadKit.mvA hZ q
  · exact RoadKit.mv hZ q t
/-- the bytes of the chars cs, low before high -/
def wideBytes : List Int32 → List Value
  | [] => []
  | c :: cs => .int (lo8 c) :: .int (hi8 c) :: wideBytes cs
theorem wide_lo (d : Value) : ∀ (cs : List Int32) (j : Nat), j < cs.length → (wideBytes cs).getD (2 * j) d = .int (lo8 (cs.getD j 0))
  | [], j, h => absurd h (Nat.not_lt_zero j)
  | c :: cs, 0, _ => rfl
  | c :: cs, j + 1, h => by
    have q := wide_lo d cs j (by simpa using h)
    rw [show 2 * (j + 1) = 2 * j + 1 + 1 from by omega]
    simpa [wideBytes] using q
theorem wide_hi (d : Value) : ∀ (cs : List Int32) (j : Nat), j < cs.length → (wideBytes cs).getD (2 * j + 1) d = .int (hi8 (cs.getD j 0))
  | [], j, h => absurd h (Nat.not_lt_zero j)
  | c :: cs, 0, _ => rfl
  | c :: cs, j + 1, h => by
    have q := wide_hi d cs j (by simpa using h)
    rw [show 2 * (j + 1) + 1 = 2 * j + 1 + 1 + 1 from by omega]
    simpa [wideBytes] using q
theorem low_at (d : Value) (cs : List Int32) (j : Nat) (h : j < cs.length) : (cs.map fun c => Value.int (lo8 c)).getD j d = .int (lo8 (cs.getD j 0)) := by
  simp [List.getD_eq_getElem?_getD, h]
/-- an array of N2 bytes vs codes the chars cs by the coder cd -/
def CodA (cs : List Int32) (cd N2 : Int32) (vs : List Value) : Prop := (cd = 0 ∧ N2 = Int32.ofNat cs.length ∧ vs = (cs.map fun c => Value.int (lo8 c)) ∧ ∀ c ∈ cs, ¬ 255 < c) ∨ (cd = 1 ∧ N2 = Int32.ofNat (2 * cs.length) ∧ vs = wideBytes cs ∧ ∃ c ∈ cs, 255 < c)
theorem CodA.cod {cs : List Int32} {cd N2 : Int32} {vs : List Value} {V : Cell} (h : CodA cs cd N2 vs) (hn : 2 * cs.length < 2 ^ 31) (hs : V.slots.size = N2.toNatClampNeg) (hv : RoadKit.Has V vs (.int 0)) : Cod cd cs.length (fun j => cs.getD j 0) V := by
  rcases h with ⟨rfl, rfl, rfl, h⟩ | ⟨rfl, rfl, rfl, c, hc, hw⟩
  · rw [n32 (by omega)] at hs
    exact Or.inl ⟨rfl, hs, fun j hj => ⟨by rw [hv j (by omega), low_at _ _ _ hj], by
      have e : cs.getD j 0 = cs[j] := by simp [List.getD_eq_getElem?_getD, hj]
      show ¬ 255 < cs.getD j 0
      rw [e]; exact h _ (List.getElem_mem _)⟩⟩
  · rw [n32 (by omega)] at hs
    obtain ⟨j, hj, rfl⟩ := List.getElem_of_mem hc
    exact Or.inr ⟨rfl, hs, fun j hj => ⟨by rw [hv _ (by omega), wide_lo _ _ _ hj], by rw [hv _ (by omega), wide_hi _ _ _ hj]⟩, j, hj, by
      have e : cs.getD j 0 = cs[j] := by simp [List.getD_eq_getElem?_getD, hj]
      show 255 < cs.getD j 0
      rw [e]; exact hw⟩
/-- an object of exactly java/lang/String, its two fields found: as the laws ask it -/
theorem strObj {Z U : State} {a0 : Array Value} {kI : Nat} (wi : (Jvm.Cond.instantiable ST kI).before a0 Z = true) (al : Z.vm.Alike U.vm) {x : Addr} {v0 c0 : Value} (E : RoadKit.Exa Z U.heap x ST) (V : RoadKit.Fld Z U.heap x ST "value" "[B" v0) (C : RoadKit.Fld Z U.heap x ST "coder" "B" c0) :
    ∃ (D : Cell) (fV fC : Field), Blank ST x D U ∧ Found ST "value" "[B" fV U ∧ Found ST "coder" "B" fC U ∧ D.slots[fV.slot]? = some v0 ∧ D.slots[fC.slot]? = some c0 ∧ RoadKit.slotOf Z ST "value" "[B" = fV.slot ∧ RoadKit.slotOf Z ST "coder" "B" = fC.slot := by
  obtain ⟨D, cfV, kV, iV, fV, hD, gV, stV, knV, obV, asV, slV⟩ := V
  obtain ⟨D', cfC, kC, iC, fC, hD', gC, stC, -, -, asC, slC⟩ := C
  cases hD.symm.trans hD'
  obtain ⟨D2, kD, e1, e2, e3, e4, e5⟩ := E
  cases hD.symm.trans e1
  obtain ⟨c2, k2, i1, i2, i3, -⟩ := Cond.instantiable_spec wi
  cases e2.symm.trans i1
  cases e3.symm.trans i2
  obtain ⟨kU, u1, u2⟩ := al.2.2 _ _ e3
  exact ⟨D, fV, fC, ⟨hD, ⟨knV, fun q hq => by rw [hq] at obV; cases obV⟩, by rw [al.findClass]; exact e2, kU, u1, by rw [u2]; exact i3, by rw [u2]; exact e5 i3⟩, ⟨SBG.found_only al ⟨cfV, kV, iV, gV⟩, stV⟩, ⟨SBG.found_only al ⟨cfC, kC, iC, gC⟩, stC⟩, slV, slC, by simp [RoadKit.slotOf, gV], by simp [RoadKit.slotOf, gC]⟩
theorem sta_is {Z U : State} (al : Z.vm.Alike U.vm) {C n d : String} {v : Value} (S : RoadKit.Sta Z U.heap C n d v) : StaticIs U C n d v := by
  obtain ⟨cfS, iS, kS, fS, st, cS, t1, t2, t3, t4, t5, t6, t7⟩ := S
  exact StaticIs.there (s := { Z with heap := U.heap }) ⟨cfS, iS, kS, fS, st, cS, t1, t2, t3, t4, t5, (fun q => by rw [q] at t6; cases t6), t7⟩ al rfl
/-- **length() OF SUCH A STRING** -/
theorem lenW {p : Program} {l : Launch} {e : Env} {R : Room} {s : State} {args : Array Value} {below : List Frame} {len W : Nat} {Z : State} {a0 : Array Value} {h : Heap} (hZ : Z.Warmed39 s.vm) (hw : ∀ d ∈ wordsLen, d.before a0 Z = true) {kI : Nat} (wi : (Jvm.Cond.instantiable ST kI).before a0 Z = true)
    {x t : Addr} {kb : ClassId} {cs : List Int32} {cd N2 z : Int32} {vs : List Value} (E : RoadKit.Exa Z h x ST) (V : RoadKit.Fld Z h x ST "value" "[B" (.ref t)) (C : RoadKit.Fld Z h x ST "coder" "B" (.int cd)) (K : RoadKit.Arv Z h t kb .byte N2 vs (.int 0)) (hc : CodA cs cd N2 vs) (hb : ∀ c ∈ cs, ¬ c < 0 ∧ ¬ (65535 : Int32) < c)
    (S : RoadKit.Sta Z h ST "COMPACT_STRINGS" "Z" (.int z)) (hz : ¬ z = 0) (l2 : cs.length ≤ 4000) (hfr : 2 ≤ R.frames) (hlo : W + 25 ≤ R.locals) :
    Back l R p e below s args (⟨"java/lang/String", "length", "()I"⟩ : MethodName) len W (fun P a => a = #[.ref x] ∧ P.U.heap = h ∧ P.cells + 0 ≤ R.cells ∧ P.slots + 0 ≤ R.slots)
      (fun P _ v B => ∃ L, (v = some (.int (Int32.ofNat cs.length)) ∧ L = [] ∧ B.U.heap = h) ∧ B.locs = P.locs ++ L ∧ B.cells = P.cells + 0 ∧ B.slots = P.slots + 0) := by
  obtain ⟨A, K1, K2, K3, K4, K5, K6⟩ := K
  have hcod := hc.cod (by omega) K3 K5
  intro m meth c P g ig mk a X hg hsize hdg hW hn hp'
  obtain ⟨rfl, rfl, r1, r2⟩ := hp'
  have al : Z.vm.Alike P.U.vm := hZ.alike.trans X.warmed.alike
  obtain ⟨D, fV, fC, hB, F1, F2, g1, g2, -, -⟩ := strObj wi al E V C
  have hx : Txt x t A cd cs.length (fun j => cs.getD j 0) P.U := ⟨⟨_, hB.2.2.1, D, hB.1, rfl, by cases q : D.vm <;> first | rfl | exact absurd q (hB.2.1.2 _)⟩, Has.of hB F1 g1, Has.of hB F2 g2, ⟨K1.1, State.isArrayOf_alike al K1.2.1, K1.2.2, by rcases hcod with ⟨-, q, -⟩ | ⟨-, q, -⟩ <;> omega⟩, hcod, fun j hj => by
    have e : cs.getD j 0 = cs[j] := by simp [List.getD_eq_getElem?_getD, hj]
    show ¬ cs.getD j 0 < 0 ∧ ¬ 65535 < cs.getD j 0
    rw [e]; exact hb _ (List.getElem_mem _)⟩
  obtain ⟨v, B, X', ⟨⟨hv, hh⟩, hl, hk, hs⟩, st⟩ := Len.pays x t A cd cs.length (fun j => cs.getD j 0) z (tabLen_of (movedLen hZ hw)) hfr hlo m meth c P g ig mk _ X hg hsize hdg hW hn ⟨r1, r2, rfl, hx, sta_is al S, hz⟩
  exact ⟨v, B, X', ⟨[], ⟨hv, rfl, hh⟩, hl, hk, hs⟩, st⟩
end StrChars.Road
namespace StrChars
open Jvm Sem ClassFile Op Lib Jvm.Stand Jvm.Free.XT Jvm.Free.ALB Jvm.Free.JM Jvm.Free
open Jvm.Lib.Cold (StaticIs)
/-- what place i of a byte[]'s cell holds -/
def yv (A : Cell) (i : Nat) : Int32 := match A.slots[i]? with | some (.int x) => x | _ => 0
theorem yv_get {a : Addr} {A : Cell} {U : State} (h : XT.Arr .byte a A U) (ht : Typed .byte A) {i : Nat} (hi : i < A.slots.size) : A.slots[i]? = some (.int (yv A i)) := by
  have e := Array.getElem?_eq_getElem hi
  have f := ht i _ e
  unfold yv; rw [e]
  generalize A.slots[i] = v at f
  cases v <;> simp [fits] at f ⊢
/-- the two arrays are equal, place for place -/
def EqC (A B : Cell) : Prop := A.slots.size = B.slots.size ∧ ∀ i, i < A.slots.size → yv A i = yv B i
/-- a boolean that says whether p -/
def Says01 (q : Prop) (r : Option Value) (s u : State) : Prop := ∃ v : Int32, r = some (.int v) ∧ u.heap = s.heap ∧ ((v = 1 ∧ q) ∨ (v = 0 ∧ ¬ q))
theorem Says01.mv {q : Prop} : ∀ r (U U' V V' : State), U'.heap = U.heap → V.vm.Alike V'.vm → V'.heap = V.heap → Says01 q r U V → Says01 q r U' V' :=
  fun r U U' V V' h1 _ h2 ⟨v, a, b, c⟩ => ⟨v, a, by rw [h1, h2]; exact b, c⟩
namespace LEq
def yN : MethodName := ⟨"java/lang/StringLatin1", "equals", "([B[B)Z"⟩
abbrev yB : ByteArray := jdk_43_method_13_code
theorem d0 : decode yB 0 = .ok (.aload_n 0, 1) := by decide +kernel
theorem d1 : decode yB 1 = .ok (.arraylength, 1) := by decide +kernel
theorem d2 : decode yB 2 = .ok (.aload_n 1, 1) := by decide +kernel
theorem d3 : decode yB 3 = .ok (.arraylength, 1) := by decide +kernel
theorem d4 : decode yB 4 = .ok (.if_icmp (.ne) 30, 3) := by decide +kernel
theorem d7 : decode yB 7 = .ok (.iconst 0, 1) := by decide +kernel
theorem d8 : decode yB 8 = .ok (.istore_n 2, 1) := by decide +kernel
theorem d9 : decode yB 9 = .ok (.iload_n 2, 1) := by decide +kernel
theorem d10 : decode yB 10 = .ok (.aload_n 0, 1) := by decide +kernel
theorem d11 : decode yB 11 = .ok (.arraylength, 1) := by decide +kernel
theorem d12 : decode yB 12 = .ok (.if_icmp (.ge) 20, 3) := by decide +kernel
theorem d15 : decode yB 15 = .ok (.aload_n 0, 1) := by decide +kernel
theorem d16 : decode yB 16 = .ok (.iload_n 2, 1) := by decide +kernel
theorem d17 : decode yB 17 = .ok (.baload, 1) := by decide +kernel
theorem d18 : decode yB 18 = .ok (.aload_n 1, 1) := by decide +kernel
theorem d19 : decode yB 19 = .ok (.iload_n 2, 1) := by decide +kernel
theorem d20 : decode yB 20 = .ok (.baload, 1) := by decide +kernel
theorem d21 : decode yB 21 = .ok (.if_icmp (.eq) 5, 3) := by decide +kernel
theorem d24 : decode yB 24 = .ok (.iconst 0, 1) := by decide +kernel
theorem d25 : decode yB 25 = .ok (.ireturn, 1) := by decide +kernel
theorem d26 : decode yB 26 = .ok (.iinc 2 1, 3) := by decide +kernel
theorem d29 : decode yB 29 = .ok (.goto (-20), 3) := by decide +kernel
theorem d32 : decode yB 32 = .ok (.iconst 1, 1) := by decide +kernel
theorem d33 : decode yB 33 = .ok (.ireturn, 1) := by decide +kernel
theorem d34 : decode yB 34 = .ok (.iconst 0, 1) := by decide +kernel
theorem d35 : decode yB 35 = .ok (.ireturn, 1) := by decide +kernel
def site : List Cond := []
def tab : Cond := tabOf yN yB 3 (some .boolean) site
def P (a : Addr) (A : Cell) (b : Addr) (B : Cell) (args : Array Value) (s : State) : Prop := args = #[.ref a, .ref b] ∧ XT.Arr .byte a A s ∧ Typed .byte A ∧ XT.Arr .byte b B s ∧ Typed .byte B
/-- whether two byte[] are equal, place for place -/
theorem law (l : Launch) (a : Addr) (A : Cell) (b : Addr) (B : Cell) : Law l yN 2 2 0 0 yB 3 (some .boolean) site (P a A b B) (Says01 (EqC A B)) [] 0 0 := by
  refine Law.of_walk (plainFor_of_name (by decide +kernel)) (by decide +kernel) (by decide +kernel) (by decide) (fun _ _ h => by rw [h.1]; rfl) (fun _ U U' hal hh h => ⟨h.1, h.2.1.mv hal hh, h.2.2.1, h.2.2.2.1.mv hal hh, h.2.2.2.2⟩) (fun r U U' V V' h1 hal h2 h => Says01.mv r U U' V V' h1 hal h2 h) ?_
  intro p e s m args below meth c s₁ X0 hexec hbytes hml hret hlk hnm hown hh0 W hP
  obtain ⟨rfl, hA, tA, hB, tB⟩ := hP
  have a31 := hA.2.2.2
  have b31 := hB.2.2.2
  have hA0 := hA.mv X0.warmed.alike hh0
  have hB0 := hB.mv X0.warmed.alike hh0
  have c1 : Steps p.tables e below (s₁.setTop (entryFrame m #[.ref a, .ref b] 3)) (s₁.setTop (mkF m 0 #[.val (.ref a), .val (.ref b), .unset] [])) := entry rfl
  have c2 : Steps p.tables e below (s₁.setTop (entryFrame m #[.ref a, .ref b] 3)) (s₁.setTop (mkF m 4 #[.val (.ref a), .val (.ref b), .unset] [.int (Int32.ofNat B.slots.size), .int (Int32.ofNat A.slots.size)])) := c1.trans (by
    refine XS.aloadN X0.here hexec rfl (hb hbytes d0) rfl rfl ?_
    refine X0.alen hexec hA0 rfl rfl (hb hbytes d1) ?_
    refine XS.aloadN X0.here hexec rfl (hb hbytes d2) rfl rfl ?_
    refine X0.alen hexec hB0 rfl rfl (hb hbytes d3) ?_
    exact Steps.refl _)
  by_cases hs : A.slots.size = B.slots.size
  · have c3 : Steps p.tables e below (s₁.setTop (entryFrame m #[.ref a, .ref b] 3)) (s₁.setTop (mkF m 9 #[.val (.ref a), .val (.ref b), .val (.int 0)] [])) := c2.trans (by
      refine XS.icmpNo X0.here hexec rfl (hb hbytes d4) rfl (ii_ne_f (by rw [hs])) ?_
      refine iconstV X0.here hexec rfl 0 (hb hbytes d7) (by decide) ?_
      refine XS.istoreN X0.here hexec rfl (hb hbytes d8) rfl rfl ?_
      exact Steps.refl _)
    have loop : ∀ (r i : Nat), i + r = A.slots.size → (∀ j, j < i → yv A j = yv B j) → Steps p.tables e below (s₁.setTop (entryFrame m #[.ref a, .ref b] 3)) (s₁.setTop (mkF m 9 #[.val (.ref a), .val (.ref b), .val (.int (Int32.ofNat i))] [])) → ∃ (pc : Nat) (Ls : Array Slot) (v : Int32), (pc = 25 ∨ pc = 33) ∧ ((v = 1 ∧ EqC A B) ∨ (v = 0 ∧ ¬ EqC A B)) ∧ Steps p.tables e below (s₁.setTop (entryFrame m #[.ref a, .ref b] 3)) (s₁.setTop (mkF m pc Ls [.int v])) := by
      intro r
      induction r with
      | zero =>
        intro i hi he cl
        exact ⟨33, _, 1, Or.inr rfl, Or.inl ⟨rfl, hs, fun j hj => he j (by omega)⟩, cl.trans (by
          refine XS.iloadN X0.here hexec rfl (hb hbytes d9) rfl ?_
          refine XS.aloadN X0.here hexec rfl (hb hbytes d10) rfl rfl ?_
          refine X0.alen hexec hA0 rfl rfl (hb hbytes d11) ?_
          refine XS.icmpYes X0.here hexec rfl (pc0 := 12) rfl (hb hbytes d12) rfl (ii_ge_t (nlt32 (by omega) (by omega))) (by decide) rfl ?_
          refine iconstV X0.here hexec rfl 1 (hb hbytes d32) (by decide) ?_
          exact Steps.refl _)⟩
      | succ r ih =>
        intro i hi he cl
        have c4 : Steps p.tables e below (s₁.setTop (entryFrame m #[.ref a, .ref b] 3)) (s₁.setTop (mkF m 21 #[.val (.ref a), .val (.ref b), .val (.int (Int32.ofNat i))] [.int (yv B i), .int (yv A i)])) := cl.trans (by
          refine XS.iloadN X0.here hexec rfl (hb hbytes d9) rfl ?_
          refine XS.aloadN X0.here hexec rfl (hb hbytes d10) rfl rfl ?_
          refine X0.alen hexec hA0 rfl rfl (hb hbytes d11) ?_
          refine XS.icmpNo X0.here hexec rfl (hb hbytes d12) rfl (ii_ge_f (lt32 (by omega) (by omega))) ?_
          refine XS.aloadN X0.here hexec rfl (hb hbytes d15) rfl rfl ?_
          refine XS.iloadN X0.here hexec rfl (hb hbytes d16) rfl ?_
          refine X0.aget hexec hA0 rfl (yv_get hA tA (i := i) (by omega)) rfl rfl (hb hbytes d17) ?_
          refine XS.aloadN X0.here hexec rfl (hb hbytes d18) rfl rfl ?_
          refine XS.iloadN X0.here hexec rfl (hb hbytes d19) rfl ?_
          refine X0.aget hexec hB0 rfl (yv_get hB tB (i := i) (by omega)) rfl rfl (hb hbytes d20) ?_
          exact Steps.refl _)
        by_cases hv : yv A i = yv B i
        · have c5 : Steps p.tables e below (s₁.setTop (entryFrame m #[.ref a, .ref b] 3)) (s₁.setTop (mkF m 9 #[.val (.ref a), .val (.ref b), .val (.int (Int32.ofNat i + 1))] [])) := c4.trans (by
            refine XS.icmpYes X0.here hexec rfl (pc0 := 21) rfl (hb hbytes d21) rfl (ii_eq_t hv) (by decide) rfl ?_
            refine iincV X0.here hexec rfl 1 (hb hbytes d26) (by decide) rfl rfl ?_
            refine XS.goto X0.here hexec rfl (pc0 := 29) rfl (hb hbytes d29) (by decide) rfl ?_
            exact Steps.refl _)
          rw [succ32] at c5
          exact ih (i + 1) (by omega) (fun j hj => by
            by_cases e : j = i
            · rw [e]; exact hv
            · exact he j (by omega)) c5
        · exact ⟨25, _, 0, Or.inl rfl, Or.inr ⟨rfl, fun q => hv (q.2 i (by omega))⟩, c4.trans (by
            refine XS.icmpNo X0.here hexec rfl (hb hbytes d21) rfl (ii_eq_f hv) ?_
            refine iconstV X0.here hexec rfl 0 (hb hbytes d24) (by decide) ?_
            exact Steps.refl _)⟩
    obtain ⟨pc, Ls, v, hpc, hv, cz⟩ := loop A.slots.size 0 (by omega) (fun j hj => absurd hj (Nat.not_lt_zero j)) c3
    have nv : narrow .boolean (.int v) = .int v := by rcases hv with ⟨rfl, -⟩ | ⟨rfl, -⟩ <;> rfl
    rcases hpc with rfl | rfl
    · exact ⟨s₁, some (.int v), _, _, _, X0, rfl, rfl, rfl, (fun h => by cases h), ⟨v, rfl, hh0, hv⟩, fun fs hl => cz.trans (X0.ireturnOut hexec hret nv (Or.inr (Or.inl rfl)) (hb hbytes d25) hl)⟩
    · exact ⟨s₁, some (.int v), _, _, _, X0, rfl, rfl, rfl, (fun h => by cases h), ⟨v, rfl, hh0, hv⟩, fun fs hl => cz.trans (X0.ireturnOut hexec hret nv (Or.inr (Or.inl rfl)) (hb hbytes d33) hl)⟩
  · have c3 : Steps p.tables e below (s₁.setTop (entryFrame m #[.ref a, .ref b] 3)) (s₁.setTop (mkF m 35 #[.val (.ref a), .val (.ref b), .unset] [.int 0])) := c2.trans (by
      refine XS.icmpYes X0.here hexec rfl (pc0 := 4) rfl (hb hbytes d4) rfl (ii_ne_t (ne32 a31 b31 hs)) (by decide) rfl ?_
      refine iconstV X0.here hexec rfl 0 (hb hbytes d34) (by decide) ?_
      exact Steps.refl _)
    exact ⟨s₁, some (.int 0), _, _, _, X0, rfl, rfl, rfl, (fun h => by cases h), ⟨0, rfl, hh0, Or.inr ⟨rfl, fun q => hs q.1⟩⟩, fun fs hl => c3.trans (X0.ireturnOut hexec hret rfl (Or.inr (Or.inl rfl)) (hb hbytes d35) hl)⟩
end LEq
theorem Cod.ty {cd : Int32} {n : Nat} {f : Nat → Int32} {V : Cell} (h : Cod cd n f V) : Typed .byte V := fun i v hv => by
  have hi : i < V.slots.size := (Array.getElem?_eq_some_iff.mp hv).1
  rcases h with ⟨-, k1, k2⟩ | ⟨-, k1, k2, -⟩
  · rw [(k2 i (by omega)).1] at hv; cases hv; exact fits_lo8 _
  · rcases Nat.mod_two_eq_zero_or_one i with e | e
    · obtain ⟨j, rfl⟩ : ∃ j, i = 2 * j := ⟨i / 2, by omega⟩
      rw [(k2 j (by omega)).1] at hv; cases hv; exact fits_lo8 _
    · obtain ⟨j, rfl⟩ : ∃ j, i = 2 * j + 1 := ⟨i / 2, by omega⟩
      rw [(k2 j (by omega)).2] at hv; cases hv; exact fits_lo8 _
/-- the same text -/
def SameT (n : Nat) (f : Nat → Int32) (k : Nat) (g : Nat → Int32) : Prop := n = k ∧ ∀ j, j < n → f j = g j
theorem lo8_inj {x y : Int32} (h0 : ¬ x < 0) (h1 : ¬ 255 < x) (k0 : ¬ y < 0) (k1 : ¬ 255 < y) (h : lo8 x = lo8 y) : x = y := by
  rw [← lo8_mask h0 h1, ← lo8_mask k0 k1, h]
/-- arrays coded by one coder are equal just where the texts are -/
theorem Cod.eqv {cd : Int32} {n k : Nat} {f g : Nat → Int32} {V V' : Cell} (h : Cod cd n f V) (h' : Cod cd k g V') (hf : ∀ j, j < n → ¬ f j < 0 ∧ ¬ 65535 < f j) (hg : ∀ j, j < k → ¬ g j < 0 ∧ ¬ 65535 < g j) : EqC V V' ↔ SameT n f k g := by
  have yvv : ∀ {W : Cell} {i : Nat} {x : Int32}, W.slots[i]? = some (.int x) → yv W i = x := fun q => by unfold yv; rw [q]
  rcases h with ⟨rfl, k1, k2⟩ | ⟨rfl, k1, k2, -⟩
  · rcases h' with ⟨-, m1, m2⟩ | ⟨e, -⟩
    · constructor
      · rintro ⟨e1, e2⟩
        refine ⟨by omega, fun j hj => ?_⟩
        have q := e2 j (by omega)
        rw [yvv (k2 j hj).1, yvv (m2 j (by omega)).1] at q
        exact lo8_inj (hf j hj).1 (k2 j hj).2 (hg j (by omega)).1 (m2 j (by omega)).2 q
      · rintro ⟨rfl, e2⟩
        refine ⟨by omega, fun j hj => ?_⟩
        rw [yvv (k2 j (by omega)).1, yvv (m2 j (by omega)).1, e2 j (by omega)]
    · exact absurd e (by decide)
  · rcases h' with ⟨e, -⟩ | ⟨-, m1, m2, -⟩
    · exact absurd e (by decide)
    · constructor
      · rintro ⟨e1, e2⟩
        refine ⟨by omega, fun j hj => ?_⟩
        have q1 := e2 (2 * j) (by omega)
        have q2 := e2 (2 * j + 1) (by omega)
        rw [yvv (k2 j hj).1, yvv (m2 j (by omega)).1] at q1
        rw [yvv (k2 j hj).2, yvv (m2 j (by omega)).2] at q2
        rw [← pair_says (hf j hj).1 (hf j hj).2, ← pair_says (hg j (by omega)).1 (hg j (by omega)).2, q1, q2]
      · rintro ⟨rfl, e2⟩
        refine ⟨by omega, fun i hi => ?_⟩
        rcases Nat.mod_two_eq_zero_or_one i with e | e
        · obtain ⟨j, rfl⟩ : ∃ j, i = 2 * j := ⟨i / 2, by omega⟩
          rw [yvv (k2 j (by omega)).1, yvv (m2 j (by omega)).1, e2 j (by omega)]
        · obtain ⟨j, rfl⟩ : ∃ j, i = 2 * j + 1 := ⟨i / 2, by omega⟩
          rw [yvv (k2 j (by omega)).2, yvv (m2 j (by omega)).2, e2 j (by omega)]
/-- two codings differ: so do the texts -/
theorem Cod.dif {cd cd' : Int32} {n k : Nat} {f g : Nat → Int32} {V V' : Cell} (h : Cod cd n f V) (h' : Cod cd' k g V') (hne : ¬ cd = cd') : ¬ SameT n f k g := by
  rintro ⟨rfl, e⟩
  rcases h with ⟨rfl, -, k2⟩ | ⟨rfl, -, -, j, hj, hw⟩
  · rcases h' with ⟨rfl, -⟩ | ⟨-, -, -, j, hj, hw⟩
    · exact hne rfl
    · exact (k2 j hj).2 (by rw [e j hj]; exact hw)
  · rcases h' with ⟨-, -, m2⟩ | ⟨rfl, -⟩
    · exact (m2 j hj).2 (by rw [← e j hj]; exact hw)
    · exact hne rfl
/-- an object of exactly C is an instance of C -/
theorem cinst {p : Program} {l : Launch} {e : Env} {R : Room} {s : State} {m : MethodId} {args : Array Value} {below : List Frame} {meth : Method} {c : Code} {T : State} {locs : List Loc} {cells slots : Nat} (X : Stand p l e R s m args below meth c T locs cells slots) (hexec : p.tables.exec = Jvm.exec) {own C : String} {index : Nat} (hown : s.vm.findClass own = some m.cls) (hlink : (Cond.classLink own index C).before args s = true) {a : Addr} (hE : Exact C a T)
    {g : JFrame} (hg : g.method = m) {rest : List Value} (hstack : g.stack = .ref a :: rest) (hdg : decode c.code g.pc = .ok (.instanceof index, 3)) :
    ∃ T', Stand p l e R s m args below meth c T' locs cells slots ∧ T'.heap = T.heap ∧ ∀ target, Steps p.tables e below (T'.setTop { g with pc := g.pc + 3, stack := .int 1 :: rest }) target → Steps p.tables e below (T.setTop g) target := by
  obtain ⟨cB, h1, D, h2, h3, h4⟩ := hE
  have h1' : s.vm.findClass C = some cB := by rw [← X.warmed.alike.findClass]; exact h1
  obtain ⟨vm', X', st⟩ := X.instanceofYes hexec hown hlink h2 h4 h1' (by rw [h3]; exact Jvm.Free.SB.assignable_self _ _) hg hstack hdg
  exact ⟨_, X', rfl, st⟩
theorem cself {p : Program} {l : Launch} {e : Env} {R : Room} {s : State} {m : MethodId} {args : Array Value} {below : List Frame} {meth : Method} {c : Code} {T : State} {locs : List Loc} {cells slots : Nat} (X : Stand p l e R s m args below meth c T locs cells slots) (hexec : p.tables.exec = Jvm.exec) {own C : String} {index : Nat} (hown : s.vm.findClass own = some m.cls) (hlink : (Cond.classLink own index C).before args s = true) {a : Addr} (hE : Exact C a T)
    {g : JFrame} (hg : g.method = m) {rest : List Value} (hstack : g.stack = .ref a :: rest) (hdg : decode c.code g.pc = .ok (.checkcast index, 3)) :
    ∃ T', Stand p l e R s m args below meth c T' locs cells slots ∧ T'.heap = T.heap ∧ ∀ target, Steps p.tables e below (T'.setTop { g with pc := g.pc + 3, stack := .ref a :: rest }) target → Steps p.tables e below (T.setTop g) target := by
  obtain ⟨cB, h1, D, h2, h3, h4⟩ := hE
  have h1' : s.vm.findClass C = some cB := by rw [← X.warmed.alike.findClass]; exact h1
  obtain ⟨vm', X', st⟩ := X.checkcastYes hexec hown hlink h2 h4 h1' (by rw [h3]; exact Jvm.Free.SB.assignable_self _ _) hg hstack hdg
  exact ⟨_, X', rfl, fun t h => st t (by rw [← hstack] at h; exact h)⟩
namespace SEq
def yN : MethodName := ⟨"java/lang/String", "equals", "(Ljava/lang/Object;)Z"⟩
abbrev yB : ByteArray := jdk_42_method_66_code
theorem d0 : decode yB 0 = .ok (.aload_n 0, 1) := by decide +kernel
theorem d1 : decode yB 1 = .ok (.aload_n 1, 1) := by decide +kernel
theorem d2 : decode yB 2 = .ok (.if_acmp (.ne) 5, 3) := by decide +kernel
theorem d5 : decode yB 5 = .ok (.iconst 1, 1) := by decide +kernel
theorem d6 : decode yB 6 = .ok (.ireturn, 1) := by decide +kernel
theorem d7 : decode yB 7 = .ok (.aload_n 1, 1) := by decide +kernel
theorem d8 : decode yB 8 = .ok (.instanceof 10, 3) := by decide +kernel
theorem d11 : decode yB 11 = .ok (.ifCond (.eq) 43, 3) := by decide +kernel
theorem d14 : decode yB 14 = .ok (.aload_n 1, 1) := by decide +kernel
theorem d15 : decode yB 15 = .ok (.checkcast 10, 3) := by decide +kernel
theorem d18 : decode yB 18 = .ok (.astore_n 2, 1) := by decide +kernel
theorem d19 : decode yB 19 = .ok (.getstatic 38, 3) := by decide +kernel
theorem d22 : decode yB 22 = .ok (.ifCond (.eq) 14, 3) := by decide +kernel
theorem d25 : decode yB 25 = .ok (.aload_n 0, 1) := by decide +kernel
theorem d26 : decode yB 26 = .ok (.getfield 15, 3) := by decide +kernel
theorem d29 : decode yB 29 = .ok (.aload_n 2, 1) := by decide +kernel
theorem d30 : decode yB 30 = .ok (.getfield 15, 3) := by decide +kernel
theorem d33 : decode yB 33 = .ok (.if_icmp (.ne) 21, 3) := by decide +kernel
theorem d36 : decode yB 36 = .ok (.aload_n 0, 1) := by decide +kernel
theorem d37 : decode yB 37 = .ok (.getfield 9, 3) := by decide +kernel
theorem d40 : decode yB 40 = .ok (.aload_n 2, 1) := by decide +kernel
theorem d41 : decode yB 41 = .ok (.getfield 9, 3) := by decide +kernel
theorem d44 : decode yB 44 = .ok (.invokestatic 541, 3) := by decide +kernel
theorem d47 : decode yB 47 = .ok (.ifCond (.eq) 7, 3) := by decide +kernel
theorem d50 : decode yB 50 = .ok (.iconst 1, 1) := by decide +kernel
theorem d51 : decode yB 51 = .ok (.goto 4, 3) := by decide +kernel
theorem d54 : decode yB 54 = .ok (.iconst 0, 1) := by decide +kernel
theorem d55 : decode yB 55 = .ok (.ireturn, 1) := by decide +kernel
def site : List Cond := [.classLink "java/lang/String" 10 "java/lang/String", .fieldLink "java/lang/String" 38 "java/lang/String" "COMPACT_STRINGS" "Z", .fieldLink "java/lang/String" 15 "java/lang/String" "coder" "B", .fieldLink "java/lang/String" 9 "java/lang/String" "value" "[B", LEq.tab] ++ staticW "java/lang/String" 541 LEq.yN
def tab : Cond := tabOf yN yB 3 (some .boolean) site
def P (x t : Addr) (V : Cell) (cd : Int32) (n : Nat) (f : Nat → Int32) (y t' : Addr) (V' : Cell) (cd' : Int32) (k : Nat) (g : Nat → Int32) (z : Int32) (args : Array Value) (s : State) : Prop := args = #[.ref x, .ref y] ∧ Txt x t V cd n f s ∧ Txt y t' V' cd' k g s ∧ StaticIs s "java/lang/String" "COMPACT_STRINGS" "Z" (.int z) ∧ ¬ z = 0
/-- equals(Object) of two Strings: whether the texts are the same -/
theorem law (l : Launch) (x t : Addr) (V : Cell) (cd : Int32) (n : Nat) (f : Nat → Int32) (y t' : Addr) (V' : Cell) (cd' : Int32) (k : Nat) (g : Nat → Int32) (z : Int32) : Law l yN 2 1 1 14 yB 3 (some .boolean) site (P x t V cd n f y t' V' cd' k g z) (Says01 (SameT n f k g)) [] 0 0 := by
  refine Law.of_walk (plainFor_of_name (by decide +kernel)) (by decide +kernel) (by decide +kernel) (by decide) (fun _ _ h => by rw [h.1]; rfl) (fun _ U U' hal hh h => ⟨h.1, h.2.1.mv hal hh, h.2.2.1.mv hal hh, h.2.2.2.1.there hal hh, h.2.2.2.2⟩) (fun r U U' V V' h1 hal h2 h => Says01.mv r U U' V V' h1 hal h2 h) ?_
  intro p e s m args below meth c s₁ X0 hexec hbytes hml hret hlk hnm hown hh0 W hP
  obtain ⟨rfl, hx, hy, s1, hz⟩ := hP
  have c1 : Steps p.tables e below (s₁.setTop (entryFrame m #[.ref x, .ref y] 3)) (s₁.setTop (mkF m 2 #[.val (.ref x), .val (.ref y), .unset] [.ref y, .ref x])) := Steps.trans (entry rfl) (by
    show Steps p.tables e below (s₁.setTop (mkF m 0 #[.val (.ref x), .val (.ref y), .unset] [])) _
    refine XS.aloadN X0.here hexec rfl (hb hbytes d0) rfl rfl ?_
    refine XS.aloadN X0.here hexec rfl (hb hbytes d1) rfl rfl ?_
    exact Steps.refl _)
  by_cases hxy : x = y
  · have c2 : Steps p.tables e below (s₁.setTop (entryFrame m #[.ref x, .ref y] 3)) (s₁.setTop (mkF m 6 #[.val (.ref x), .val (.ref y), .unset] [.int 1])) := c1.trans (by
      refine acmpNo X0.here hexec rfl (hb hbytes d2) rfl rfl rfl (by simp [acmp, hxy]) ?_
      refine iconstV X0.here hexec rfl 1 (hb hbytes d5) (by decide) ?_
      exact Steps.refl _)
    subst hxy
    have ec : cd = cd' := by
      obtain ⟨D, fd, a1, a2, a3⟩ := hx.2.2.1
      obtain ⟨D', fd', b1, b2, b3⟩ := hy.2.2.1
      cases a1.symm.trans b1
      obtain ⟨q1, q2, q3, q4⟩ := a2.1
      obtain ⟨r1, r2, r3, r4⟩ := b2.1
      cases q4.symm.trans r4
      cases a3.symm.trans b3; rfl
    have et : t = t' := by
      obtain ⟨D, fd, a1, a2, a3⟩ := hx.2.1
      obtain ⟨D', fd', b1, b2, b3⟩ := hy.2.1
      cases a1.symm.trans b1
      obtain ⟨q1, q2, q3, q4⟩ := a2.1
      obtain ⟨r1, r2, r3, r4⟩ := b2.1
      cases q4.symm.trans r4
      cases a3.symm.trans b3; rfl
    subst ec et
    have ev : V = V' := by cases hx.2.2.2.1.1.symm.trans hy.2.2.2.1.1; rfl
    subst ev
    have hs : SameT n f k g := (Cod.eqv hx.2.2.2.2.1 hy.2.2.2.2.1 hx.2.2.2.2.2 hy.2.2.2.2.2).mp ⟨rfl, fun _ _ => rfl⟩
    exact ⟨s₁, some (.int 1), _, _, _, X0, rfl, rfl, rfl, (fun h => by cases h), ⟨1, rfl, hh0, Or.inl ⟨rfl, hs⟩⟩, fun fs hl => c2.trans (X0.ireturnOut hexec hret rfl (Or.inr (Or.inl rfl)) (hb hbytes d6) hl)⟩
  · have c2 : Steps p.tables e below (s₁.setTop (entryFrame m #[.ref x, .ref y] 3)) (s₁.setTop (mkF m 8 #[.val (.ref x), .val (.ref y), .unset] [.ref y])) := c1.trans (by
      refine acmpYes X0.here hexec rfl (pc0 := 2) rfl (hb hbytes d2) rfl rfl rfl (by simp [acmp, hxy]) (by decide) rfl ?_
      refine XS.aloadN X0.here hexec rfl (hb hbytes d7) rfl rfl ?_
      exact Steps.refl _)
    obtain ⟨T3, X3, q3, st3⟩ := cinst X0 hexec hown (wk W (.classLink "java/lang/String" 10 "java/lang/String")) (hy.mv X0.warmed.alike hh0).1 (g := (mkF m 8 #[.val (.ref x), .val (.ref y), .unset] [.ref y])) rfl (rest := []) rfl (hb hbytes d8)
    have hh3 := q3.trans hh0
    have c4 : Steps p.tables e below (s₁.setTop (entryFrame m #[.ref x, .ref y] 3)) (T3.setTop (mkF m 15 #[.val (.ref x), .val (.ref y), .unset] [.ref y])) := (c2.trans (st3 _ (Steps.refl _))).trans (by
      refine XS.ifNo X3.here hexec rfl (hb hbytes d11) rfl (i0_eq_f (by decide)) ?_
      refine XS.aloadN X3.here hexec rfl (hb hbytes d14) rfl rfl ?_
      exact Steps.refl _)
    obtain ⟨T5, X5, q5, st5⟩ := cself X3 hexec hown (wk W (.classLink "java/lang/String" 10 "java/lang/String")) (hy.mv X3.warmed.alike hh3).1 (g := (mkF m 15 #[.val (.ref x), .val (.ref y), .unset] [.ref y])) rfl (rest := []) rfl (hb hbytes d15)
    have hh5 := q5.trans hh3
    have c6 : Steps p.tables e below (s₁.setTop (entryFrame m #[.ref x, .ref y] 3)) (T5.setTop (mkF m 19 #[.val (.ref x), .val (.ref y), .val (.ref y)] [])) := (c4.trans (st5 _ (Steps.refl _))).trans (by
      refine XS.astoreN X5.here hexec rfl (hb hbytes d18) rfl rfl rfl ?_
      exact Steps.refl _)
    obtain ⟨T7, X7, q7, st7⟩ := X5.sget hexec hown (wk W (.fieldLink "java/lang/String" 38 "java/lang/String" "COMPACT_STRINGS" "Z")) s1 (fun _ _ h => by rw [hh5]; exact h) (g := (mkF m 19 #[.val (.ref x), .val (.ref y), .val (.ref y)] [])) rfl (hb hbytes d19)
    have hh7 := q7.trans hh5
    have c8 : Steps p.tables e below (s₁.setTop (entryFrame m #[.ref x, .ref y] 3)) (T7.setTop (mkF m 26 #[.val (.ref x), .val (.ref y), .val (.ref y)] [.ref x])) := (c6.trans (st7 _ (Steps.refl _))).trans (by
      refine XS.ifNo X7.here hexec rfl (hb hbytes d22) rfl (i0_eq_f hz) ?_
      refine XS.aloadN X7.here hexec rfl (hb hbytes d25) rfl rfl ?_
      exact Steps.refl _)
    obtain ⟨T9, X9, q9, st9⟩ := X7.hget hexec hown (wk W (.fieldLink "java/lang/String" 15 "java/lang/String" "coder" "B")) (hx.mv X7.warmed.alike hh7).2.2.1 (g := (mkF m 26 #[.val (.ref x), .val (.ref y), .val (.ref y)] [.ref x])) rfl (rest := []) rfl (hb hbytes d26)
    have hh9 := q9.trans hh7
    have c10 : Steps p.tables e below (s₁.setTop (entryFrame m #[.ref x, .ref y] 3)) (T9.setTop (mkF m 30 #[.val (.ref x), .val (.ref y), .val (.ref y)] [.ref y, .int cd])) := (c8.trans (st9 _ (Steps.refl _))).trans (by
      refine XS.aloadN X9.here hexec rfl (hb hbytes d29) rfl rfl ?_
      exact Steps.refl _)
    obtain ⟨T11, X11, q11, st11⟩ := X9.hget hexec hown (wk W (.fieldLink "java/lang/String" 15 "java/lang/String" "coder" "B")) (hy.mv X9.warmed.alike hh9).2.2.1 (g := (mkF m 30 #[.val (.ref x), .val (.ref y), .val (.ref y)] [.ref y, .int cd])) rfl (rest := [.int cd]) rfl (hb hbytes d30)
    have hh11 := q11.trans hh9
    have c12 : Steps p.tables e below (s₁.setTop (entryFrame m #[.ref x, .ref y] 3)) (T11.setTop (mkF m 33 #[.val (.ref x), .val (.ref y), .val (.ref y)] [.int cd', .int cd])) := c10.trans (st11 _ (Steps.refl _))
    by_cases hcd : cd = cd'
    · subst hcd
      have c13 : Steps p.tables e below (s₁.setTop (entryFrame m #[.ref x, .ref y] 3)) (T11.setTop (mkF m 37 #[.val (.ref x), .val (.ref y), .val (.ref y)] [.ref x])) := c12.trans (by
        refine XS.icmpNo X11.here hexec rfl (hb hbytes d33) rfl (ii_ne_f rfl) ?_
        refine XS.aloadN X11.here hexec rfl (hb hbytes d36) rfl rfl ?_
        exact Steps.refl _)
      obtain ⟨T14, X14, q14, st14⟩ := X11.hget hexec hown (wk W (.fieldLink "java/lang/String" 9 "java/lang/String" "value" "[B")) (hx.mv X11.warmed.alike hh11).2.1 (g := (mkF m 37 #[.val (.ref x), .val (.ref y), .val (.ref y)] [.ref x])) rfl (rest := []) rfl (hb hbytes d37)
      have hh14 := q14.trans hh11
      have c15 : Steps p.tables e below (s₁.setTop (entryFrame m #[.ref x, .ref y] 3)) (T14.setTop (mkF m 41 #[.val (.ref x), .val (.ref y), .val (.ref y)] [.ref y, .ref t])) := (c13.trans (st14 _ (Steps.refl _))).trans (by
        refine XS.aloadN X14.here hexec rfl (hb hbytes d40) rfl rfl ?_
        exact Steps.refl _)
      obtain ⟨T16, X16, q16, st16⟩ := X14.hget hexec hown (wk W (.fieldLink "java/lang/String" 9 "java/lang/String" "value" "[B")) (hy.mv X14.warmed.alike hh14).2.1 (g := (mkF m 41 #[.val (.ref x), .val (.ref y), .val (.ref y)] [.ref y, .ref t])) rfl (rest := [.ref t]) rfl (hb hbytes d41)
      have hh16 := q16.trans hh14
      have c17 : Steps p.tables e below (s₁.setTop (entryFrame m #[.ref x, .ref y] 3)) (T16.setTop (mkF m 44 #[.val (.ref x), .val (.ref y), .val (.ref y)] [.ref t', .ref t])) := c15.trans (st16 _ (Steps.refl _))
      obtain ⟨v18, T18, X18, E18, g18⟩ := X16.callS hexec (LEq.law l t V t' V') hown (wks W (staticW "java/lang/String" 541 LEq.yN)) (wk W LEq.tab) (W := 0) (Nat.le_of_ble_eq_true rfl) (Nat.le_of_ble_eq_true rfl) (Nat.le_refl _) (Nat.le_refl _) (g := (mkF m 44 #[.val (.ref x), .val (.ref y), .val (.ref y)] [.ref t', .ref t])) rfl (by rw [hml]; rfl) c17 (argsL := [.ref t, .ref t']) (rest := []) rfl rfl (by show 2 * 0 + 0 ≤ _; decide) (hb hbytes d44) (⟨rfl, hx.2.2.2.1.mv X16.warmed.alike hh16, hx.2.2.2.2.1.ty, hy.2.2.2.1.mv X16.warmed.alike hh16, hy.2.2.2.2.1.ty⟩)
      obtain ⟨v, rfl, q18, hv⟩ := E18
      have iff := Cod.eqv hx.2.2.2.2.1 hy.2.2.2.2.1 hx.2.2.2.2.2 hy.2.2.2.2.2
      rcases hv with ⟨rfl, he⟩ | ⟨rfl, he⟩
      · have c19 : Steps p.tables e below (s₁.setTop (entryFrame m #[.ref x, .ref y] 3)) (T18.setTop (mkF m 55 #[.val (.ref x), .val (.ref y), .val (.ref y)] [.int 1])) := Steps.trans g18 (by
          refine XS.ifNo X18.here hexec rfl (hb hbytes d47) rfl (i0_eq_f (by decide)) ?_
          refine iconstV X18.here hexec rfl 1 (hb hbytes d50) (by decide) ?_
          refine XS.goto X18.here hexec rfl (pc0 := 51) rfl (hb hbytes d51) (by decide) rfl ?_
          exact Steps.refl _)
        exact ⟨T18, some (.int 1), _, _, _, X18, rfl, rfl, rfl, (fun h => by cases h), ⟨1, rfl, q18.trans hh16, Or.inl ⟨rfl, iff.mp he⟩⟩, fun fs hl => c19.trans (X18.ireturnOut hexec hret rfl (Or.inr (Or.inl rfl)) (hb hbytes d55) hl)⟩
      · have c19 : Steps p.tables e below (s₁.setTop (entryFrame m #[.ref x, .ref y] 3)) (T18.setTop (mkF m 55 #[.val (.ref x), .val (.ref y), .val (.ref y)] [.int 0])) := Steps.trans g18 (by
          refine XS.ifYes X18.here hexec rfl (pc0 := 47) rfl (hb hbytes d47) rfl (i0_eq_t rfl) (by decide) rfl ?_
          refine iconstV X18.here hexec rfl 0 (hb hbytes d54) (by decide) ?_
          exact Steps.refl _)
        exact ⟨T18, some (.int 0), _, _, _, X18, rfl, rfl, rfl, (fun h => by cases h), ⟨0, rfl, q18.trans hh16, Or.inr ⟨rfl, fun q => he (iff.mpr q)⟩⟩, fun fs hl => c19.trans (X18.ireturnOut hexec hret rfl (Or.inr (Or.inl rfl)) (hb hbytes d55) hl)⟩
    · have c13 : Steps p.tables e below (s₁.setTop (entryFrame m #[.ref x, .ref y] 3)) (T11.setTop (mkF m 55 #[.val (.ref x), .val (.ref y), .val (.ref y)] [.int 0])) := c12.trans (by
        refine XS.icmpYes X11.here hexec rfl (pc0 := 33) rfl (hb hbytes d33) rfl (ii_ne_t hcd) (by decide) rfl ?_
        refine iconstV X11.here hexec rfl 0 (hb hbytes d54) (by decide) ?_
        exact Steps.refl _)
      exact ⟨T11, some (.int 0), _, _, _, X11, rfl, rfl, rfl, (fun h => by cases h), ⟨0, rfl, hh11, Or.inr ⟨rfl, Cod.dif hx.2.2.2.2.1 hy.2.2.2.2.1 hcd⟩⟩, fun fs hl => c13.trans (X11.ireturnOut hexec hret rfl (Or.inr (Or.inl rfl)) (hb hbytes d55) hl)⟩
theorem pays {l : Launch} {R : Room} {p : Program} {e : Env} {below : List Frame} {s : State} {sargs : Array Value} {len W : Nat} (x t : Addr) (V : Cell) (cd : Int32) (n : Nat) (f : Nat → Int32) (y t' : Addr) (V' : Cell) (cd' : Int32) (k : Nat) (g : Nat → Int32) (z : Int32) (htab : tab.before sargs s = true) (hfr : 2 ≤ R.frames) (hlo : W + 28 ≤ R.locals) :
    Back l R p e below s sargs yN len W (fun A₁ a₁ => A₁.cells + 0 ≤ R.cells ∧ A₁.slots + 0 ≤ R.slots ∧ P x t V cd n f y t' V' cd' k g z a₁ A₁.U) (fun A₁ _ v₁ B₁ => Says01 (SameT n f k g) v₁ A₁.U B₁.U ∧ B₁.locs = A₁.locs ++ [] ∧ B₁.cells = A₁.cells + 0 ∧ B₁.slots = A₁.slots + 0) :=
  (law l x t V cd n f y t' V' cd' k g z).pays htab hfr (by omega)
end SEq
end StrChars
namespace StrChars.Road
open Jvm Sem ClassFile Op Lib Jvm.Stand Jvm.Free Jvm.Free.XT
open Jvm.Lib.Cold (StaticIs)
/-- the words of String.equals(Object) -/
abbrev wordsEq : List Jvm.Cond := [.code SEq.yN SEq.yB 3 (some .boolean), .initialized ST, .classLink ST 10 ST, .fieldLink ST 38 ST "COMPACT_STRINGS" "Z", .fieldLink ST 15 ST "coder" "B", .fieldLink ST 9 ST "value" "[B", .methodLink ST 541 LEq.yN, .static LEq.yN, .code LEq.yN LEq.yB 3 (some .boolean), .initialized "java/lang/StringLatin1"]
theorem tabEq_of {a : Array Value} {s : State} (h : ∀ w ∈ wordsEq, w.before a s = true) : SEq.tab.before a s = true := by
  have hl : LEq.tab.before a s = true := unparts (wk h (.code LEq.yN LEq.yB 3 (some .boolean))) (wks h (.initialized LEq.yN.cls :: LEq.site))
  have q := consq hl h
  exact unparts (wk q (.code SEq.yN SEq.yB 3 (some .boolean))) (wks q (.initialized SEq.yN.cls :: SEq.site))
theorem movedEq {Z s : State} {a0 args : Array Value} (hZ : Z.Warmed39 s.vm) (hw : ∀ d ∈ wordsEq, d.before a0 Z = true) : ∀ d ∈ wordsEq, d.before args s = true := fun d hd => by
  have t : ∀ d ∈ wordsEq, (d.onTables && d.keepsFace) = true := by decide +kernel
  exact RoadKit.mv hZ (hw d hd) (t d hd)
/-- the road's facts of a String, as the laws ask it -/
theorem txt_of {Z U : State} {a0 : Array Value} {kI : Nat} (wi : (Jvm.Cond.instantiable ST kI).before a0 Z = true) (al : Z.vm.Alike U.vm) {x t : Addr} {kb : ClassId} {cs : List Int32} {cd N2 : Int32} {vs : List Value} (E : RoadKit.Exa Z U.heap x ST) (V : RoadKit.Fld Z U.heap x ST "value" "[B" (.ref t)) (C : RoadKit.Fld Z U.heap x ST "coder" "B" (.int cd)) (K : RoadKit.Arv Z U.heap t kb .byte N2 vs (.int 0)) (hc : CodA cs cd N2 vs) (hb : ∀ c ∈ cs, ¬ c < 0 ∧ ¬ (65535 : Int32) < c) (l2 : cs.length ≤ 4000) :
    ∃ A, Txt x t A cd cs.length (fun j => cs.getD j 0) U := by
  obtain ⟨A, K1, K2, K3, K4, K5, K6⟩ := K
  have hcod := hc.cod (by omega) K3 K5
  obtain ⟨D, fV, fC, hB, F1, F2, g1, g2, -, -⟩ := strObj wi al E V C
  exact ⟨A, ⟨_, hB.2.2.1, D, hB.1, rfl, by cases q : D.vm <;> first | rfl | exact absurd q (hB.2.1.2 _)⟩, Has.of hB F1 g1, Has.of hB F2 g2, ⟨K1.1, State.isArrayOf_alike al K1.2.1, K1.2.2, by rcases hcod with ⟨-, q, -⟩ | ⟨-, q, -⟩ <;> omega⟩, hcod, fun j hj => by
    have e : cs.getD j 0 = cs[j] := by simp [List.getD_eq_getElem?_getD, hj]
    show ¬ cs.getD j 0 < 0 ∧ ¬ 65535 < cs.getD j 0
    rw [e]; exact hb _ (List.getElem_mem _)⟩
theorem same_list (cs ds : List Int32) : SameT cs.length (fun j => cs.getD j 0) ds.length (fun j => ds.getD j 0) ↔ cs = ds := by
  constructor
  · rintro ⟨e, q⟩
    refine List.ext_getElem e fun j h1 h2 => ?_
    have := q j h1
    simpa [List.getD_eq_getElem?_getD, h1, h2] using this
  · rintro rfl
    exact ⟨rfl, fun _ _ => rfl⟩
/-- **equals(Object) OF TWO SUCH STRINGS**: 1 just where the chars are the same -/
theorem eqW {p : Program} {l : Launch} {e : Env} {R : Room} {s : State} {args : Array Value} {below : List Frame} {len W : Nat} {Z : State} {a0 : Array Value} {h : Heap} (hZ : Z.Warmed39 s.vm) (hw : ∀ d ∈ wordsEq, d.before a0 Z = true) {kI : Nat} (wi : (Jvm.Cond.instantiable ST kI).before a0 Z = true)
    {x t : Addr} {kb : ClassId} {cs : List Int32} {cd N2 : Int32} {vs : List Value} (E : RoadKit.Exa Z h x ST) (V : RoadKit.Fld Z h x ST "value" "[B" (.ref t)) (C : RoadKit.Fld Z h x ST "coder" "B" (.int cd)) (K : RoadKit.Arv Z h t kb .byte N2 vs (.int 0)) (hc : CodA cs cd N2 vs) (hb : ∀ c ∈ cs, ¬ c < 0 ∧ ¬ (65535 : Int32) < c) (l2 : cs.length ≤ 4000)
    {y t' : Addr} {kb' : ClassId} {ds : List Int32} {cd' N2' : Int32} {vs' : List Value} (E' : RoadKit.Exa Z h y ST) (V' : RoadKit.Fld Z h y ST "value" "[B" (.ref t')) (C' : RoadKit.Fld Z h y ST "coder" "B" (.int cd')) (K' : RoadKit.Arv Z h t' kb' .byte N2' vs' (.int 0)) (hc' : CodA ds cd' N2' vs') (hb' : ∀ c ∈ ds, ¬ c < 0 ∧ ¬ (65535 : Int32) < c) (l2' : ds.length ≤ 4000)
    {z : Int32} (S : RoadKit.Sta Z h ST "COMPACT_STRINGS" "Z" (.int z)) (hz : ¬ z = 0) (hfr : 2 ≤ R.frames) (hlo : W + 28 ≤ R.locals) :
    Back l R p e below s args (⟨"java/lang/String", "equals", "(Ljava/lang/Object;)Z"⟩ : MethodName) len W (fun P a => a = #[.ref x, .ref y] ∧ P.U.heap = h ∧ P.cells + 0 ≤ R.cells ∧ P.slots + 0 ≤ R.slots)
      (fun P _ v B => ∃ L, (((v = some (.int 1) ∧ cs = ds) ∨ (v = some (.int 0) ∧ ¬ cs = ds)) ∧ L = [] ∧ B.U.heap = h) ∧ B.locs = P.locs ++ L ∧ B.cells = P.cells + 0 ∧ B.slots = P.slots + 0) := by
  intro m meth c P g ig mk a X hg hsize hdg hW hn hp'
  obtain ⟨rfl, rfl, r1, r2⟩ := hp'
  have al : Z.vm.Alike P.U.vm := hZ.alike.trans X.warmed.alike
  obtain ⟨A, hx⟩ := txt_of wi al E V C K hc hb l2
  obtain ⟨A', hy⟩ := txt_of wi al E' V' C' K' hc' hb' l2'
  obtain ⟨v, B, X', ⟨⟨w, hv, hh, hq⟩, hl, hk, hs⟩, st⟩ := SEq.pays x t A cd cs.length (fun j => cs.getD j 0) y t' A' cd' ds.length (fun j => ds.getD j 0) z (tabEq_of (movedEq hZ hw)) hfr hlo m meth c P g ig mk _ X hg hsize hdg hW hn ⟨r1, r2, rfl, hx, hy, sta_is al S, hz⟩
  refine ⟨v, B, X', ⟨[], ⟨?_, rfl, hh⟩, hl, hk, hs⟩, st⟩
  rcases hq with ⟨rfl, q⟩ | ⟨rfl, q⟩
  · exact Or.inl ⟨hv, (same_list cs ds).mp q⟩
  · exact Or.inr ⟨hv, fun e => q ((same_list cs ds).mpr e)⟩
end StrChars.Road
namespace StrChars
open Jvm Sem ClassFile Op Lib Jvm.Stand Jvm.Free.XT Jvm.Free.ALB Jvm.Free.JM Jvm.Free
open Jvm.Lib.Cold (StaticIs)
namespace ChN
def yN : MethodName := ⟨"java/lang/String", "charAt", "(I)C"⟩
abbrev yB : ByteArray := jdk_42_method_56_code
theorem d0 : decode yB 0 = .ok (.aload_n 0, 1) := by decide +kernel
theorem d1 : decode yB 1 = .ok (.invokevirtual 492, 3) := by decide +kernel
theorem d4 : decode yB 4 = .ok (.ifCond (.eq) 12, 3) := by decide +kernel
theorem d7 : decode yB 7 = .ok (.aload_n 0, 1) := by decide +kernel
theorem d8 : decode yB 8 = .ok (.getfield 9, 3) := by decide +kernel
theorem d11 : decode yB 11 = .ok (.iload_n 1, 1) := by decide +kernel
theorem d12 : decode yB 12 = .ok (.invokestatic 495, 3) := by decide +kernel
theorem d15 : decode yB 15 = .ok (.ireturn, 1) := by decide +kernel
def site : List Cond := [.fieldLink "java/lang/String" 9 "java/lang/String" "value" "[B", IsL.tab, LChA.tab] ++ virtW "java/lang/String" 492 "java/lang/String" IsL.yN IsL.yN ++ staticW "java/lang/String" 495 LChA.yN
def tab : Cond := tabOf yN yB 2 (some .char) site
def P (x t : Addr) (V : Cell) (n : Nat) (f : Nat → Int32) (z : Int32) (fm : Value) (i : Nat) (args : Array Value) (s : State) : Prop := args = #[.ref x, .int (Int32.ofNat i)] ∧ Txt x t V 0 n f s ∧ i < n ∧ StaticIs s "java/lang/String" "COMPACT_STRINGS" "Z" (.int z) ∧ ¬ z = 0 ∧ StaticIs s "jdk/internal/util/Preconditions" "SIOOBE_FORMATTER" "Ljava/util/function/BiFunction;" fm ∧ fm.isRef = true
def E (f : Nat → Int32) (i : Nat) (r : Option Value) (s u : State) : Prop := XT.PureE (some (.int (f i))) r s u
/-- charAt(i) of a Latin-1 String of n chars, i < n: f i -/
theorem law (l : Launch) (x t : Addr) (V : Cell) (n : Nat) (f : Nat → Int32) (z : Int32) (fm : Value) (i : Nat) : Law l yN 2 1 3 40 yB 2 (some .char) site (P x t V n f z fm i) (E f i) [] 0 0 := by
  refine Law.of_walk (plainFor_of_name (by decide +kernel)) (by decide +kernel) (by decide +kernel) (by decide) (fun _ _ h => by rw [h.1]; rfl) (fun _ U U' hal hh h => ⟨h.1, h.2.1.mv hal hh, h.2.2.1, h.2.2.2.1.there hal hh, h.2.2.2.2.1, h.2.2.2.2.2.1.there hal hh, h.2.2.2.2.2.2⟩) (fun r U U' V V' h1 hal h2 h => XT.PureE.mv r U U' V V' h1 hal h2 h) ?_
  intro p e s m args below meth c s₁ X0 hexec hbytes hml hret hlk hnm hown hh0 W hP
  obtain ⟨rfl, hx, hi, s1, hz, s3, rf⟩ := hP
  have v31 := hx.2.2.2.1.2.2.2
  have hr := hx.2.2.2.2.2 i hi
  have hx0 := hx.mv X0.warmed.alike hh0
  have c1 : Steps p.tables e below (s₁.setTop (entryFrame m #[.ref x, .int (Int32.ofNat i)] 2)) (s₁.setTop (mkF m 1 #[.val (.ref x), .val (.int (Int32.ofNat i))] [.ref x])) := Steps.trans (entry rfl) (by
    show Steps p.tables e below (s₁.setTop (mkF m 0 #[.val (.ref x), .val (.int (Int32.ofNat i))] [])) _
    refine XS.aloadN X0.here hexec rfl (hb hbytes d0) rfl rfl ?_
    exact Steps.refl _)
  obtain ⟨v2, T2, X2, E2, g2⟩ := X0.callV hexec (IsL.law l x 0 z) hown (wks W (virtW "java/lang/String" 492 "java/lang/String" IsL.yN IsL.yN)) rfl (by decide) (wk W IsL.tab) (W := 0) (Nat.le_of_ble_eq_true rfl) (Nat.le_of_ble_eq_true rfl) (Nat.le_refl _) (Nat.le_refl _) (hx0.1.fc X0.warmed.alike) hx0.1.is (g := (mkF m 1 #[.val (.ref x), .val (.int (Int32.ofNat i))] [.ref x])) rfl (by rw [hml]; rfl) c1 (argsL := []) (rest := []) rfl rfl (by show 2 * 0 + 0 ≤ _; decide) (hb hbytes d1) (⟨rfl, hx0.2.2.1, hx.2.2.2.2.1.cd, s1.there X0.warmed.alike hh0, hz⟩)
  obtain ⟨rfl, q2⟩ := E2
  have hh2 := q2.trans hh0
  have hx2 := hx.mv X2.warmed.alike hh2
  obtain ⟨-, k1, k2⟩ | ⟨k0, -⟩ := hx.2.2.2.2.1
  · have c3 : Steps p.tables e below (s₁.setTop (entryFrame m #[.ref x, .int (Int32.ofNat i)] 2)) (T2.setTop (mkF m 8 #[.val (.ref x), .val (.int (Int32.ofNat i))] [.ref x])) := Steps.trans g2 (by
      refine XS.ifNo X2.here hexec rfl (hb hbytes d4) rfl (i0_eq_f (by decide)) ?_
      refine XS.aloadN X2.here hexec rfl (hb hbytes d7) rfl rfl ?_
      exact Steps.refl _)
    obtain ⟨T4, X4, q4, st4⟩ := X2.hget hexec hown (wk W (.fieldLink "java/lang/String" 9 "java/lang/String" "value" "[B")) hx2.2.1 (g := (mkF m 8 #[.val (.ref x), .val (.int (Int32.ofNat i))] [.ref x])) rfl (rest := []) rfl (hb hbytes d8)
    have hh4 := q4.trans hh2
    have c5 : Steps p.tables e below (s₁.setTop (entryFrame m #[.ref x, .int (Int32.ofNat i)] 2)) (T4.setTop (mkF m 12 #[.val (.ref x), .val (.int (Int32.ofNat i))] [.int (Int32.ofNat i), .ref t])) := (c3.trans (st4 _ (Steps.refl _))).trans (by
      refine XS.iloadN X4.here hexec rfl (hb hbytes d11) rfl ?_
      exact Steps.refl _)
    obtain ⟨v6, T6, X6, E6, g6⟩ := X4.callS hexec (LChA.law l t V i (lo8 (f i)) fm) hown (wks W (staticW "java/lang/String" 495 LChA.yN)) (wk W LChA.tab) (W := 0) (Nat.le_of_ble_eq_true rfl) (Nat.le_of_ble_eq_true rfl) (Nat.le_refl _) (Nat.le_refl _) (g := (mkF m 12 #[.val (.ref x), .val (.int (Int32.ofNat i))] [.int (Int32.ofNat i), .ref t])) rfl (by rw [hml]; rfl) c5 (argsL := [.ref t, .int (Int32.ofNat i)]) (rest := []) rfl rfl (by show 2 * 0 + 0 ≤ _; decide) (hb hbytes d12) (⟨rfl, hx.2.2.2.1.mv X4.warmed.alike hh4, (k2 i hi).1, s3.there X4.warmed.alike hh4, rf⟩)
    obtain ⟨rfl, q6⟩ := E6
    rw [chr8_lo8 hr.1 (k2 i hi).2] at g6
    exact ⟨T6, some (.int (f i)), _, _, _, X6, rfl, rfl, rfl, (fun h => by cases h), ⟨rfl, q6.trans hh4⟩, fun fs hl => Steps.trans g6 (X6.ireturnOut hexec hret (narrow_ch hr.1 hr.2) (Or.inr (Or.inr (Or.inr (Or.inl rfl)))) (hb hbytes d15) hl)⟩
  · exact absurd k0 (by decide)
theorem pays {l : Launch} {R : Room} {p : Program} {e : Env} {below : List Frame} {s : State} {sargs : Array Value} {len W : Nat} (x t : Addr) (V : Cell) (n : Nat) (f : Nat → Int32) (z : Int32) (fm : Value) (i : Nat) (htab : tab.before sargs s = true) (hfr : 4 ≤ R.frames) (hlo : W + 53 ≤ R.locals) :
    Back l R p e below s sargs yN len W (fun A₁ a₁ => A₁.cells + 0 ≤ R.cells ∧ A₁.slots + 0 ≤ R.slots ∧ P x t V n f z fm i a₁ A₁.U) (fun A₁ _ v₁ B₁ => E f i v₁ A₁.U B₁.U ∧ B₁.locs = A₁.locs ++ [] ∧ B₁.cells = A₁.cells + 0 ∧ B₁.slots = A₁.slots + 0) :=
  (law l x t V n f z fm i).pays htab hfr (by omega)
end ChN
end StrChars
namespace StrChars.Road
open Jvm Sem ClassFile Op Lib Jvm.Stand Jvm.Free Jvm.Free.XT
open Jvm.Lib.Cold (StaticIs)
/-- the words of String.charAt(int), the Latin-1 road alone -/
abbrev wordsChN : List Jvm.Cond := [.code ChN.yN ChN.yB 2 (some .char), .initialized ST, .fieldLink ST 9 ST "value" "[B", .fieldLink ST 38 ST "COMPACT_STRINGS" "Z", .fieldLink ST 15 ST "coder" "B", .code IsL.yN IsL.yB 1 (some .boolean), .methodLink ST 492 IsL.yN, .declares IsL.yN, .selects ST IsL.yN IsL.yN, .instanceMethod IsL.yN,
  .methodLink ST 495 LChA.yN, .static LChA.yN, .code LChA.yN LChA.yB 2 (some .char), .initialized "java/lang/StringLatin1", .methodLink "java/lang/StringLatin1" 9 JO.Str_checkIndex.yN, .static JO.Str_checkIndex.yN, .code JO.Str_checkIndex.yN JO.Str_checkIndex.yB 2 none,
  .fieldLink ST 1053 "jdk/internal/util/Preconditions" "SIOOBE_FORMATTER" "Ljava/util/function/BiFunction;", .methodLink ST 1059 JC.PreCheck.yN, .static JC.PreCheck.yN, .code JC.PreCheck.yN JC.PreCheck.yB 3 (some .int), .initialized "jdk/internal/util/Preconditions"]
theorem tabChN_of {a : Array Value} {s : State} (h : ∀ w ∈ wordsChN, w.before a s = true) : ChN.tab.before a s = true := by
  have hp : JC.PreCheck.tab.before a s = true := unparts (wk h (.code JC.PreCheck.yN JC.PreCheck.yB 3 (some .int))) (wks h (.initialized JC.PreCheck.yN.cls :: JC.PreCheck.site))
  have qk := consq hp h
  have hk : JO.Str_checkIndex.tab.before a s = true := unparts (wk qk (.code JO.Str_checkIndex.yN JO.Str_checkIndex.yB 2 none)) (wks qk (.initialized JO.Str_checkIndex.yN.cls :: JO.Str_checkIndex.site))
  have ql := consq hk h
  have hl : LChA.tab.before a s = true := unparts (wk ql (.code LChA.yN LChA.yB 2 (some .char))) (wks ql (.initialized LChA.yN.cls :: LChA.site))
  have hi : IsL.tab.before a s = true := unparts (wk h (.code IsL.yN IsL.yB 1 (some .boolean))) (wks h (.initialized IsL.yN.cls :: IsL.site))
  have q := consq hi (consq hl h)
  exact unparts (wk q (.code ChN.yN ChN.yB 2 (some .char))) (wks q (.initialized ChN.yN.cls :: ChN.site))
theorem movedChN {Z s : State} {a0 args : Array Value} (hZ : Z.Warmed39 s.vm) (hw : ∀ d ∈ wordsChN, d.before a0 Z = true) : ∀ d ∈ wordsChN, d.before args s = true := fun d hd => by
  have t : ∀ d ∈ wordsChN, (d.onTables && d.keepsFace) = true := by decide +kernel
  exact RoadKit.mv hZ (hw d hd) (t d hd)
/-- **charAt(i) OF A LATIN-1 STRING**, i < n: the char -/
theorem chN {p : Program} {l : Launch} {e : Env} {R : Room} {s : State} {args : Array Value} {below : List Frame} {len W : Nat} {Z : State} {a0 : Array Value} {h : Heap} (hZ : Z.Warmed39 s.vm) (hw : ∀ d ∈ wordsChN, d.before a0 Z = true) {kI : Nat} (wi : (Jvm.Cond.instantiable ST kI).before a0 Z = true)
    {x t : Addr} {kb : ClassId} {cs : List Int32} {N2 z : Int32} {vs : List Value} {fm : Value} {i : Nat} {j : Int32} (E : RoadKit.Exa Z h x ST) (V : RoadKit.Fld Z h x ST "value" "[B" (.ref t)) (C : RoadKit.Fld Z h x ST "coder" "B" (.int 0)) (K : RoadKit.Arv Z h t kb .byte N2 vs (.int 0)) (hc : CodA cs 0 N2 vs) (hb : ∀ c ∈ cs, ¬ c < 0 ∧ ¬ (65535 : Int32) < c)
    (S : RoadKit.Sta Z h ST "COMPACT_STRINGS" "Z" (.int z)) (hz : ¬ z = 0) (F : RoadKit.Sta Z h "jdk/internal/util/Preconditions" "SIOOBE_FORMATTER" "Ljava/util/function/BiFunction;" fm) (rf : fm.isRef = true) (l2 : cs.length ≤ 4000) (hi : i < cs.length) (hj : j = Int32.ofNat i) (hfr : 4 ≤ R.frames) (hlo : W + 53 ≤ R.locals) :
    Back l R p e below s args (⟨"java/lang/String", "charAt", "(I)C"⟩ : MethodName) len W (fun P a => a = #[.ref x, .int j] ∧ P.U.heap = h ∧ P.cells + 0 ≤ R.cells ∧ P.slots + 0 ≤ R.slots)
      (fun P _ v B => ∃ L, (v = some (.int (cs.getD i 0)) ∧ L = [] ∧ B.U.heap = h) ∧ B.locs = P.locs ++ L ∧ B.cells = P.cells + 0 ∧ B.slots = P.slots + 0) := by
  subst hj
  intro m meth c P g ig mk a X hg hsize hdg hW hn hp'
  obtain ⟨rfl, rfl, r1, r2⟩ := hp'
  have al : Z.vm.Alike P.U.vm := hZ.alike.trans X.warmed.alike
  obtain ⟨A, hx⟩ := txt_of wi al E V C K hc hb l2
  obtain ⟨v, B, X', ⟨⟨hv, hh⟩, hl, hk, hs⟩, st⟩ := ChN.pays x t A cs.length (fun j => cs.getD j 0) z fm i (tabChN_of (movedChN hZ hw)) hfr hlo m meth c P g ig mk _ X hg hsize hdg hW hn ⟨r1, r2, rfl, hx, hi, sta_is al S, hz, sta_is al F, rf⟩
  exact ⟨v, B, X', ⟨[], ⟨hv, rfl, hh⟩, hl, hk, hs⟩, st⟩
/-- what backV says of its String, as the contracts of this text ask it: cs's low bytes, coder 0 -/
theorem codOf {cs : List Int32} {n : Nat} (hn : cs.length = n) (hb : ∀ c ∈ cs, ¬ 255 < c) : CodA cs 0 (Int32.ofNat n) ((cs.map lo8).map Value.int) := Or.inl ⟨rfl, by rw [hn], by simp [List.map_map, Function.comp_def], hb⟩
end StrChars.Road
end Jvm.Pilot.@@N@@
namespace Jvm.Pilot.@@N@@
open Jvm Jvm.ClassFile Sem Op Lib Jvm.Free Jvm.Stand Jvm.LawKit Jvm.RoadKit Bundle Jvm.Pilot.@@N@@.Jvm.D
section Own
variable {p : Program} {l : Launch} {e : Env} {R : Room} {s : State} {m : MethodId} {args : Array Value} {below : List Frame} {meth : Method} {c : Code} {T : State} {locs : List Loc} {cells slots : Nat} {Z : State} {a0 : Array Value} {h : Heap}
/-- from U the run comes to the method's end, and P holds there -/
def OGo (p : Program) (e : Env) (below : List Frame) (U : State) (P : State → Outcome → Prop) : Prop :=
  ∃ t o, Steps p.tables e below U t ∧ t.status = .running ∧ Ended t below o ∧ P t o
theorem OGo.step {U U' : State} {P : State → Outcome → Prop} (k : ∀ t, Steps p.tables e below U' t → Steps p.tables e below U t) (g : OGo p e below U' P) : OGo p e below U P := by
  obtain ⟨t, o, h1, h2⟩ := g
  exact ⟨t, o, k t h1, h2⟩
def OEnd (s : State) (Q : Option Value → Heap → List Loc → Prop) (kc ks : Nat) (t : State) (o : Outcome) : Prop :=
  ∃ v L, o = .returned v ∧ Q v t.heap L ∧ FrameEnd s o t L kc ks
/-- the contract of one body, at one array of arguments and one heap -/
abbrev OMet (l : Launch) (Z : State) (y : MethodName) (bytes : ByteArray) (maxL : Nat) (ret : Option FieldType) (ws : List Jvm.Cond) (rm : Room) (as' : Array Value) (h0 : Heap) (Q : Option Value → Heap → List Loc → Prop) : Prop :=
  MetFree l y (head1 (Jvm.Cond.code y bytes maxL ret :: ws) rm) (fun a U => a = as' ∧ Z.Warmed39 U.vm ∧ U.heap = h0) (fun _ _ _ _ _ => True) (fun _ U o U' => ∃ v L, o = .returned v ∧ Q v U'.heap L ∧ FrameEnd U o U' L rm.cells rm.slots)
theorem OMet.body {y : MethodName} {bytes : ByteArray} {maxL : Nat} {ret : Option FieldType} {ws : List Jvm.Cond} {rm : Room} {as' : Array Value} {h0 : Heap} {Q : Option Value → Heap → List Loc → Prop} (hpn : plainFor y = true)
    (b : ∀ (p : Program) (e : Env) (s : State) (m : MethodId) (below : List Frame) (meth : Method) (c : Code) (s₁ : State), p.tables.exec = Jvm.exec → c.code = bytes → c.maxLocals = maxL → s.vm.findClass y.cls = some m.cls → meth.name = y.name → meth.sig.returnType = ret → meth.locks = false → Z.Warmed39 s.vm →
      Stand p l e rm s m as' below meth c s₁ [] 0 0 → s₁.heap = h0 → OGo p e below (s₁.setTop (entryFrame m as' maxL)) (OEnd s Q rm.cells rm.slots)) : OMet l Z y bytes maxL ret ws rm as' h0 Q := by
  refine MetFree.of_bodySF hpn hisR ?_
  intro p e s m args below meth c s₁ Bd hml0 hP hK
  obtain ⟨rfl, hZ, hh⟩ := hP
  exact b p e s m below meth c s₁ Bd.exec Bd.bytes hml0 (findClass_of_methodNamed Bd.named) (name_of_methodNamed Bd.named Bd.method).1 Bd.returns Bd.notSynchronized hZ (Stand.of_body Bd) (by rw [← hh, Bd.state]; rfl)
theorem own_ret (X : Stand p l e R s m args below meth c T locs cells slots) (hx : p.tables.exec = Jvm.exec) (hlk : meth.locks = false) {pc : Nat} {Ls : Array Slot} {w : Value} {t : FieldType} {i : Instr} {rest : List Value} (hret : meth.sig.returnType = some t) (hn : narrow t w = w)
    (hi : (i = .ireturn ∧ (t = .int ∨ t = .boolean ∨ t = .byte ∨ t = .char ∨ t = .short) ∧ ∃ z, w = .int z) ∨ (i = .lreturn ∧ t = .long ∧ ∃ z, w = .long z) ∨ (i = .dreturn ∧ t = .double ∧ ∃ z, w = .double z) ∨ (i = .freturn ∧ t = .float ∧ ∃ z, w = .float z) ∨ (i = .areturn ∧ t.isReference = true ∧ w.isRef = true))
    (hd : decode c.code pc = .ok (i, 1)) {Q : Option Value → Heap → List Loc → Prop} {kc ks : Nat} (hQ : Q (some w) T.heap locs) (h1 : cells ≤ kc) (h2 : slots ≤ ks) : OGo p e below (T.setTop (mkF m pc Ls (w :: rest))) (OEnd s Q kc ks) := by
  obtain ⟨fs, hr, hrun, hended, hW, hsame⟩ := X.leave (v := some w) (fun h => by rw [hret] at h; cases h) hlk
  exact ⟨_, _, retOut X hx hret hn hi hd hr, hrun, hended, _, _, rfl, hQ, ⟨_, rfl⟩, hW, hsame.mono h1 h2⟩
theorem own_retN (X : Stand p l e R s m args below meth c T locs cells slots) (hx : p.tables.exec = Jvm.exec) (hlk : meth.locks = false) {pc : Nat} {Ls : Array Slot} {z : Int32} {t : FieldType} {rest : List Value} (hret : meth.sig.returnType = some t) (ht : t = .boolean ∨ t = .byte ∨ t = .char ∨ t = .short)
    (hd : decode c.code pc = .ok (.ireturn, 1)) {Q : Option Value → Heap → List Loc → Prop} {kc ks : Nat} (hQ : Q (some (.int (nar t z))) T.heap locs) (h1 : cells ≤ kc) (h2 : slots ≤ ks) : OGo p e below (T.setTop (mkF m pc Ls (.int z :: rest))) (OEnd s Q kc ks) := by
  obtain ⟨fs, hr, hrun, hended, hW, hsame⟩ := X.leave (v := some (.int (nar t z))) (fun h => by rw [hret] at h; cases h) hlk
  exact ⟨_, _, retN X hx hret ht hd hr, hrun, hended, _, _, rfl, hQ, ⟨_, rfl⟩, hW, hsame.mono h1 h2⟩
theorem own_ret0 (X : Stand p l e R s m args below meth c T locs cells slots) (hx : p.tables.exec = Jvm.exec) (hlk : meth.locks = false) {pc : Nat} {Ls : Array Slot} (hret : meth.sig.returnType = none)
    (hd : decode c.code pc = .ok (.return_, 1)) {Q : Option Value → Heap → List Loc → Prop} {kc ks : Nat} (hQ : Q none T.heap locs) (h1 : cells ≤ kc) (h2 : slots ≤ ks) : OGo p e below (T.setTop (mkF m pc Ls [])) (OEnd s Q kc ks) := by
  obtain ⟨fs, hr, hrun, hended, hW, hsame⟩ := X.leave (v := none) (fun _ => rfl) hlk
  exact ⟨_, _, X.returnOut hx hret hd hr, hrun, hended, _, _, rfl, hQ, ⟨_, rfl⟩, hW, hsame.mono h1 h2⟩
/-- who pays a call: at these arguments and this heap -/
abbrev OBack (l : Launch) (R : Room) (p : Program) (e : Env) (below : List Frame) (s : State) (args : Array Value) (y : MethodName) (len W : Nat) (as' : Array Value) (h : Heap) (kc ks : Nat) (Q : Option Value → Heap → List Loc → Prop) : Prop :=
  Back l R p e below s args y len W (fun P a => a = as' ∧ P.U.heap = h ∧ P.cells + kc ≤ R.cells ∧ P.slots + ks ≤ R.slots) (fun P _ v B => ∃ L, Q v B.U.heap L ∧ B.locs = P.locs ++ L ∧ B.cells = P.cells + kc ∧ B.slots = P.slots + ks)
/-- a static call by the callee's contract -/
theorem own_callSK (X : Stand p l e R s m args below meth c T locs cells slots) (hx : p.tables.exec = Jvm.exec) (hZ : Z.Warmed39 s.vm) {own : String} {index : Nat} {y : MethodName} {bytes : ByteArray} {maxL : Nat} {ret : Option FieldType}
    (hown : s.vm.findClass own = some m.cls) (w1 : (Jvm.Cond.methodLink own index y).before a0 Z = true) (w2 : (Jvm.Cond.static y).before a0 Z = true) (w3 : (Jvm.Cond.initialized y.cls).before a0 Z = true)
    (w4 : (Jvm.Cond.code y bytes maxL ret).before a0 Z = true) (hy : y.cls ≠ "java/lang/invoke/MethodHandle" ∧ y.cls ≠ "java/lang/invoke/VarHandle")
    {W : Nat} {kc ks : Nat} {argsL rest : List Value} {Q : Option Value → Heap → List Loc → Prop} (hK : OBack l R p e below s args y 3 W argsL.toArray h kc ks Q) (eT : T.heap = h)
    {pc : Nat} {Ls : Array Slot} (hsize : Ls.size = c.maxLocals) (hlen : ∀ sig, parseMethodDescriptor y.desc = some sig → argsL.length = sig.parameters.length) (hW : (rest.map fun v => v.category).sum = W)
    (hd : decode c.code pc = .ok (.invokestatic index, 3)) (hc : cells + kc ≤ R.cells) (hs : slots + ks ≤ R.slots) {P : State → Outcome → Prop}
    (k : ∀ (v : Option Value) (T' : State) (L : List Loc), Stand p l e R s m args below meth c T' (locs ++ L) (cells + kc) (slots + ks) → Q v T'.heap L → OGo p e below (T'.setTop (mkF m (pc + 3) Ls (v.toList ++ rest))) P) :
    OGo p e below (T.setTop (mkF m pc Ls (argsL.reverse ++ rest))) P := by
  obtain ⟨v, vm, ⟨T', L', k', n'⟩, -, X', ⟨L, hQ, l1, y1, z1⟩, st⟩ := Jvm.LawKit.callS X hx (y := y) hown (mvT hZ w1) (mvT hZ w2) (mvT hZ w3) (mvT hZ w4) hy hK (g := mkF m pc Ls (argsL.reverse ++ rest)) rfl hsize (argsL := argsL) (rest := rest) hlen rfl
    (by show 2 * 0 + _ ≤ _; rw [hW]; omega) hd (fun _ _ => ⟨rfl, eT, hc, hs⟩)
  dsimp only [Pt.U, Pt.locs, Pt.cells, Pt.slots] at X' l1 y1 z1 st hQ
  subst l1 y1 z1
  exact OGo.step st (k v T' L X' hQ)
theorem own_callS (X : Stand p l e R s m args below meth c T locs cells slots) (hx : p.tables.exec = Jvm.exec) (hZ : Z.Warmed39 s.vm) {own : String} {index : Nat} {y : MethodName} {bytes : ByteArray} {maxL : Nat} {ret : Option FieldType}
    (hown : s.vm.findClass own = some m.cls) (w1 : (Jvm.Cond.methodLink own index y).before a0 Z = true) (w2 : (Jvm.Cond.static y).before a0 Z = true) (w3 : (Jvm.Cond.initialized y.cls).before a0 Z = true)
    (w4 : (Jvm.Cond.code y bytes maxL ret).before a0 Z = true) (hy : y.cls ≠ "java/lang/invoke/MethodHandle" ∧ y.cls ≠ "java/lang/invoke/VarHandle")
    {W : Nat} {rm : Room} {argsL rest : List Value} {Q : Option Value → Heap → List Loc → Prop} (hM : OMet l Z y bytes maxL ret [] rm argsL.toArray h Q) (eT : T.heap = h)
    {pc : Nat} {Ls : Array Slot} (hsize : Ls.size = c.maxLocals) (hlen : ∀ sig, parseMethodDescriptor y.desc = some sig → argsL.length = sig.parameters.length) (hW : (rest.map fun v => v.category).sum = W)
    (hd : decode c.code pc = .ok (.invokestatic index, 3)) (hf : rm.frames + 1 ≤ R.frames) (hl : W + (maxL + 11) + rm.locals ≤ R.locals) (hc : cells + rm.cells ≤ R.cells) (hs : slots + rm.slots ≤ R.slots) {P : State → Outcome → Prop}
    (k : ∀ (v : Option Value) (T' : State) (L : List Loc), Stand p l e R s m args below meth c T' (locs ++ L) (cells + rm.cells) (slots + rm.slots) → Q v T'.heap L → OGo p e below (T'.setTop (mkF m (pc + 3) Ls (v.toList ++ rest))) P) :
    OGo p e below (T.setTop (mkF m pc Ls (argsL.reverse ++ rest))) P := 
  own_callSK X hx hZ hown w1 w2 w3 w4 hy (backOf (W := W) hM hZ w4 w3 hf hl) eT hsize hlen hW hd hc hs k
/-- a constructor by its contract -/
theorem own_specialK (X : Stand p l e R s m args below meth c T locs cells slots) (hx : p.tables.exec = Jvm.exec) (hZ : Z.Warmed39 s.vm) {own : String} {index : Nat} {y : MethodName} {bytes : ByteArray} {maxL : Nat} (hy1 : y.name = "<init>")
    (hown : s.vm.findClass own = some m.cls) (w1 : (Jvm.Cond.methodLink own index y).before a0 Z = true) (w2 : (Jvm.Cond.instanceMethod y).before a0 Z = true)
    (w4 : (Jvm.Cond.code y bytes maxL none).before a0 Z = true) (hy : y.cls ≠ "java/lang/invoke/MethodHandle" ∧ y.cls ≠ "java/lang/invoke/VarHandle") {a : Addr}
    {W : Nat} {kc ks : Nat} {argsL rest : List Value} {Q : Option Value → Heap → List Loc → Prop} (hK : OBack l R p e below s args y 3 W (.ref a :: argsL).toArray h kc ks Q) (eT : T.heap = h)
    {pc : Nat} {Ls : Array Slot} (hsize : Ls.size = c.maxLocals) (hlen : ∀ sig, parseMethodDescriptor y.desc = some sig → argsL.length = sig.parameters.length) (hW : (rest.map fun v => v.category).sum = W)
    (hd : decode c.code pc = .ok (.invokespecial index, 3)) (hc : cells + kc ≤ R.cells) (hs : slots + ks ≤ R.slots) {P : State → Outcome → Prop}
    (k : ∀ (v : Option Value) (T' : State) (L : List Loc), Stand p l e R s m args below meth c T' (locs ++ L) (cells + kc) (slots + ks) → Q v T'.heap L → OGo p e below (T'.setTop (mkF m (pc + 3) Ls (v.toList ++ rest))) P) :
    OGo p e below (T.setTop (mkF m pc Ls (argsL.reverse ++ .ref a :: rest))) P := by
  obtain ⟨v, vm, ⟨T', L', k', n'⟩, -, X', ⟨L, hQ, l1, y1, z1⟩, st⟩ := X.specialBack hx (y := y) hy1 hown (mvT hZ w1) (mvT hZ w2) (mvT hZ w4) hy hK (g := mkF m pc Ls (argsL.reverse ++ .ref a :: rest)) rfl hsize (Steps.refl _) (a := a) (argsL := argsL) (rest := rest) hlen rfl
    (by show 2 * 0 + _ ≤ _; rw [hW]; omega) hd (fun _ _ => ⟨rfl, eT, hc, hs⟩)
  dsimp only [Pt.U, Pt.locs, Pt.cells, Pt.slots] at X' l1 y1 z1 st hQ
  subst l1 y1 z1
  exact OGo.step (fun _ kk => st.trans kk) (k v T' L X' hQ)
theorem own_special (X : Stand p l e R s m args below meth c T locs cells slots) (hx : p.tables.exec = Jvm.exec) (hZ : Z.Warmed39 s.vm) {own : String} {index : Nat} {y : MethodName} {bytes : ByteArray} {maxL : Nat} (hy1 : y.name = "<init>")
    (hown : s.vm.findClass own = some m.cls) (w1 : (Jvm.Cond.methodLink own index y).before a0 Z = true) (w2 : (Jvm.Cond.instanceMethod y).before a0 Z = true)
    (w4 : (Jvm.Cond.code y bytes maxL none).before a0 Z = true) (w3 : (Jvm.Cond.initialized y.cls).before a0 Z = true) (hy : y.cls ≠ "java/lang/invoke/MethodHandle" ∧ y.cls ≠ "java/lang/invoke/VarHandle") {a : Addr}
    {W : Nat} {rm : Room} {argsL rest : List Value} {Q : Option Value → Heap → List Loc → Prop} (hM : OMet l Z y bytes maxL none [] rm (.ref a :: argsL).toArray h Q) (eT : T.heap = h)
    {pc : Nat} {Ls : Array Slot} (hsize : Ls.size = c.maxLocals) (hlen : ∀ sig, parseMethodDescriptor y.desc = some sig → argsL.length = sig.parameters.length) (hW : (rest.map fun v => v.category).sum = W)
    (hd : decode c.code pc = .ok (.invokespecial index, 3)) (hf : rm.frames + 1 ≤ R.frames) (hl : W + (maxL + 11) + rm.locals ≤ R.locals) (hc : cells + rm.cells ≤ R.cells) (hs : slots + rm.slots ≤ R.slots) {P : State → Outcome → Prop}
    (k : ∀ (v : Option Value) (T' : State) (L : List Loc), Stand p l e R s m args below meth c T' (locs ++ L) (cells + rm.cells) (slots + rm.slots) → Q v T'.heap L → OGo p e below (T'.setTop (mkF m (pc + 3) Ls (v.toList ++ rest))) P) :
    OGo p e below (T.setTop (mkF m pc Ls (argsL.reverse ++ .ref a :: rest))) P := 
  own_specialK X hx hZ hy1 hown w1 w2 w4 hy (backOf (W := W) hM hZ w4 w3 hf hl) eT hsize hlen hW hd hc hs k
/-- an instance method by its contract -/
theorem own_virtualK (X : Stand p l e R s m args below meth c T locs cells slots) (hx : p.tables.exec = Jvm.exec) (hZ : Z.Warmed39 s.vm) {own C : String} {index : Nat} {y z : MethodName}
    (hown : s.vm.findClass own = some m.cls) (w1 : (Jvm.Cond.methodLink own index y).before a0 Z = true) (w2 : (Jvm.Cond.declares y).before a0 Z = true) (hnf : NotFace s y) (w5 : (Jvm.Cond.selects C y z).before a0 Z = true) (w6 : (Jvm.Cond.instanceMethod z).before a0 Z = true)
    (hy : y.cls ≠ "java/lang/invoke/MethodHandle" ∧ y.cls ≠ "java/lang/invoke/VarHandle") {b : Addr} (hb : Exa Z h b C)
    {W : Nat} {kc ks : Nat} {argsL rest : List Value} {Q : Option Value → Heap → List Loc → Prop} (hK : OBack l R p e below s args z 3 W (.ref b :: argsL).toArray h kc ks Q) (eT : T.heap = h)
    {pc : Nat} {Ls : Array Slot} (hsize : Ls.size = c.maxLocals) (hlen : ∀ sig, parseMethodDescriptor y.desc = some sig → argsL.length = sig.parameters.length) (hW : (rest.map fun v => v.category).sum = W)
    (hd : decode c.code pc = .ok (.invokevirtual index, 3)) (hc : cells + kc ≤ R.cells) (hs : slots + ks ≤ R.slots) {P : State → Outcome → Prop}
    (k : ∀ (v : Option Value) (T' : State) (L : List Loc), Stand p l e R s m args below meth c T' (locs ++ L) (cells + kc) (slots + ks) → Q v T'.heap L → OGo p e below (T'.setTop (mkF m (pc + 3) Ls (v.toList ++ rest))) P) :
    OGo p e below (T.setTop (mkF m pc Ls (argsL.reverse ++ .ref b :: rest))) P := by
  obtain ⟨cq, kq, qa, qb, qc⟩ := isOf hZ eT hb
  obtain ⟨v, vm, ⟨T', L', k', n'⟩, -, X', ⟨L, hQ, l1, y1, z1⟩, st⟩ := X.virtualBack hx (y := y) (z := z) hown (mvT hZ w1) (mvT hZ w2) hnf (mvT hZ w5) (mvT hZ w6) hy hK qa qc (g := mkF m pc Ls (argsL.reverse ++ .ref b :: rest)) rfl hsize (Steps.refl _) (argsL := argsL) (rest := rest) hlen rfl
    (by show 2 * 0 + _ ≤ _; rw [hW]; omega) hd (fun _ _ => ⟨rfl, eT, hc, hs⟩)
  dsimp only [Pt.U, Pt.locs, Pt.cells, Pt.slots] at X' l1 y1 z1 st hQ
  subst l1 y1 z1
  exact OGo.step (fun _ kk => st.trans kk) (k v T' L X' hQ)
theorem own_virtual (X : Stand p l e R s m args below meth c T locs cells slots) (hx : p.tables.exec = Jvm.exec) (hZ : Z.Warmed39 s.vm) {own C : String} {index : Nat} {y z : MethodName} {bytes : ByteArray} {maxL : Nat} {ret : Option FieldType}
    (hown : s.vm.findClass own = some m.cls) (w1 : (Jvm.Cond.methodLink own index y).before a0 Z = true) (w2 : (Jvm.Cond.declares y).before a0 Z = true) (hnf : NotFace s y) (w5 : (Jvm.Cond.selects C y z).before a0 Z = true) (w6 : (Jvm.Cond.instanceMethod z).before a0 Z = true)
    (hy : y.cls ≠ "java/lang/invoke/MethodHandle" ∧ y.cls ≠ "java/lang/invoke/VarHandle") (w4 : (Jvm.Cond.code z bytes maxL ret).before a0 Z = true) (w3 : (Jvm.Cond.initialized z.cls).before a0 Z = true) {b : Addr} (hb : Exa Z h b C)
    {W : Nat} {rm : Room} {argsL rest : List Value} {Q : Option Value → Heap → List Loc → Prop} (hM : OMet l Z z bytes maxL ret [] rm (.ref b :: argsL).toArray h Q) (eT : T.heap = h)
    {pc : Nat} {Ls : Array Slot} (hsize : Ls.size = c.maxLocals) (hlen : ∀ sig, parseMethodDescriptor y.desc = some sig → argsL.length = sig.parameters.length) (hW : (rest.map fun v => v.category).sum = W)
    (hd : decode c.code pc = .ok (.invokevirtual index, 3)) (hf : rm.frames + 1 ≤ R.frames) (hl : W + (maxL + 11) + rm.locals ≤ R.locals) (hc : cells + rm.cells ≤ R.cells) (hs : slots + rm.slots ≤ R.slots) {P : State → Outcome → Prop}
    (k : ∀ (v : Option Value) (T' : State) (L : List Loc), Stand p l e R s m args below meth c T' (locs ++ L) (cells + rm.cells) (slots + rm.slots) → Q v T'.heap L → OGo p e below (T'.setTop (mkF m (pc + 3) Ls (v.toList ++ rest))) P) :
    OGo p e below (T.setTop (mkF m pc Ls (argsL.reverse ++ .ref b :: rest))) P := 
  own_virtualK X hx hZ hown w1 w2 hnf w5 w6 hy hb (backOf (W := W) hM hZ w4 w3 hf hl) eT hsize hlen hW hd hc hs k
/-- an instance method that an ancestor declares, by its contract -/
theorem own_virtualUpK (X : Stand p l e R s m args below meth c T locs cells slots) (hx : p.tables.exec = Jvm.exec) (hZ : Z.Warmed39 s.vm) {own C owner : String} {index : Nat} {y z : MethodName}
    (hown : s.vm.findClass own = some m.cls) (w1 : (Jvm.Cond.methodLink own index y).before a0 Z = true) (w7 : (Jvm.Cond.sameMethod y.cls owner y.name y.desc).before a0 Z = true) (w2 : (Jvm.Cond.declares ⟨owner, y.name, y.desc⟩).before a0 Z = true) (w5 : (Jvm.Cond.selects C y z).before a0 Z = true) (w6 : (Jvm.Cond.instanceMethod z).before a0 Z = true)
    (hy : owner ≠ "java/lang/invoke/MethodHandle" ∧ owner ≠ "java/lang/invoke/VarHandle") {b : Addr} (hb : Exa Z h b C)
    {W : Nat} {kc ks : Nat} {argsL rest : List Value} {Q : Option Value → Heap → List Loc → Prop} (hK : OBack l R p e below s args z 3 W (.ref b :: argsL).toArray h kc ks Q) (eT : T.heap = h)
    {pc : Nat} {Ls : Array Slot} (hsize : Ls.size = c.maxLocals) (hlen : ∀ sig, parseMethodDescriptor y.desc = some sig → argsL.length = sig.parameters.length) (hW : (rest.map fun v => v.category).sum = W)
    (hd : decode c.code pc = .ok (.invokevirtual index, 3)) (hc : cells + kc ≤ R.cells) (hs : slots + ks ≤ R.slots) {P : State → Outcome → Prop}
    (k : ∀ (v : Option Value) (T' : State) (L : List Loc), Stand p l e R s m args below meth c T' (locs ++ L) (cells + kc) (slots + ks) → Q v T'.heap L → OGo p e below (T'.setTop (mkF m (pc + 3) Ls (v.toList ++ rest))) P) :
    OGo p e below (T.setTop (mkF m pc Ls (argsL.reverse ++ .ref b :: rest))) P := by
  obtain ⟨cq, kq, qa, qb, qc⟩ := isOf hZ eT hb
  obtain ⟨v, vm, ⟨T', L', k', n'⟩, -, X', ⟨L, hQ, l1, y1, z1⟩, st⟩ := X.virtualBackUp hx (x := y) (y := z) hown (mvT hZ w1) (mvT hZ w7) (mvT hZ w2) hy (mvT hZ w5) (mvT hZ w6) hK qa qc (g := mkF m pc Ls (argsL.reverse ++ .ref b :: rest)) rfl hsize (Steps.refl _) (argsL := argsL) (rest := rest) hlen rfl
    (by show 2 * 0 + _ ≤ _; rw [hW]; omega) hd (fun _ _ => ⟨rfl, eT, hc, hs⟩)
  dsimp only [Pt.U, Pt.locs, Pt.cells, Pt.slots] at X' l1 y1 z1 st hQ
  subst l1 y1 z1
  exact OGo.step (fun _ kk => st.trans kk) (k v T' L X' hQ)
theorem own_virtualUp (X : Stand p l e R s m args below meth c T locs cells slots) (hx : p.tables.exec = Jvm.exec) (hZ : Z.Warmed39 s.vm) {own C owner : String} {index : Nat} {y z : MethodName} {bytes : ByteArray} {maxL : Nat} {ret : Option FieldType}
    (hown : s.vm.findClass own = some m.cls) (w1 : (Jvm.Cond.methodLink own index y).before a0 Z = true) (w7 : (Jvm.Cond.sameMethod y.cls owner y.name y.desc).before a0 Z = true) (w2 : (Jvm.Cond.declares ⟨owner, y.name, y.desc⟩).before a0 Z = true) (w5 : (Jvm.Cond.selects C y z).before a0 Z = true) (w6 : (Jvm.Cond.instanceMethod z).before a0 Z = true)
    (hy : owner ≠ "java/lang/invoke/MethodHandle" ∧ owner ≠ "java/lang/invoke/VarHandle") (w4 : (Jvm.Cond.code z bytes maxL ret).before a0 Z = true) (w3 : (Jvm.Cond.initialized z.cls).before a0 Z = true) {b : Addr} (hb : Exa Z h b C)
    {W : Nat} {rm : Room} {argsL rest : List Value} {Q : Option Value → Heap → List Loc → Prop} (hM : OMet l Z z bytes maxL ret [] rm (.ref b :: argsL).toArray h Q) (eT : T.heap = h)
    {pc : Nat} {Ls : Array Slot} (hsize : Ls.size = c.maxLocals) (hlen : ∀ sig, parseMethodDescriptor y.desc = some sig → argsL.length = sig.parameters.length) (hW : (rest.map fun v => v.category).sum = W)
    (hd : decode c.code pc = .ok (.invokevirtual index, 3)) (hf : rm.frames + 1 ≤ R.frames) (hl : W + (maxL + 11) + rm.locals ≤ R.locals) (hc : cells + rm.cells ≤ R.cells) (hs : slots + rm.slots ≤ R.slots) {P : State → Outcome → Prop}
    (k : ∀ (v : Option Value) (T' : State) (L : List Loc), Stand p l e R s m args below meth c T' (locs ++ L) (cells + rm.cells) (slots + rm.slots) → Q v T'.heap L → OGo p e below (T'.setTop (mkF m (pc + 3) Ls (v.toList ++ rest))) P) :
    OGo p e below (T.setTop (mkF m pc Ls (argsL.reverse ++ .ref b :: rest))) P := 
  own_virtualUpK X hx hZ hown w1 w7 w2 w5 w6 hy hb (backOf (W := W) hM hZ w4 w3 hf hl) eT hsize hlen hW hd hc hs k
theorem own_cat {v : Value} (q : v.isRef = true) : v.category = 1 := by cases v <;> first | rfl | (simp [Value.isRef] at q)
theorem own_narR {v : Value} {t : FieldType} (q : v.isRef = true) (ht : t.isReference = true := by rfl) : narrow t v = v := by cases v <;> first | (simp [Value.isRef] at q; done) | (cases t <;> first | rfl | (cases ht))
theorem own_fitR {v : Value} {t : FieldType} (q : v.isRef = true) (ht : t.isReference = true := by rfl) : fits t v = true := by cases v <;> first | (simp [Value.isRef] at q; done) | (cases t <;> first | rfl | (cases ht))
theorem own_store1 {l l' : Array Slot} {i : Nat} {v : Value} {o : Slot} (hold : l[i]? = some o) (ho : o = .unset ∨ ∃ w, o = .val w ∧ w.category = 1) (hv : v.category = 1) (hl' : l.setIfInBounds i (.val v) = l' := by rfl) : storeLocals l i v = some l' := by
  rw [XS.store1 hold ho hv, hl']
end Own
theorem own_eqv {args : Array Value} {s : State} {a b : Term} {y : Value} (h : (Jvm.Cond.eq a b).value args s none s [] = some true) (hb : b.eval args s none [] s = some y) : a.eval args s none [] s = some y := by
  cases ha : a.eval args s none [] s with
  | none => simp [Cond.value, ha] at h
  | some x => cases x <;> cases y <;> simp_all [Cond.value]
theorem own_len {args : Array Value} {s : State} {t : Term} {a : Addr} {cl : Cell} {ty : FieldType} {n : Int32} (ev : t.eval args s none [] s = some (.ref a)) (A : Arr s s.heap a cl ty) (h : (Term.length t).eval args s none [] s = some (.int n)) : cl.slots.size < 2 ^ 31 ∧ cl.slots.size.toInt32 = n := by
  have ha : s.arrayAt? a = some cl := Arr.fin (State.WarmedH.refl s).alike A
  by_cases q : cl.slots.size < 2 ^ 31
  · rw [len_f ev ha q] at h
    exact ⟨q, Value.int.inj (Option.some.inj h)⟩
  · simp [Term.eval, ev, ha] at h
    omega
theorem own_elem {args : Array Value} {s : State} {t : Term} {a : Addr} {cl : Cell} {ty : FieldType} {j : Int32} {v : Value} (ev : t.eval args s none [] s = some (.ref a)) (A : Arr s s.heap a cl ty) (h : (Term.elem t (Term.int j)).eval args s none [] s = some v) (hn : ¬ j < 0 := by decide) : cl.slots[j.toNatClampNeg]? = some v := by
  have ha : s.arrayAt? a = some cl := Arr.fin (State.WarmedH.refl s).alike A
  rw [← elem_f ev (Term.int_eval j) ha hn]; exact h
section OwnW
variable {p : Program} {l : Launch} {e : Env} {R : Room} {s : State} {m : MethodId} {args : Array Value} {below : List Frame} {meth : Method} {c : Code} {T : State} {locs : List Loc} {cells slots : Nat} {Z : State} {a0 : Array Value} {h h' : Heap} {EL : List (String × Nat)} {vm0 : Vm}
/-- the contract of one body that may load String constants -/
abbrev OMetW (l : Launch) (Z : State) (EL : List (String × Nat)) (y : MethodName) (bytes : ByteArray) (maxL : Nat) (ret : Option FieldType) (ws : List Jvm.Cond) (rm : Room) (as' : Array Value) (h0 : Heap) (Q : Option Value → Heap → List Loc → Prop) : Prop :=
  MetFree l y (head1 (Jvm.Cond.code y bytes maxL ret :: ws) rm) (fun a U => a = as' ∧ Z.Warmed39 U.vm ∧ U.heap = h0 ∧ CHv Z EL U.vm h0) (fun _ _ _ _ _ => True) (fun _ U o U' => ∃ v L, o = .returned v ∧ Q v U'.heap L ∧ CHr Z EL U.vm U.heap U'.vm U'.heap ∧ ReturnedEndW U o U' L rm.cells rm.slots)
def OEndW (s Z : State) (EL : List (String × Nat)) (Q : Option Value → Heap → List Loc → Prop) (kc ks : Nat) (t : State) (o : Outcome) : Prop :=
  ∃ v L, o = .returned v ∧ Q v t.heap L ∧ CHr Z EL s.vm s.heap t.vm t.heap ∧ ReturnedEndW s o t L kc ks
/-- what a walk that may have interned keeps: the tables at hand, and that what they book stands in the heap at hand -/
def OW (Z s : State) (EL : List (String × Nat)) (vm0 : Vm) (h : Heap) : Prop := (∃ k, s.Since vm0 k ∧ k ≤ h.size) ∧ Z.Warmed39 vm0 ∧ CHr Z EL s.vm s.heap vm0 h
theorem OW.chv (O : OW Z s EL vm0 h) : CHv Z EL vm0 h := O.2.2.1
theorem OW.trans {vm1 : Vm} (O : OW Z s EL vm0 h) (hZ : Z.Warmed39 vm1) {k : Nat} (hS : s.Since vm1 k) (hk : k ≤ h'.size) (C : CHr Z EL vm0 h vm1 h') : OW Z s EL vm1 h' := ⟨⟨k, hS, hk⟩, hZ, O.2.2.trans C⟩
theorem OW.ext (O : OW Z s EL vm0 h) (E : Ext h h') : OW Z s EL vm0 h' := by
  obtain ⟨⟨k, a, b⟩, c, d⟩ := O
  exact ⟨⟨k, a, Nat.le_trans b E.1⟩, c, d.trans (CHr.ext E d.1)⟩
theorem OW.wr {a : Addr} {sl : Nat} {v : Value} (O : OW Z s EL vm0 h) (W : Wr h h' a sl v) (S : Safe Z EL vm0 h a) : OW Z s EL vm0 h' := by
  obtain ⟨⟨k, x, b⟩, c, d⟩ := O
  exact ⟨⟨k, x, by rw [W.size]; exact b⟩, c, d.trans (CHr.wr W S d.1)⟩
theorem OW.keep {ws : List Addr} (O : OW Z s EL vm0 h) (K : Keep h h' ws) (hs : ∀ x ∈ ws, Safe Z EL vm0 h x) : OW Z s EL vm0 h' := by
  obtain ⟨⟨k, x, b⟩, c, d⟩ := O
  exact ⟨⟨k, x, Nat.le_trans b K.1⟩, c, d.trans (CHr.keep K hs d.1)⟩
theorem OW.eq (O : OW Z s EL vm0 h) (q : h' = h) : OW Z s EL vm0 h' := q ▸ O
theorem OMetW.body {y : MethodName} {bytes : ByteArray} {maxL : Nat} {ret : Option FieldType} {ws : List Jvm.Cond} {rm : Room} {as' : Array Value} {h0 : Heap} {Q : Option Value → Heap → List Loc → Prop} (hpn : plainFor y = true)
    (b : ∀ (p : Program) (e : Env) (s : State) (m : MethodId) (below : List Frame) (meth : Method) (c : Code) (s₁ : State), p.tables.exec = Jvm.exec → c.code = bytes → c.maxLocals = maxL → (s.setVm s.vm).vm.findClass y.cls = some m.cls → meth.name = y.name → meth.sig.returnType = ret → meth.locks = false → Z.Warmed39 (s.setVm s.vm).vm →
      Stand p l e rm (s.setVm s.vm) m as' below meth c s₁ [] 0 0 → s₁.heap = h0 → OW Z s EL s.vm h0 → OGo p e below (s₁.setTop (entryFrame m as' maxL)) (OEndW s Z EL Q rm.cells rm.slots)) : OMetW l Z EL y bytes maxL ret ws rm as' h0 Q := by
  refine MetFree.of_bodySF hpn hisR ?_
  intro p e s m args below meth c s₁ Bd hml0 hP hK
  obtain ⟨rfl, hZ, hh, hC⟩ := hP
  exact b p e s m below meth c s₁ Bd.exec Bd.bytes hml0 (findClass_of_methodNamed Bd.named) (name_of_methodNamed Bd.named Bd.method).1 Bd.returns Bd.notSynchronized hZ (Stand.of_body Bd) (by rw [← hh, Bd.state]; rfl)
    ⟨⟨0, (State.WarmedH.refl s).since 0, Nat.zero_le _⟩, hZ, by rw [hh]; exact CHr.refl hC⟩
theorem own_endW (X : Stand p l e R (s.setVm vm0) m args below meth c T locs cells slots) (hlk : meth.locks = false) (hEL : EW Z a0 EL) (O : OW Z s EL vm0 h) (eT : T.heap = h) {v : Option Value} (hv : meth.sig.returnType = none → v = none) {Q : Option Value → Heap → List Loc → Prop} {kc ks : Nat} (hQ : Q v T.heap locs) (h1 : cells ≤ kc) (h2 : slots ≤ ks) :
    ∃ fs, (∀ (f : JFrame) (acts : List Action), f.method = m → f.locked = none → f.entered = [] → (doReturn e (T.setTop f) acts v).1 = T.setFrames fs) ∧ (T.setFrames fs).status = .running ∧ Ended (T.setFrames fs) below (.returned v) ∧ OEndW s Z EL Q kc ks (T.setFrames fs) (.returned v) := by
  obtain ⟨⟨k, hS, hk⟩, hZ, hC⟩ := O
  obtain ⟨fs, q1, q2, q3, q4, q5, q6, q7⟩ := X.leaveW hS (by rw [eT]; exact hk) (v := v) hv hlk
  refine ⟨fs, q1, q2, q3, v, locs, rfl, hQ, ?_, q4, q5, q6, q7.mono h1 h2⟩
  have C := hC.trans (CHv.at X hZ hEL hC.1)
  rw [← eT] at C
  exact C
theorem own_retW (X : Stand p l e R (s.setVm vm0) m args below meth c T locs cells slots) (hx : p.tables.exec = Jvm.exec) (hlk : meth.locks = false) (hEL : EW Z a0 EL) (O : OW Z s EL vm0 h) (eT : T.heap = h) {pc : Nat} {Ls : Array Slot} {w : Value} {t : FieldType} {i : Instr} {rest : List Value} (hret : meth.sig.returnType = some t) (hn : narrow t w = w)
    (hi : (i = .ireturn ∧ (t = .int ∨ t = .boolean ∨ t = .byte ∨ t = .char ∨ t = .short) ∧ ∃ z, w = .int z) ∨ (i = .lreturn ∧ t = .long ∧ ∃ z, w = .long z) ∨ (i = .dreturn ∧ t = .double ∧ ∃ z, w = .double z) ∨ (i = .freturn ∧ t = .float ∧ ∃ z, w = .float z) ∨ (i = .areturn ∧ t.isReference = true ∧ w.isRef = true))
    (hd : decode c.code pc = .ok (i, 1)) {Q : Option Value → Heap → List Loc → Prop} {kc ks : Nat} (hQ : Q (some w) T.heap locs) (h1 : cells ≤ kc) (h2 : slots ≤ ks) : OGo p e below (T.setTop (mkF m pc Ls (w :: rest))) (OEndW s Z EL Q kc ks) := by
  obtain ⟨fs, hr, q2, q3, q4⟩ := own_endW X hlk hEL O eT (v := some w) (fun h => by rw [hret] at h; cases h) hQ h1 h2
  exact ⟨_, _, retOut X hx hret hn hi hd hr, q2, q3, q4⟩
theorem own_retNW (X : Stand p l e R (s.setVm vm0) m args below meth c T locs cells slots) (hx : p.tables.exec = Jvm.exec) (hlk : meth.locks = false) (hEL : EW Z a0 EL) (O : OW Z s EL vm0 h) (eT : T.heap = h) {pc : Nat} {Ls : Array Slot} {z : Int32} {t : FieldType} {rest : List Value} (hret : meth.sig.returnType = some t) (ht : t = .boolean ∨ t = .byte ∨ t = .char ∨ t = .short)
    (hd : decode c.code pc = .ok (.ireturn, 1)) {Q : Option Value → Heap → List Loc → Prop} {kc ks : Nat} (hQ : Q (some (.int (nar t z))) T.heap locs) (h1 : cells ≤ kc) (h2 : slots ≤ ks) : OGo p e below (T.setTop (mkF m pc Ls (.int z :: rest))) (OEndW s Z EL Q kc ks) := by
  obtain ⟨fs, hr, q2, q3, q4⟩ := own_endW X hlk hEL O eT (v := some (.int (nar t z))) (fun h => by rw [hret] at h; cases h) hQ h1 h2
  exact ⟨_, _, retN X hx hret ht hd hr, q2, q3, q4⟩
theorem own_ret0W (X : Stand p l e R (s.setVm vm0) m args below meth c T locs cells slots) (hx : p.tables.exec = Jvm.exec) (hlk : meth.locks = false) (hEL : EW Z a0 EL) (O : OW Z s EL vm0 h) (eT : T.heap = h) {pc : Nat} {Ls : Array Slot} (hret : meth.sig.returnType = none)
    (hd : decode c.code pc = .ok (.return_, 1)) {Q : Option Value → Heap → List Loc → Prop} {kc ks : Nat} (hQ : Q none T.heap locs) (h1 : cells ≤ kc) (h2 : slots ≤ ks) : OGo p e below (T.setTop (mkF m pc Ls [])) (OEndW s Z EL Q kc ks) := by
  obtain ⟨fs, hr, q2, q3, q4⟩ := own_endW X hlk hEL O eT (v := none) (fun _ => rfl) hQ h1 h2
  exact ⟨_, _, X.returnOut hx hret hd hr, q2, q3, q4⟩
/-- behind a callee that may have interned -/
theorem own_behind {T' : State} {own : String} {L : List Loc} {kc ks : Nat} {Q : Option Value → Heap → List Loc → Prop} {v : Option Value} (O : OW Z s EL vm0 h) (eT : T.heap = h) (hown : (s.setVm vm0).vm.findClass own = some m.cls)
    (hS2 : (s.setVm vm0).Since T'.vm T'.heap.size) (hg : T.heap.size ≤ T'.heap.size) (C : CHr Z EL vm0 h T'.vm T'.heap) : OW Z s EL T'.vm T'.heap ∧ Z.Warmed39 (s.setVm T'.vm).vm ∧ (s.setVm T'.vm).vm.findClass own = some m.cls := by
  obtain ⟨⟨k, hS, hk⟩, hZ, hC⟩ := O
  have hW : Z.Warmed39 T'.vm := State.Warmed39.trans (t := s.setVm vm0) hZ hS2.1
  exact ⟨⟨⟨_, hS.trans hS2 (Nat.le_trans hk (by rw [← eT]; exact hg)), Nat.le_refl _⟩, hW, hC.trans C⟩, hW, (hS2.1.alike.findClass _ _).trans hown⟩
theorem own_callSW (X : Stand p l e R (s.setVm vm0) m args below meth c T locs cells slots) (hx : p.tables.exec = Jvm.exec) (hZ : Z.Warmed39 (s.setVm vm0).vm) {own : String} {index : Nat} {y : MethodName} {bytes : ByteArray} {maxL : Nat} {ret : Option FieldType}
    (hown : (s.setVm vm0).vm.findClass own = some m.cls) (w1 : (Jvm.Cond.methodLink own index y).before a0 Z = true) (w2 : (Jvm.Cond.static y).before a0 Z = true) (w3 : (Jvm.Cond.initialized y.cls).before a0 Z = true)
    (w4 : (Jvm.Cond.code y bytes maxL ret).before a0 Z = true) (hy : y.cls ≠ "java/lang/invoke/MethodHandle" ∧ y.cls ≠ "java/lang/invoke/VarHandle") (hEL : EW Z a0 EL) (O : OW Z s EL vm0 h)
    {W : Nat} {rm : Room} {argsL rest : List Value} {Q : Option Value → Heap → List Loc → Prop} (hM : OMetW l Z EL y bytes maxL ret [] rm argsL.toArray h Q) (eT : T.heap = h)
    {pc : Nat} {Ls : Array Slot} (hsize : Ls.size = c.maxLocals) (hlen : ∀ sig, parseMethodDescriptor y.desc = some sig → argsL.length = sig.parameters.length) (hW : (rest.map fun v => v.category).sum = W)
    (hd : decode c.code pc = .ok (.invokestatic index, 3)) (hf : rm.frames + 1 ≤ R.frames) (hl : W + (maxL + 11) + rm.locals ≤ R.locals) (hc : cells + rm.cells ≤ R.cells) (hs : slots + rm.slots ≤ R.slots) {P : State → Outcome → Prop}
    (k : ∀ (v : Option Value) (T' : State) (L : List Loc), Stand p l e R (s.setVm T'.vm) m args below meth c T' (locs ++ L) (cells + rm.cells) (slots + rm.slots) → Q v T'.heap L → OW Z s EL T'.vm T'.heap → Z.Warmed39 (s.setVm T'.vm).vm → (s.setVm T'.vm).vm.findClass own = some m.cls → CHr Z EL vm0 h T'.vm T'.heap → OGo p e below (T'.setTop (mkF m (pc + 3) Ls (v.toList ++ rest))) P) :
    OGo p e below (T.setTop (mkF m pc Ls (argsL.reverse ++ rest))) P := by
  obtain ⟨v, vm, ⟨T', L', k', n'⟩, -, X', hS2, hg, ⟨L, hQ, l1, y1, z1, C⟩, st⟩ := callSS X hx (y := y) hown (mvT hZ w1) (mvT hZ w2) (mvT hZ w3) (mvT hZ w4) hy (backOfSH (W := W) hM hZ w4 w3 hf hl hEL O.chv) (g := mkF m pc Ls (argsL.reverse ++ rest)) rfl hsize (argsL := argsL) (rest := rest) hlen rfl
    (by show 2 * 0 + _ ≤ _; rw [hW]; omega) hd (fun _ _ => ⟨rfl, eT, hc, hs⟩)
  dsimp only [Pt.U, Pt.locs, Pt.cells, Pt.slots] at X' l1 y1 z1 st hQ hS2 hg C
  subst l1 y1 z1
  obtain ⟨r1, r2, r3⟩ := own_behind (L := L) (kc := 0) (ks := 0) (Q := Q) (v := v) O eT hown hS2 hg C
  exact OGo.step (fun _ kk => st.trans kk) (k v T' L X' hQ r1 r2 r3 C)
theorem own_specialW (X : Stand p l e R (s.setVm vm0) m args below meth c T locs cells slots) (hx : p.tables.exec = Jvm.exec) (hZ : Z.Warmed39 (s.setVm vm0).vm) {own : String} {index : Nat} {y : MethodName} {bytes : ByteArray} {maxL : Nat} (hy1 : y.name = "<init>")
    (hown : (s.setVm vm0).vm.findClass own = some m.cls) (w1 : (Jvm.Cond.methodLink own index y).before a0 Z = true) (w2 : (Jvm.Cond.instanceMethod y).before a0 Z = true)
    (w4 : (Jvm.Cond.code y bytes maxL none).before a0 Z = true) (w3 : (Jvm.Cond.initialized y.cls).before a0 Z = true) (hy : y.cls ≠ "java/lang/invoke/MethodHandle" ∧ y.cls ≠ "java/lang/invoke/VarHandle") (hEL : EW Z a0 EL) (O : OW Z s EL vm0 h) {a : Addr}
    {W : Nat} {rm : Room} {argsL rest : List Value} {Q : Option Value → Heap → List Loc → Prop} (hM : OMetW l Z EL y bytes maxL none [] rm (.ref a :: argsL).toArray h Q) (eT : T.heap = h)
    {pc : Nat} {Ls : Array Slot} (hsize : Ls.size = c.maxLocals) (hlen : ∀ sig, parseMethodDescriptor y.desc = some sig → argsL.length = sig.parameters.length) (hW : (rest.map fun v => v.category).sum = W)
    (hd : decode c.code pc = .ok (.invokespecial index, 3)) (hf : rm.frames + 1 ≤ R.frames) (hl : W + (maxL + 11) + rm.locals ≤ R.locals) (hc : cells + rm.cells ≤ R.cells) (hs : slots + rm.slots ≤ R.slots) {P : State → Outcome → Prop}
    (k : ∀ (v : Option Value) (T' : State) (L : List Loc), Stand p l e R (s.setVm T'.vm) m args below meth c T' (locs ++ L) (cells + rm.cells) (slots + rm.slots) → Q v T'.heap L → OW Z s EL T'.vm T'.heap → Z.Warmed39 (s.setVm T'.vm).vm → (s.setVm T'.vm).vm.findClass own = some m.cls → CHr Z EL vm0 h T'.vm T'.heap → OGo p e below (T'.setTop (mkF m (pc + 3) Ls (v.toList ++ rest))) P) :
    OGo p e below (T.setTop (mkF m pc Ls (argsL.reverse ++ .ref a :: rest))) P := by
  obtain ⟨v, vm, ⟨T', L', k', n'⟩, -, X', hS2, hg, ⟨L, hQ, l1, y1, z1, C⟩, st⟩ := X.specialBackS hx (y := y) hy1 hown (mvT hZ w1) (mvT hZ w2) (mvT hZ w4) hy (backOfSH (W := W) hM hZ w4 w3 hf hl hEL O.chv) (g := mkF m pc Ls (argsL.reverse ++ .ref a :: rest)) rfl hsize (Steps.refl _) (a := a) (argsL := argsL) (rest := rest) hlen rfl
    (by show 2 * 0 + _ ≤ _; rw [hW]; omega) hd (fun _ _ => ⟨rfl, eT, hc, hs⟩)
  dsimp only [Pt.U, Pt.locs, Pt.cells, Pt.slots] at X' l1 y1 z1 st hQ hS2 hg C
  subst l1 y1 z1
  obtain ⟨r1, r2, r3⟩ := own_behind (L := L) (kc := 0) (ks := 0) (Q := Q) (v := v) O eT hown hS2 hg C
  exact OGo.step (fun _ kk => st.trans kk) (k v T' L X' hQ r1 r2 r3 C)
theorem own_virtualW (X : Stand p l e R (s.setVm vm0) m args below meth c T locs cells slots) (hx : p.tables.exec = Jvm.exec) (hZ : Z.Warmed39 (s.setVm vm0).vm) {own C : String} {index : Nat} {y z : MethodName} {bytes : ByteArray} {maxL : Nat} {ret : Option FieldType}
    (hown : (s.setVm vm0).vm.findClass own = some m.cls) (w1 : (Jvm.Cond.methodLink own index y).before a0 Z = true) (w2 : (Jvm.Cond.declares y).before a0 Z = true) (hnf : NotFace (s.setVm vm0) y) (w5 : (Jvm.Cond.selects C y z).before a0 Z = true) (w6 : (Jvm.Cond.instanceMethod z).before a0 Z = true)
    (hy : y.cls ≠ "java/lang/invoke/MethodHandle" ∧ y.cls ≠ "java/lang/invoke/VarHandle") (w4 : (Jvm.Cond.code z bytes maxL ret).before a0 Z = true) (w3 : (Jvm.Cond.initialized z.cls).before a0 Z = true) (hEL : EW Z a0 EL) (O : OW Z s EL vm0 h) {b : Addr} (hb : Exa Z h b C)
    {W : Nat} {rm : Room} {argsL rest : List Value} {Q : Option Value → Heap → List Loc → Prop} (hM : OMetW l Z EL z bytes maxL ret [] rm (.ref b :: argsL).toArray h Q) (eT : T.heap = h)
    {pc : Nat} {Ls : Array Slot} (hsize : Ls.size = c.maxLocals) (hlen : ∀ sig, parseMethodDescriptor y.desc = some sig → argsL.length = sig.parameters.length) (hW : (rest.map fun v => v.category).sum = W)
    (hd : decode c.code pc = .ok (.invokevirtual index, 3)) (hf : rm.frames + 1 ≤ R.frames) (hl : W + (maxL + 11) + rm.locals ≤ R.locals) (hc : cells + rm.cells ≤ R.cells) (hs : slots + rm.slots ≤ R.slots) {P : State → Outcome → Prop}
    (k : ∀ (v : Option Value) (T' : State) (L : List Loc), Stand p l e R (s.setVm T'.vm) m args below meth c T' (locs ++ L) (cells + rm.cells) (slots + rm.slots) → Q v T'.heap L → OW Z s EL T'.vm T'.heap → Z.Warmed39 (s.setVm T'.vm).vm → (s.setVm T'.vm).vm.findClass own = some m.cls → CHr Z EL vm0 h T'.vm T'.heap → OGo p e below (T'.setTop (mkF m (pc + 3) Ls (v.toList ++ rest))) P) :
    OGo p e below (T.setTop (mkF m pc Ls (argsL.reverse ++ .ref b :: rest))) P := by
  obtain ⟨cq, kq, qa, qb, qc⟩ := isOf hZ eT hb
  obtain ⟨v, vm, ⟨T', L', k', n'⟩, -, X', hS2, hg, ⟨L, hQ, l1, y1, z1, C⟩, st⟩ := X.virtualBackS hx (y := y) (z := z) hown (mvT hZ w1) (mvT hZ w2) hnf (mvT hZ w5) (mvT hZ w6) hy (backOfSH (W := W) hM hZ w4 w3 hf hl hEL O.chv) qa qc (g := mkF m pc Ls (argsL.reverse ++ .ref b :: rest)) rfl hsize (Steps.refl _) (argsL := argsL) (rest := rest) hlen rfl
    (by show 2 * 0 + _ ≤ _; rw [hW]; omega) hd (fun _ _ => ⟨rfl, eT, hc, hs⟩)
  dsimp only [Pt.U, Pt.locs, Pt.cells, Pt.slots] at X' l1 y1 z1 st hQ hS2 hg C
  subst l1 y1 z1
  obtain ⟨r1, r2, r3⟩ := own_behind (L := L) (kc := 0) (ks := 0) (Q := Q) (v := v) O eT hown hS2 hg C
  exact OGo.step (fun _ kk => st.trans kk) (k v T' L X' hQ r1 r2 r3 C)
/-- 'ldc' of a String constant of EL -/
theorem own_ldcW (X : Stand p l e R (s.setVm vm0) m args below meth c T locs cells slots) (hx : p.tables.exec = Jvm.exec) {own text : String} {index : Nat} (hown : (s.setVm vm0).vm.findClass own = some m.cls) (w : (Jvm.Cond.stringLink own index text).before a0 Z = true) (wS : ∀ a ∈ Bundle.stringAtoms, a.before a0 Z = true)
    (hEL : EW Z a0 EL) (O : OW Z s EL vm0 h) (eT : T.heap = h) (hmem : (own, index) ∈ EL) {vs : List Value} {z : Int32} (ht : (∀ c ∈ text.toList, c.toNat < 256) ∧ text.toList.map (fun c => Value.int (Jvm.Lit.byteI c.toNat.toUInt16)) = vs) (hz : ¬ z < 0) (hl : z.toNatClampNeg = vs.length)
    {pc : Nat} {Ls : Array Slot} {st : List Value} (hd : decode c.code pc = .ok (.ldc index, 2)) {n : Nat} (hn : 4 * text.toList.length ≤ n) (hbig : n ≤ 536870912) (hc : cells + 2 ≤ R.cells) (hl' : slots + (n + 4) ≤ R.slots) {P : State → Outcome → Prop}
    (k : ∀ (a b : Addr) (kb : ClassId) (T' : State), Stand p l e R (s.setVm T'.vm) m args below meth c T' locs (cells + 2) (slots + (n + 4)) → Ext h T'.heap → OW Z s EL T'.vm T'.heap → Z.Warmed39 (s.setVm T'.vm).vm → (s.setVm T'.vm).vm.findClass own = some m.cls → CHr Z EL vm0 h T'.vm T'.heap →
      Exa Z T'.heap a "java/lang/String" → Fld Z T'.heap a "java/lang/String" "coder" "B" (.int 0) → Fld Z T'.heap a "java/lang/String" "value" "[B" (.ref b) → Arv Z T'.heap b kb .byte z vs (.int 0) → (∀ x, Safe Z EL T'.vm T'.heap x → x ≠ a ∧ x ≠ b) → OGo p e below (T'.setTop (mkF m (pc + 2) Ls (.ref a :: st))) P) :
    OGo p e below (T.setTop (mkF m pc Ls st)) P := by
  obtain ⟨⟨k0, hS, hk⟩, hZ, hC⟩ := O
  obtain ⟨a, T', h', k1, b, kb, X', rfl, E, hS2, hk2, hW, hf, hE, hF1, hF2, hA, -, -, C, -, hsf, stp⟩ := ldcCH X hx hZ hown w wS eT hS hk hEL hmem hC.1 ht hz hl (g := mkF m pc Ls st) rfl hd hn hbig hc hl'
  exact OGo.step stp (k a b kb T' X' E ⟨⟨k1, hS2, hk2⟩, hW, hC.trans C⟩ hW hf C hE hF1 hF2 hA hsf)
end OwnW
theorem own_pd0 : parseMethodDescriptor "(I)C" = some ⟨[.int], some .char⟩ := by decide +kernel
theorem own_pd1 : parseMethodDescriptor "()[Lcom/example/tenantd/tenantd/RoleType;" = some ⟨[], some (.array (.object "com/example/tenantd/tenantd/RoleType"))⟩ := by decide +kernel
theorem own_pd2 : parseMethodDescriptor "(Ljava/lang/Object;)Z" = some ⟨[(.object "java/lang/Object")], some .boolean⟩ := by decide +kernel
theorem own_pd3 : parseMethodDescriptor "()Ljava/util/Optional;" = some ⟨[], some (.object "java/util/Optional")⟩ := by decide +kernel
theorem own_pd4 : parseMethodDescriptor "(Ljava/lang/Object;)Ljava/util/Optional;" = some ⟨[(.object "java/lang/Object")], some (.object "java/util/Optional")⟩ := by decide +kernel
theorem own_pd5 : parseMethodDescriptor "(I)Ljava/lang/String;" = some ⟨[.int], some (.object "java/lang/String")⟩ := by decide +kernel
theorem own_pd6 : parseMethodDescriptor "()I" = some ⟨[], some .int⟩ := by decide +kernel
theorem own_pd7 : parseMethodDescriptor "([C)V" = some ⟨[(.array .char)], none⟩ := by decide +kernel
theorem own_pd8 : parseMethodDescriptor "(I)Lcom/example/tenantd/tenantd/RoleType;" = some ⟨[.int], some (.object "com/example/tenantd/tenantd/RoleType")⟩ := by decide +kernel
theorem own_pd9 : parseMethodDescriptor "(Ljava/lang/String;)Ljava/util/Optional;" = some ⟨[(.object "java/lang/String")], some (.object "java/util/Optional")⟩ := by decide +kernel
theorem own_pd10 : parseMethodDescriptor "(Ljava/lang/Object;)Ljava/lang/Object;" = some ⟨[(.object "java/lang/Object")], some (.object "java/lang/Object")⟩ := by decide +kernel
theorem own_pd11 : parseMethodDescriptor "(Ljava/lang/String;IIICI)C" = some ⟨[(.object "java/lang/String"), .int, .int, .int, .char, .int], some .char⟩ := by decide +kernel
theorem own_pd12 : parseMethodDescriptor "([CIILjava/lang/Void;)V" = some ⟨[(.array .char), .int, .int, (.object "java/lang/Void")], none⟩ := by decide +kernel
theorem own_pd13 : parseMethodDescriptor "(Ljava/lang/Object;)V" = some ⟨[(.object "java/lang/Object")], none⟩ := by decide +kernel
theorem own_pn0 : plainName "com/example/tenantd/tenantd/RoleTypeOfTextPinLaw" = true := by first | (simp [plainName, overriddenIn]; done) | decide +kernel
theorem own_pn1 : plainName "com/example/tenantd/tenantd/RoleType" = true := by first | (simp [plainName, overriddenIn]; done) | decide +kernel
theorem own_pn2 : plainName "java/lang/String" = true := by first | (simp [plainName, overriddenIn]; done) | decide +kernel
theorem own_pn3 : plainName "java/util/Optional" = true := by first | (simp [plainName, overriddenIn]; done) | decide +kernel
theorem own_pn4 : plainName "java/util/Objects" = true := by first | (simp [plainName, overriddenIn]; done) | decide +kernel
theorem own_d_method_2_code_0 : decode method_2_code 0 = .ok (.iload_n 0, 1) := by decide +kernel
theorem own_d_method_2_code_1 : decode method_2_code 1 = .ok (.ifCond .ne 6, 3) := by decide +kernel
theorem own_d_method_2_code_4 : decode method_2_code 4 = .ok (.ldc 7, 2) := by decide +kernel
theorem own_d_method_2_code_6 : decode method_2_code 6 = .ok (.areturn, 1) := by decide +kernel
theorem own_d_method_2_code_7 : decode method_2_code 7 = .ok (.iload_n 0, 1) := by decide +kernel
theorem own_d_method_2_code_8 : decode method_2_code 8 = .ok (.iconst 1, 1) := by decide +kernel
theorem own_d_method_2_code_9 : decode method_2_code 9 = .ok (.if_icmp .ne 6, 3) := by decide +kernel
theorem own_d_method_2_code_12 : decode method_2_code 12 = .ok (.ldc 9, 2) := by decide +kernel
theorem own_d_method_2_code_14 : decode method_2_code 14 = .ok (.areturn, 1) := by decide +kernel
theorem own_d_method_2_code_15 : decode method_2_code 15 = .ok (.iload_n 0, 1) := by decide +kernel
theorem own_d_method_2_code_16 : decode method_2_code 16 = .ok (.iconst 2, 1) := by decide +kernel
theorem own_d_method_2_code_17 : decode method_2_code 17 = .ok (.if_icmp .ne 6, 3) := by decide +kernel
theorem own_d_method_2_code_20 : decode method_2_code 20 = .ok (.ldc 11, 2) := by decide +kernel
theorem own_d_method_2_code_22 : decode method_2_code 22 = .ok (.areturn, 1) := by decide +kernel
theorem own_d_method_2_code_23 : decode method_2_code 23 = .ok (.ldc 13, 2) := by decide +kernel
theorem own_d_method_2_code_25 : decode method_2_code 25 = .ok (.areturn, 1) := by decide +kernel
theorem own_d_method_3_code_0 : decode method_3_code 0 = .ok (.iload_n 0, 1) := by decide +kernel
theorem own_d_method_3_code_1 : decode method_3_code 1 = .ok (.ifCond .ne 7, 3) := by decide +kernel
theorem own_d_method_3_code_4 : decode method_3_code 4 = .ok (.getstatic 15, 3) := by decide +kernel
theorem own_d_method_3_code_7 : decode method_3_code 7 = .ok (.areturn, 1) := by decide +kernel
theorem own_d_method_3_code_8 : decode method_3_code 8 = .ok (.iload_n 0, 1) := by decide +kernel
theorem own_d_method_3_code_9 : decode method_3_code 9 = .ok (.iconst 1, 1) := by decide +kernel
theorem own_d_method_3_code_10 : decode method_3_code 10 = .ok (.if_icmp .ne 7, 3) := by decide +kernel
theorem own_d_method_3_code_13 : decode method_3_code 13 = .ok (.getstatic 21, 3) := by decide +kernel
theorem own_d_method_3_code_16 : decode method_3_code 16 = .ok (.areturn, 1) := by decide +kernel
theorem own_d_method_3_code_17 : decode method_3_code 17 = .ok (.iload_n 0, 1) := by decide +kernel
theorem own_d_method_3_code_18 : decode method_3_code 18 = .ok (.iconst 2, 1) := by decide +kernel
theorem own_d_method_3_code_19 : decode method_3_code 19 = .ok (.if_icmp .ne 7, 3) := by decide +kernel
theorem own_d_method_3_code_22 : decode method_3_code 22 = .ok (.getstatic 24, 3) := by decide +kernel
theorem own_d_method_3_code_25 : decode method_3_code 25 = .ok (.areturn, 1) := by decide +kernel
theorem own_d_method_3_code_26 : decode method_3_code 26 = .ok (.getstatic 27, 3) := by decide +kernel
theorem own_d_method_3_code_29 : decode method_3_code 29 = .ok (.areturn, 1) := by decide +kernel
theorem own_d_method_4_code_0 : decode method_4_code 0 = .ok (.iload_n 2, 1) := by decide +kernel
theorem own_d_method_4_code_1 : decode method_4_code 1 = .ok (.iconst 1, 1) := by decide +kernel
theorem own_d_method_4_code_2 : decode method_4_code 2 = .ok (.if_icmp .ne 21, 3) := by decide +kernel
theorem own_d_method_4_code_5 : decode method_4_code 5 = .ok (.iload 5, 2) := by decide +kernel
theorem own_d_method_4_code_7 : decode method_4_code 7 = .ok (.iload_n 3, 1) := by decide +kernel
theorem own_d_method_4_code_8 : decode method_4_code 8 = .ok (.if_icmp .ne 8, 3) := by decide +kernel
theorem own_d_method_4_code_11 : decode method_4_code 11 = .ok (.iload 4, 2) := by decide +kernel
theorem own_d_method_4_code_13 : decode method_4_code 13 = .ok (.goto 9, 3) := by decide +kernel
theorem own_d_method_4_code_22 : decode method_4_code 22 = .ok (.ireturn, 1) := by decide +kernel
theorem own_d_method_4_code_16 : decode method_4_code 16 = .ok (.aload_n 0, 1) := by decide +kernel
theorem own_d_method_4_code_17 : decode method_4_code 17 = .ok (.iload 5, 2) := by decide +kernel
theorem own_d_method_4_code_19 : decode method_4_code 19 = .ok (.invokevirtual 30, 3) := by decide +kernel
theorem own_d_method_4_code_23 : decode method_4_code 23 = .ok (.iload_n 2, 1) := by decide +kernel
theorem own_d_method_4_code_24 : decode method_4_code 24 = .ok (.iconst 3, 1) := by decide +kernel
theorem own_d_method_4_code_25 : decode method_4_code 25 = .ok (.if_icmp .ne 21, 3) := by decide +kernel
theorem own_d_method_4_code_28 : decode method_4_code 28 = .ok (.iload 5, 2) := by decide +kernel
theorem own_d_method_4_code_30 : decode method_4_code 30 = .ok (.iload_n 1, 1) := by decide +kernel
theorem own_d_method_4_code_31 : decode method_4_code 31 = .ok (.if_icmp .ge 12, 3) := by decide +kernel
theorem own_d_method_4_code_34 : decode method_4_code 34 = .ok (.aload_n 0, 1) := by decide +kernel
theorem own_d_method_4_code_35 : decode method_4_code 35 = .ok (.iload 5, 2) := by decide +kernel
theorem own_d_method_4_code_37 : decode method_4_code 37 = .ok (.invokevirtual 30, 3) := by decide +kernel
theorem own_d_method_4_code_40 : decode method_4_code 40 = .ok (.goto 5, 3) := by decide +kernel
theorem own_d_method_4_code_45 : decode method_4_code 45 = .ok (.ireturn, 1) := by decide +kernel
theorem own_d_method_4_code_43 : decode method_4_code 43 = .ok (.iload 4, 2) := by decide +kernel
theorem own_d_method_4_code_46 : decode method_4_code 46 = .ok (.iload_n 2, 1) := by decide +kernel
theorem own_d_method_4_code_47 : decode method_4_code 47 = .ok (.iconst 4, 1) := by decide +kernel
theorem own_d_method_4_code_48 : decode method_4_code 48 = .ok (.if_icmp .ne 12, 3) := by decide +kernel
theorem own_d_method_4_code_51 : decode method_4_code 51 = .ok (.aload_n 0, 1) := by decide +kernel
theorem own_d_method_4_code_52 : decode method_4_code 52 = .ok (.iload 5, 2) := by decide +kernel
theorem own_d_method_4_code_54 : decode method_4_code 54 = .ok (.iconst 1, 1) := by decide +kernel
theorem own_d_method_4_code_55 : decode method_4_code 55 = .ok (.iadd, 1) := by decide +kernel
theorem own_d_method_4_code_56 : decode method_4_code 56 = .ok (.invokevirtual 30, 3) := by decide +kernel
theorem own_d_method_4_code_59 : decode method_4_code 59 = .ok (.ireturn, 1) := by decide +kernel
theorem own_d_method_4_code_60 : decode method_4_code 60 = .ok (.iload_n 2, 1) := by decide +kernel
theorem own_d_method_4_code_61 : decode method_4_code 61 = .ok (.iconst 5, 1) := by decide +kernel
theorem own_d_method_4_code_62 : decode method_4_code 62 = .ok (.if_icmp .ne 22, 3) := by decide +kernel
theorem own_d_method_4_code_65 : decode method_4_code 65 = .ok (.iload 5, 2) := by decide +kernel
theorem own_d_method_4_code_67 : decode method_4_code 67 = .ok (.ifCond .ne 8, 3) := by decide +kernel
theorem own_d_method_4_code_70 : decode method_4_code 70 = .ok (.iload 4, 2) := by decide +kernel
theorem own_d_method_4_code_72 : decode method_4_code 72 = .ok (.goto 11, 3) := by decide +kernel
theorem own_d_method_4_code_83 : decode method_4_code 83 = .ok (.ireturn, 1) := by decide +kernel
theorem own_d_method_4_code_75 : decode method_4_code 75 = .ok (.aload_n 0, 1) := by decide +kernel
theorem own_d_method_4_code_76 : decode method_4_code 76 = .ok (.iload 5, 2) := by decide +kernel
theorem own_d_method_4_code_78 : decode method_4_code 78 = .ok (.iconst 1, 1) := by decide +kernel
theorem own_d_method_4_code_79 : decode method_4_code 79 = .ok (.isub, 1) := by decide +kernel
theorem own_d_method_4_code_80 : decode method_4_code 80 = .ok (.invokevirtual 30, 3) := by decide +kernel
theorem own_d_method_4_code_84 : decode method_4_code 84 = .ok (.iload_n 2, 1) := by decide +kernel
theorem own_d_method_4_code_85 : decode method_4_code 85 = .ok (.bipush 6, 2) := by decide +kernel
theorem own_d_method_4_code_87 : decode method_4_code 87 = .ok (.if_icmp .ne 6, 3) := by decide +kernel
theorem own_d_method_4_code_90 : decode method_4_code 90 = .ok (.iload 4, 2) := by decide +kernel
theorem own_d_method_4_code_92 : decode method_4_code 92 = .ok (.ireturn, 1) := by decide +kernel
theorem own_d_method_4_code_93 : decode method_4_code 93 = .ok (.aload_n 0, 1) := by decide +kernel
theorem own_d_method_4_code_94 : decode method_4_code 94 = .ok (.iload 5, 2) := by decide +kernel
theorem own_d_method_4_code_96 : decode method_4_code 96 = .ok (.invokevirtual 30, 3) := by decide +kernel
theorem own_d_method_4_code_99 : decode method_4_code 99 = .ok (.ireturn, 1) := by decide +kernel
theorem own_d_prog_11_method_1_code_0 : decode prog_11_method_1_code 0 = .ok (.getstatic 16, 3) := by decide +kernel
theorem own_d_prog_11_method_1_code_3 : decode prog_11_method_1_code 3 = .ok (.invokevirtual 20, 3) := by decide +kernel
theorem own_d_prog_11_method_1_code_6 : decode prog_11_method_1_code 6 = .ok (.checkcast 21, 3) := by decide +kernel
theorem own_d_prog_11_method_1_code_9 : decode prog_11_method_1_code 9 = .ok (.areturn, 1) := by decide +kernel
theorem own_d_prog_11_method_8_code_0 : decode prog_11_method_8_code 0 = .ok (.invokestatic 46, 3) := by decide +kernel
theorem own_d_prog_11_method_8_code_3 : decode prog_11_method_8_code 3 = .ok (.astore_n 1, 1) := by decide +kernel
theorem own_d_prog_11_method_8_code_4 : decode prog_11_method_8_code 4 = .ok (.aload_n 1, 1) := by decide +kernel
theorem own_d_prog_11_method_8_code_5 : decode prog_11_method_8_code 5 = .ok (.arraylength, 1) := by decide +kernel
theorem own_d_prog_11_method_8_code_6 : decode prog_11_method_8_code 6 = .ok (.istore_n 2, 1) := by decide +kernel
theorem own_d_prog_11_method_8_code_7 : decode prog_11_method_8_code 7 = .ok (.iconst 0, 1) := by decide +kernel
theorem own_d_prog_11_method_8_code_8 : decode prog_11_method_8_code 8 = .ok (.istore_n 3, 1) := by decide +kernel
theorem own_d_prog_11_method_8_code_9 : decode prog_11_method_8_code 9 = .ok (.iload_n 3, 1) := by decide +kernel
theorem own_d_prog_11_method_8_code_10 : decode prog_11_method_8_code 10 = .ok (.iload_n 2, 1) := by decide +kernel
theorem own_d_prog_11_method_8_code_11 : decode prog_11_method_8_code 11 = .ok (.if_icmp .ge 32, 3) := by decide +kernel
theorem own_d_prog_11_method_8_code_14 : decode prog_11_method_8_code 14 = .ok (.aload_n 1, 1) := by decide +kernel
theorem own_d_prog_11_method_8_code_15 : decode prog_11_method_8_code 15 = .ok (.iload_n 3, 1) := by decide +kernel
theorem own_d_prog_11_method_8_code_16 : decode prog_11_method_8_code 16 = .ok (.aaload, 1) := by decide +kernel
theorem own_d_prog_11_method_8_code_17 : decode prog_11_method_8_code 17 = .ok (.astore 4, 2) := by decide +kernel
theorem own_d_prog_11_method_8_code_19 : decode prog_11_method_8_code 19 = .ok (.aload 4, 2) := by decide +kernel
theorem own_d_prog_11_method_8_code_21 : decode prog_11_method_8_code 21 = .ok (.getfield 35, 3) := by decide +kernel
theorem own_d_prog_11_method_8_code_24 : decode prog_11_method_8_code 24 = .ok (.aload_n 0, 1) := by decide +kernel
theorem own_d_prog_11_method_8_code_25 : decode prog_11_method_8_code 25 = .ok (.invokevirtual 60, 3) := by decide +kernel
theorem own_d_prog_11_method_8_code_28 : decode prog_11_method_8_code 28 = .ok (.ifCond .eq 9, 3) := by decide +kernel
theorem own_d_prog_11_method_8_code_37 : decode prog_11_method_8_code 37 = .ok (.iinc 3 1, 3) := by decide +kernel
theorem own_d_prog_11_method_8_code_40 : decode prog_11_method_8_code 40 = .ok (.goto (-31), 3) := by decide +kernel
theorem own_d_prog_11_method_8_code_43 : decode prog_11_method_8_code 43 = .ok (.invokestatic 56, 3) := by decide +kernel
theorem own_d_prog_11_method_8_code_46 : decode prog_11_method_8_code 46 = .ok (.areturn, 1) := by decide +kernel
theorem own_d_prog_11_method_8_code_31 : decode prog_11_method_8_code 31 = .ok (.aload 4, 2) := by decide +kernel
theorem own_d_prog_11_method_8_code_33 : decode prog_11_method_8_code 33 = .ok (.invokestatic 50, 3) := by decide +kernel
theorem own_d_prog_11_method_8_code_36 : decode prog_11_method_8_code 36 = .ok (.areturn, 1) := by decide +kernel
theorem own_d_jdk_42_method_149_code_0 : decode jdk_42_method_149_code 0 = .ok (.aload_n 0, 1) := by decide +kernel
theorem own_d_jdk_42_method_149_code_1 : decode jdk_42_method_149_code 1 = .ok (.invokespecial 1, 3) := by decide +kernel
theorem own_d_jdk_42_method_149_code_4 : decode jdk_42_method_149_code 4 = .ok (.iload_n 3, 1) := by decide +kernel
theorem own_d_jdk_42_method_149_code_5 : decode jdk_42_method_149_code 5 = .ok (.ifCond .ne 22, 3) := by decide +kernel
theorem own_d_jdk_42_method_149_code_8 : decode jdk_42_method_149_code 8 = .ok (.aload_n 0, 1) := by decide +kernel
theorem own_d_jdk_42_method_149_code_9 : decode jdk_42_method_149_code 9 = .ok (.ldc 7, 2) := by decide +kernel
theorem own_d_jdk_42_method_149_code_11 : decode jdk_42_method_149_code 11 = .ok (.getfield 9, 3) := by decide +kernel
theorem own_d_jdk_42_method_149_code_14 : decode jdk_42_method_149_code 14 = .ok (.putfield 9, 3) := by decide +kernel
theorem own_d_jdk_42_method_149_code_17 : decode jdk_42_method_149_code 17 = .ok (.aload_n 0, 1) := by decide +kernel
theorem own_d_jdk_42_method_149_code_18 : decode jdk_42_method_149_code 18 = .ok (.ldc 7, 2) := by decide +kernel
theorem own_d_jdk_42_method_149_code_20 : decode jdk_42_method_149_code 20 = .ok (.getfield 15, 3) := by decide +kernel
theorem own_d_jdk_42_method_149_code_23 : decode jdk_42_method_149_code 23 = .ok (.putfield 15, 3) := by decide +kernel
theorem own_d_jdk_42_method_149_code_26 : decode jdk_42_method_149_code 26 = .ok (.return_, 1) := by decide +kernel
theorem own_d_jdk_42_method_3_code_0 : decode jdk_42_method_3_code 0 = .ok (.aload_n 0, 1) := by decide +kernel
theorem own_d_jdk_42_method_3_code_1 : decode jdk_42_method_3_code 1 = .ok (.aload_n 1, 1) := by decide +kernel
theorem own_d_jdk_42_method_3_code_2 : decode jdk_42_method_3_code 2 = .ok (.iconst 0, 1) := by decide +kernel
theorem own_d_jdk_42_method_3_code_3 : decode jdk_42_method_3_code 3 = .ok (.aload_n 1, 1) := by decide +kernel
theorem own_d_jdk_42_method_3_code_4 : decode jdk_42_method_3_code 4 = .ok (.arraylength, 1) := by decide +kernel
theorem own_d_jdk_42_method_3_code_5 : decode jdk_42_method_3_code 5 = .ok (.aconst_null, 1) := by decide +kernel
theorem own_d_jdk_42_method_3_code_6 : decode jdk_42_method_3_code 6 = .ok (.invokespecial 27, 3) := by decide +kernel
theorem own_d_jdk_42_method_3_code_9 : decode jdk_42_method_3_code 9 = .ok (.return_, 1) := by decide +kernel
theorem own_d_jdk_32_method_2_code_0 : decode jdk_32_method_2_code 0 = .ok (.aload_n 0, 1) := by decide +kernel
theorem own_d_jdk_32_method_2_code_1 : decode jdk_32_method_2_code 1 = .ok (.invokespecial 7, 3) := by decide +kernel
theorem own_d_jdk_32_method_2_code_4 : decode jdk_32_method_2_code 4 = .ok (.aload_n 0, 1) := by decide +kernel
theorem own_d_jdk_32_method_2_code_5 : decode jdk_32_method_2_code 5 = .ok (.aload_n 1, 1) := by decide +kernel
theorem own_d_jdk_32_method_2_code_6 : decode jdk_32_method_2_code 6 = .ok (.putfield 13, 3) := by decide +kernel
theorem own_d_jdk_32_method_2_code_9 : decode jdk_32_method_2_code 9 = .ok (.return_, 1) := by decide +kernel
theorem own_d_jdk_31_method_10_code_0 : decode jdk_31_method_10_code 0 = .ok (.aload_n 0, 1) := by decide +kernel
theorem own_d_jdk_31_method_10_code_1 : decode jdk_31_method_10_code 1 = .ok (.ifnonnull 11, 3) := by decide +kernel
theorem own_d_jdk_31_method_10_code_12 : decode jdk_31_method_10_code 12 = .ok (.aload_n 0, 1) := by decide +kernel
theorem own_d_jdk_31_method_10_code_13 : decode jdk_31_method_10_code 13 = .ok (.areturn, 1) := by decide +kernel
theorem own_d_jdk_32_method_3_code_0 : decode jdk_32_method_3_code 0 = .ok (.new 2, 3) := by decide +kernel
theorem own_d_jdk_32_method_3_code_3 : decode jdk_32_method_3_code 3 = .ok (.dup, 1) := by decide +kernel
theorem own_d_jdk_32_method_3_code_4 : decode jdk_32_method_3_code 4 = .ok (.aload_n 0, 1) := by decide +kernel
theorem own_d_jdk_32_method_3_code_5 : decode jdk_32_method_3_code 5 = .ok (.invokestatic 17, 3) := by decide +kernel
theorem own_d_jdk_32_method_3_code_8 : decode jdk_32_method_3_code 8 = .ok (.invokespecial 23, 3) := by decide +kernel
theorem own_d_jdk_32_method_3_code_11 : decode jdk_32_method_3_code 11 = .ok (.areturn, 1) := by decide +kernel
theorem own_d_jdk_32_method_1_code_0 : decode jdk_32_method_1_code 0 = .ok (.getstatic 1, 3) := by decide +kernel
theorem own_d_jdk_32_method_1_code_3 : decode jdk_32_method_1_code 3 = .ok (.astore_n 0, 1) := by decide +kernel
theorem own_d_jdk_32_method_1_code_4 : decode jdk_32_method_1_code 4 = .ok (.aload_n 0, 1) := by decide +kernel
theorem own_d_jdk_32_method_1_code_5 : decode jdk_32_method_1_code 5 = .ok (.areturn, 1) := by decide +kernel
theorem own_d_jdk_32_method_15_code_0 : decode jdk_32_method_15_code 0 = .ok (.aload_n 0, 1) := by decide +kernel
theorem own_d_jdk_32_method_15_code_1 : decode jdk_32_method_15_code 1 = .ok (.getfield 13, 3) := by decide +kernel
theorem own_d_jdk_32_method_15_code_4 : decode jdk_32_method_15_code 4 = .ok (.ifnull 10, 3) := by decide +kernel
theorem own_d_jdk_32_method_15_code_14 : decode jdk_32_method_15_code 14 = .ok (.aload_n 1, 1) := by decide +kernel
theorem own_d_jdk_32_method_15_code_15 : decode jdk_32_method_15_code 15 = .ok (.areturn, 1) := by decide +kernel
theorem own_d_jdk_32_method_15_code_7 : decode jdk_32_method_15_code 7 = .ok (.aload_n 0, 1) := by decide +kernel
theorem own_d_jdk_32_method_15_code_8 : decode jdk_32_method_15_code 8 = .ok (.getfield 13, 3) := by decide +kernel
theorem own_d_jdk_32_method_15_code_11 : decode jdk_32_method_15_code 11 = .ok (.goto 4, 3) := by decide +kernel
theorem own_hEL {Z : State} {a0 : Array Value} (hw : ∀ d ∈ tables_1, d.before a0 Z = true) : EW Z a0 consts_1 := (EW.cons (hw _ (List.mem_of_getElem? (i := 4) rfl)) (by decide) (EW.cons (hw _ (List.mem_of_getElem? (i := 122) rfl)) (by decide) (EW.cons (hw _ (List.mem_of_getElem? (i := 121) rfl)) (by decide) (EW.cons (hw _ (List.mem_of_getElem? (i := 119) rfl)) (by decide) (EW.cons (hw _ (List.mem_of_getElem? (i := 120) rfl)) (by decide) EW.nil)))))
theorem own_wS {Z : State} {a0 : Array Value} (hw : ∀ d ∈ tables_1, d.before a0 Z = true) : ∀ a ∈ Bundle.stringAtoms, a.before a0 Z = true := fun a ha => hw a ((by decide +kernel : ∀ a ∈ Bundle.stringAtoms, a ∈ tables_1) a ha)

section OwnS
variable {p : Program} {l : Launch} {e : Env} {R : Room} {s : State} {args : Array Value} {below : List Frame} {Z : State} {a0 : Array Value} {h h1 h2 : Heap} {EL : List (String × Nat)} {vm : Vm}
theorem own_ext_refl (h : Heap) : Ext h h := ⟨Nat.le_refl _, fun _ _ q => q⟩
theorem own_ext_trans (E : Ext h h1) (F : Ext h1 h2) : Ext h h2 := ⟨Nat.le_trans E.1 F.1, fun a c q => F.2 a c (E.2 a c q)⟩
theorem own_ext_keep {ws : List Addr} (E : Ext h h1) (K : Keep h1 h2 ws) (q : ∀ x ∈ ws, h.size ≤ x) : Ext h h2 := ⟨Nat.le_trans E.1 K.1, fun a c r => K.2.1 a c (E.2 a c r) fun z => absurd (Array.getElem?_eq_some_iff.mp r).1 (Nat.not_lt.mpr (q a z))⟩
theorem own_ext_wr {a : Addr} {sl : Nat} {v : Value} (E : Ext h h1) (W : Wr h1 h2 a sl v) (q : h.size ≤ a) : Ext h h2 := own_ext_keep E (Keep.of_wr W) (allS q all0)
theorem own_keep_ext (E : Ext h h1) (ws : List Addr) : Keep h h1 ws := (Keep.refl h ws).ext E
/-- the String x says cs -/
def OStr (Z : State) (h : Heap) (x : Addr) (cs : List Int32) : Prop :=
  ∃ (t : Addr) (kb : ClassId) (cd N2 : Int32) (vs : List Value), Exa Z h x "java/lang/String" ∧ Fld Z h x "java/lang/String" "value" "[B" (.ref t) ∧ Fld Z h x "java/lang/String" "coder" "B" (.int cd) ∧ Arv Z h t kb .byte N2 vs (.int 0) ∧
    StrChars.Road.CodA cs cd N2 vs ∧ (∀ c ∈ cs, ¬ c < 0 ∧ ¬ (65535 : Int32) < c) ∧ cs.length ≤ 4000
theorem OStr.ext {x : Addr} {cs : List Int32} (F : OStr Z h x cs) (E : Ext h h1) : OStr Z h1 x cs := by
  obtain ⟨t, kb, cd, N2, vs, a, b, c, d, r⟩ := F
  exact ⟨t, kb, cd, N2, vs, a.ext E, b.ext E, c.ext E, d.ext E, r⟩
theorem OStr.exa {x : Addr} {cs : List Int32} (F : OStr Z h x cs) : Exa Z h x "java/lang/String" := by obtain ⟨t, kb, cd, N2, vs, a, r⟩ := F; exact a
theorem OStr.lt {x : Addr} {cs : List Int32} (F : OStr Z h x cs) : x < h.size := F.exa.lt
/-- a value that is null or a String -/
def OSv (Z : State) (h : Heap) (v : Value) (o : Option (List Int32)) : Prop := (v = .null ∧ o = none) ∨ ∃ x cs, v = .ref x ∧ o = some cs ∧ OStr Z h x cs
theorem OSv.ext {v : Value} {o : Option (List Int32)} (F : OSv Z h v o) (E : Ext h h1) : OSv Z h1 v o := by
  rcases F with q | ⟨x, cs, q1, q2, q3⟩
  · exact Or.inl q
  · exact Or.inr ⟨x, cs, q1, q2, q3.ext E⟩
theorem OSv.isRef {v : Value} {o : Option (List Int32)} (F : OSv Z h v o) : v.isRef = true := by
  rcases F with ⟨rfl, -⟩ | ⟨x, cs, rfl, -⟩ <;> rfl
/-- two that were made one after the other -/
theorem OSv.sep {v w : Value} {o o' : Option (List Int32)} (F : OSv Z h v o) (G : OSv Z h1 w o') (q : ∀ y, w = .ref y → h.size ≤ y) : v = w → o = o' := by
  intro e
  subst e
  rcases F with ⟨rfl, rfl⟩ | ⟨x, cs, rfl, rfl, F⟩
  · rcases G with ⟨-, rfl⟩ | ⟨y, ds, q1, -⟩
    · rfl
    · cases q1
  · exact absurd F.lt (Nat.not_lt.mpr (q x rfl))
/-- a String under construction, its 'value' not yet written, is no booked one -/
theorem own_safe_null {x : Addr} (hal : Z.vm.Alike vm) (E : Exa Z h x "java/lang/String") (F : Fld Z h x "java/lang/String" "value" "[B" .null) : Safe Z EL vm h x := fun B => by
  obtain ⟨cell, cf, k, i, f, e1, e2, -, -, -, -, e7⟩ := F
  obtain ⟨p, -, u, a, -, q, -, G, rfl | rfl⟩ := B
  · cases (show h[q.sa]? = some q.sC from G.ha).symm.trans e1
    obtain ⟨cS, ⟨⟨-, -, -, ⟨c1, k1, i1, f1, -⟩, -, -, -, v1, -⟩, -⟩, -⟩ := G
    obtain ⟨k3, e3, -⟩ := State.fieldFound?_setVm (s := Z) hal e2
    have e4 := (show (Wst Z vm h).fieldFound? _ _ _ = _ from e3).symm.trans f1
    simp only [Option.some.injEq, Prod.mk.injEq] at e4
    rw [← e4.2.2.2, e7] at v1
    cases v1
  · cases (show h[q.sd]? = some q.SA from G.hd).symm.trans e1
    obtain ⟨cell2, k2, g1, g2, -⟩ := E
    cases e1.symm.trans g1
    obtain ⟨cS, -, -, fb, -⟩ := G
    have fb' : vm.findClass "[B" = some q.SA.cls := fb
    rw [hal.findClass] at fb'
    exact ids_ne fb' g2 (by decide) rfl
/-- a class with no road to another -/
theorem own_notCast {C O K : String} {n : Nat} (w : (Jvm.Cond.superclass C O).before a0 Z = true) (w0 : (Jvm.Cond.noSuperclass O).before a0 Z = true) (wk : (Jvm.Cond.instantiable K n).before a0 Z = true) (h1 : C ≠ K) (h2 : O ≠ K) : ∃ c t, Z.vm.findClass C = some c ∧ Z.vm.findClass K = some t ∧ Z.vm.assignable c t = false := by
  obtain ⟨co, ko, o1, o2, o3, -, -⟩ := Cond.noSuperclass_spec w0
  obtain ⟨t, kt, t1, t2, t3, t4, -, -⟩ := Cond.instantiable_spec wk
  obtain ⟨c, c0⟩ := found_sup w
  obtain ⟨pp, k, kp, c1, c2, c3, c4, c5, c6, c7⟩ := Cond.superclass_spec c0 w
  cases o1.symm.trans c1
  have n1 := ids_ne c0 t1 h1
  have n2 := ids_ne o1 t1 h2
  have hi : kt.isInterface = false := by simp only [Bool.or_eq_false_iff] at t4; exact t4.1
  have hs : ∀ fuel, Z.vm.isSubclassAux fuel co t = false := fun fuel => by
    cases fuel with
    | zero => rfl
    | succ f => simp [Vm.isSubclassAux, n2, o2, o3]
  have hc : ∀ fuel, Z.vm.isSubclassAux fuel c t = false := fun fuel => by
    cases fuel with
    | zero => rfl
    | succ f => simp [Vm.isSubclassAux, n1, c2, c4, hs]
  refine ⟨c, t, c0, t1, ?_⟩
  show Z.vm.assignableAux (255 + 1) c t = false
  simp [Vm.assignableAux, n1, c2, t2, c5, t3, hi, Vm.isSubclass, hc]
/-- equals of two Strings -/
theorem own_seq {len W : Nat} (hZ : Z.Warmed39 s.vm) (hw : ∀ d ∈ StrChars.Road.wordsEq, d.before a0 Z = true) {kI : Nat} (wi : (Jvm.Cond.instantiable "java/lang/String" kI).before a0 Z = true) {x y : Addr} {cs ds : List Int32} (F : OStr Z h x cs) (G : OStr Z h y ds)
    {z : Int32} (S : Sta Z h "java/lang/String" "COMPACT_STRINGS" "Z" (.int z)) (hz : ¬ z = 0) (n0 : Nat) (hfr : 2 ≤ R.frames) (hlo : W + 28 ≤ R.locals) :
    OBack l R p e below s args (⟨"java/lang/String", "equals", "(Ljava/lang/Object;)Z"⟩ : MethodName) len W #[.ref x, .ref y] h 0 0 (fun v h' L => v = some (.int (if cs = ds then 1 else 0)) ∧ Fr n0 L ∧ h' = h) := by
  obtain ⟨t, kb, cd, N2, vs, a1, a2, a3, a4, a5, a6, a7⟩ := F
  obtain ⟨t', kb', cd', N2', vs', b1, b2, b3, b4, b5, b6, b7⟩ := G
  refine Back.mono (StrChars.Road.eqW hZ hw wi a1 a2 a3 a4 a5 a6 a7 b1 b2 b3 b4 b5 b6 b7 S hz hfr hlo) (fun P a hp => hp) (fun P a v B hp hq => ?_)
  obtain ⟨L, ⟨q1, rfl, q3⟩, hl, hc, hs⟩ := hq
  refine ⟨[], ⟨?_, Fr.nil n0, q3⟩, hl, hc, hs⟩
  rcases q1 with ⟨q, r⟩ | ⟨q, r⟩
  · rw [q, if_pos r]
  · rw [q, if_neg r]
end OwnS
theorem own_ch255 (x : Int32) : ¬ nar .char ((x &&& (255 : Int32)).toUInt32.toUInt16.toUInt32.toInt32) < 0 ∧ ¬ (255 : Int32) < nar .char ((x &&& (255 : Int32)).toUInt32.toUInt16.toUInt32.toInt32) := by
  have t : ∀ k : Fin 256, ¬ nar .char ((Int32.ofNat k.val).toUInt32.toUInt16.toUInt32.toInt32) < 0 ∧ ¬ (255 : Int32) < nar .char ((Int32.ofNat k.val).toUInt32.toUInt16.toUInt32.toInt32) := by decide +kernel
  have h : (x &&& 255).toBitVec.toNat < 256 := by
    simp only [Int32.toBitVec_and, BitVec.toNat_and]
    exact Nat.lt_succ_of_le Nat.and_le_right
  have e : (x &&& 255) = Int32.ofNat (x &&& 255).toBitVec.toNat := by
    apply Int32.toBitVec_inj.mp
    show _ = BitVec.ofNat 32 _
    rw [BitVec.ofNat_toNat]; simp
  rw [e]
  exact t ⟨_, h⟩
theorem own_up (cs : List Int32) (h : ∀ c ∈ cs, ¬ c < 0 ∧ ¬ (255 : Int32) < c) : ∀ c ∈ cs, ¬ c < 0 ∧ ¬ (65535 : Int32) < c := fun c hc => ⟨(h c hc).1, fun q => (h c hc).2 (Int32.lt_trans (by decide : (255 : Int32) < 65535) q)⟩
theorem own_all0 {P : Int32 → Prop} : ∀ c ∈ ([] : List Int32), P c := fun _ q => nomatch q
theorem own_allS {P : Int32 → Prop} {x : Int32} {cs : List Int32} (a : P x) (r : ∀ c ∈ cs, P c) : ∀ c ∈ x :: cs, P c := fun c q => by
  cases q with
  | head => exact a
  | tail _ q => exact r c q
theorem own_narC {c : Int32} (h : ¬ c < 0 ∧ ¬ (255 : Int32) < c) : nar .char c = c := by
  have t : ∀ k : Fin 256, nar .char (Int32.ofNat k.val) = Int32.ofNat k.val := by decide +kernel
  have h0 : 0 ≤ c.toInt := by have := h.1; rw [Int32.lt_iff_toInt_lt] at this; have z : (0 : Int32).toInt = 0 := rfl; omega
  have h1 : c.toInt ≤ 255 := by have := h.2; rw [Int32.lt_iff_toInt_lt] at this; have z : (255 : Int32).toInt = 255 := rfl; omega
  have e : c = Int32.ofNat c.toInt.toNat := Int32.toInt_inj.mp (by rw [Int32.toInt_ofNat_of_lt (by omega)]; omega)
  rw [e]
  exact t ⟨c.toInt.toNat, by omega⟩
theorem own_nc {c : Int32} (h : ¬ c < 0 ∧ ¬ (255 : Int32) < c) : ¬ nar .char c < 0 ∧ ¬ (255 : Int32) < nar .char c := by rw [own_narC h]; exact h
theorem own_narb (x : Int32) : nar .byte x.toInt8.toInt32 = x.toInt8.toInt32 := by show x.toInt8.toInt32.toInt8.toInt32 = _; simp
theorem own_chL (x : Int64) : ¬ nar .char ((x &&& (255 : Int64)).toInt32.toUInt32.toUInt16.toUInt32.toInt32) < 0 ∧ ¬ (255 : Int32) < nar .char ((x &&& (255 : Int64)).toInt32.toUInt32.toUInt16.toUInt32.toInt32) := by
  have t : ∀ k : Fin 256, ¬ nar .char ((Int64.ofNat k.val).toInt32.toUInt32.toUInt16.toUInt32.toInt32) < 0 ∧ ¬ (255 : Int32) < nar .char ((Int64.ofNat k.val).toInt32.toUInt32.toUInt16.toUInt32.toInt32) := by decide +kernel
  have h : (x &&& 255).toBitVec.toNat < 256 := by
    simp only [Int64.toBitVec_and, BitVec.toNat_and]
    exact Nat.lt_succ_of_le Nat.and_le_right
  have e : (x &&& 255) = Int64.ofNat (x &&& 255).toBitVec.toNat := by
    apply Int64.toBitVec_inj.mp
    show _ = BitVec.ofNat 64 _
    rw [BitVec.ofNat_toNat]; simp
  rw [e]
  exact t ⟨_, h⟩


theorem own_chN {p : Program} {l : Launch} {e : Env} {R : Room} {s : State} {args : Array Value} {below : List Frame} {len W : Nat} {Z : State} {a0 : Array Value} {h : Heap} (hZ : Z.Warmed39 s.vm) (hw : ∀ d ∈ StrChars.Road.wordsChN, d.before a0 Z = true) {kI : Nat} (wi : (Jvm.Cond.instantiable "java/lang/String" kI).before a0 Z = true)
    {x t : Addr} {kb : ClassId} {cs : List Int32} {N2 z : Int32} {vs : List Value} {fm : Value} {i : Nat} (E : Exa Z h x "java/lang/String") (V : Fld Z h x "java/lang/String" "value" "[B" (.ref t)) (C : Fld Z h x "java/lang/String" "coder" "B" (.int 0)) (K : Arv Z h t kb .byte N2 vs (.int 0)) (hc : StrChars.Road.CodA cs 0 N2 vs) (hb : ∀ c ∈ cs, ¬ c < 0 ∧ ¬ (65535 : Int32) < c)
    (S : Sta Z h "java/lang/String" "COMPACT_STRINGS" "Z" (.int z)) (hz : ¬ z = 0) (F : Sta Z h "jdk/internal/util/Preconditions" "SIOOBE_FORMATTER" "Ljava/util/function/BiFunction;" fm) (rf : fm.isRef = true) (l2 : cs.length ≤ 4000) (hi : i < cs.length) (n0 : Nat) (hfr : 4 ≤ R.frames) (hlo : W + 53 ≤ R.locals) :
    OBack l R p e below s args (⟨"java/lang/String", "charAt", "(I)C"⟩ : MethodName) len W #[.ref x, .int (Int32.ofNat i)] h 0 0 (fun v h' L => v = some (.int (cs.getD i 0)) ∧ Fr n0 L ∧ h' = h) := by
  refine Back.mono (StrChars.Road.chN hZ hw wi E V C K hc hb S hz F rf l2 hi rfl hfr hlo) (fun P a hp => hp) (fun P a v B hp hq => ?_)
  obtain ⟨L, ⟨q1, rfl, q3⟩, hl, hc, hs⟩ := hq
  exact ⟨[], ⟨q1, Fr.nil n0, q3⟩, hl, hc, hs⟩


theorem own_slen {p : Program} {l : Launch} {e : Env} {R : Room} {s : State} {args : Array Value} {below : List Frame} {len W : Nat} {Z : State} {a0 : Array Value} {h : Heap} (hZ : Z.Warmed39 s.vm) (hw : ∀ d ∈ StrChars.Road.wordsLen, d.before a0 Z = true) {kI : Nat} (wi : (Jvm.Cond.instantiable "java/lang/String" kI).before a0 Z = true)
    {x : Addr} {cs : List Int32} {z : Int32} (F : OStr Z h x cs) (S : Sta Z h "java/lang/String" "COMPACT_STRINGS" "Z" (.int z)) (hz : ¬ z = 0) (n0 : Nat) (hfr : 2 ≤ R.frames) (hlo : W + 25 ≤ R.locals) :
    OBack l R p e below s args (⟨"java/lang/String", "length", "()I"⟩ : MethodName) len W #[.ref x] h 0 0 (fun v h' L => v = some (.int (Int32.ofNat cs.length)) ∧ Fr n0 L ∧ h' = h) := by
  obtain ⟨t, kb, cd, N2, vs, a1, a2, a3, a4, a5, a6, a7⟩ := F
  refine Back.mono (StrChars.Road.lenW hZ hw wi a1 a2 a3 a4 a5 a6 S hz a7 hfr hlo) (fun P a hp => hp) (fun P a v B hp hq => ?_)
  obtain ⟨L, ⟨q1, rfl, q3⟩, hl, hc, hs⟩ := hq
  exact ⟨[], ⟨q1, Fr.nil n0, q3⟩, hl, hc, hs⟩


theorem own_if0 {q : Prop} [Decidable q] (h : (if q then (1 : Int32) else 0) = 0) : ¬ q := fun z => by rw [if_pos z] at h; exact absurd h (by decide)
theorem own_if1 {q : Prop} [Decidable q] (h : ¬ (if q then (1 : Int32) else 0) = 0) : q := by
  by_cases z : q
  · exact z
  · exact absurd (if_neg z) h
theorem own_narB {q : Prop} [Decidable q] : nar .boolean (if q then (1 : Int32) else 0) = if q then (1 : Int32) else 0 := by split <;> rfl
theorem own_nar1 : nar .boolean (1 : Int32) = 1 := by decide
theorem own_nar0 : nar .boolean (0 : Int32) = 0 := by decide

def own_lit (k : Int32) : List Int32 := if k = 0 then [65, 100, 109, 105, 110] else if k = 1 then [82, 101, 115, 111, 117, 114, 99, 101, 65, 100, 109, 105, 110] else if k = 2 then [68, 111, 109, 97, 105, 110, 65, 100, 109, 105, 110] else [85, 115, 101, 114]
def own_ty (k : Int32) (r0 r1 r2 r3 : Addr) : Addr := if k = 0 then r0 else if k = 1 then r1 else if k = 2 then r2 else r3
def own_T (sl : List Int32) (m : Int32) (i0 : Nat) (ch : Int32) : List Int32 := if m = 1 then sl.set i0 ch else if m = 3 then sl ++ [ch] else if m = 4 then sl.drop 1 else if m = 5 then ch :: sl else if m = 6 then [ch] else if m = 0 then sl else if m = 2 then sl.dropLast else []
def own_of (o : List Int32) (r0 r1 r2 r3 : Addr) : Value := if [65, 100, 109, 105, 110] = o then .ref r0 else if [82, 101, 115, 111, 117, 114, 99, 101, 65, 100, 109, 105, 110] = o then .ref r1 else if [68, 111, 109, 97, 105, 110, 65, 100, 109, 105, 110] = o then .ref r2 else if [85, 115, 101, 114] = o then .ref r3 else .null
theorem own_lit_cases (k : Int32) : own_lit k = [65, 100, 109, 105, 110] ∨ own_lit k = [82, 101, 115, 111, 117, 114, 99, 101, 65, 100, 109, 105, 110] ∨ own_lit k = [68, 111, 109, 97, 105, 110, 65, 100, 109, 105, 110] ∨ own_lit k = [85, 115, 101, 114] := by
  unfold own_lit
  by_cases h0 : k = 0
  · rw [if_pos h0]; exact Or.inl rfl
  rw [if_neg h0]
  by_cases h1 : k = 1
  · rw [if_pos h1]; exact Or.inr (Or.inl rfl)
  rw [if_neg h1]
  by_cases h2 : k = 2
  · rw [if_pos h2]; exact Or.inr (Or.inr (Or.inl rfl))
  rw [if_neg h2]; exact Or.inr (Or.inr (Or.inr rfl))
theorem own_lit_ok (k : Int32) : 4 ≤ (own_lit k).length ∧ (own_lit k).length ≤ 13 ∧ ∀ c ∈ own_lit k, ¬ c < 0 ∧ ¬ (255 : Int32) < c := by
  rcases own_lit_cases k with h | h | h | h <;> rw [h] <;> decide
theorem own_i0 (x : Int32) (n : Nat) (h : 4 ≤ n) (h' : n ≤ 13) : ∃ i, i < n ∧ (x &&& (2147483647 : Int32)) % Int32.ofNat n = Int32.ofNat i := by
  have e1 : (x &&& (2147483647 : Int32)).toInt = x.toInt % 2 ^ 31 := Jvm.Kit.i32_mask x 2147483647 (k := 31) (by decide) (by decide)
  have e3 : (Int32.ofNat n).toInt = n := Int32.toInt_ofNat_of_lt (by omega)
  have e2 : ((x &&& (2147483647 : Int32)) % Int32.ofNat n).toInt = (x &&& (2147483647 : Int32)).toInt % (n : Int) := by
    rw [Int32.toInt_mod, e3]; exact Int.tmod_eq_emod_of_nonneg (by omega)
  have b1 := Int.emod_nonneg (x &&& (2147483647 : Int32)).toInt (show (n : Int) ≠ 0 by omega)
  have b2 := Int.emod_lt_of_pos (x &&& (2147483647 : Int32)).toInt (show (0 : Int) < (n : Int) by omega)
  refine ⟨((x &&& (2147483647 : Int32)).toInt % (n : Int)).toNat, by omega, Int32.toInt_inj.mp ?_⟩
  rw [e2, Int32.toInt_ofNat_of_lt (by omega)]; omega
theorem own_ne0 : ∀ n : Nat, n ≤ 13 → 4 ≤ n → Int32.ofNat n ≠ 0 := by decide
theorem own_sub1 : ∀ n : Nat, n ≤ 13 → 1 ≤ n → Int32.ofNat n - 1 = Int32.ofNat (n - 1) := by decide
theorem own_add1 : ∀ n : Nat, n ≤ 13 → Int32.ofNat n + 1 = Int32.ofNat (n + 1) := by decide
theorem own_eqn : ∀ n : Nat, n ≤ 13 → ∀ i : Nat, i ≤ 13 → Int32.ofNat n = Int32.ofNat i → n = i := by decide
theorem own_lt14 : ∀ i : Nat, i ≤ 13 → ∀ n : Nat, n ≤ 14 → Int32.ofNat i < Int32.ofNat n → i < n := by decide
theorem own_nlt14 : ∀ i : Nat, i ≤ 13 → ∀ n : Nat, n ≤ 14 → n ≤ i → ¬ Int32.ofNat i < Int32.ofNat n := by decide
theorem own_nge14 : ∀ i : Nat, i ≤ 13 → ∀ n : Nat, n ≤ 14 → ¬ Int32.ofNat i < Int32.ofNat n → n ≤ i := by decide
theorem own_pos14 : ∀ n : Nat, n ≤ 14 → ¬ Int32.ofNat n < 0 := by decide
theorem own_cap14 : ∀ n : Nat, n ≤ 14 → (Int32.ofNat n).toNatClampNeg ≤ 14 := by decide
theorem own_mem {sl : List Int32} {k : Nat} (h : k < sl.length) : sl.getD k 0 ∈ sl := by
  rw [List.getD_eq_getElem?_getD, List.getElem?_eq_getElem h]; exact List.getElem_mem h
theorem own_T_ok {sl : List Int32} {m : Int32} {i0 : Nat} {ch : Int32} (hb : ∀ c ∈ sl, ¬ c < 0 ∧ ¬ (255 : Int32) < c) (hc : ¬ ch < 0 ∧ ¬ (255 : Int32) < ch) (h1 : 4 ≤ sl.length) (h2 : sl.length ≤ 13) : (own_T sl m i0 ch).length ≤ 14 ∧ ∀ c ∈ own_T sl m i0 ch, ¬ c < 0 ∧ ¬ (255 : Int32) < c := by
  unfold own_T
  split
  · exact ⟨by rw [List.length_set]; omega, fun c q => by rcases List.mem_or_eq_of_mem_set q with z | rfl; exact hb c z; exact hc⟩
  split
  · exact ⟨by simp; omega, fun c q => by rcases List.mem_append.mp q with z | z; exact hb c z; cases List.mem_singleton.mp z; exact hc⟩
  split
  · exact ⟨by rw [List.length_drop]; omega, fun c q => hb c (List.mem_of_mem_drop q)⟩
  split
  · exact ⟨by simp; omega, fun c q => by rcases List.mem_cons.mp q with rfl | z; exact hc; exact hb c z⟩
  split
  · exact ⟨by simp, fun c q => by cases List.mem_singleton.mp q; exact hc⟩
  split
  · exact ⟨by omega, hb⟩
  split
  · exact ⟨by rw [List.length_dropLast]; omega, fun c q => hb c ((List.dropLast_sublist _).subset q)⟩
  · exact ⟨by simp, fun c q => nomatch q⟩
theorem own_T1 {sl : List Int32} {m : Int32} {i0 : Nat} {ch : Int32} {k : Nat} (h : m = 1) (hk : k < (own_T sl m i0 ch).length) : k < sl.length ∧ (k = i0 → (own_T sl m i0 ch).getD k 0 = ch) ∧ (k ≠ i0 → (own_T sl m i0 ch).getD k 0 = sl.getD k 0) := by
  have e : own_T sl m i0 ch = sl.set i0 ch := by rw [own_T, if_pos h]
  rw [e] at hk ⊢
  rw [List.length_set] at hk
  refine ⟨hk, fun q => ?_, fun q => ?_⟩
  · subst q; simp [List.getD_eq_getElem?_getD, hk]
  · simp [List.getD_eq_getElem?_getD, List.getElem?_set, Ne.symm q]
theorem own_T3 {sl : List Int32} {m : Int32} {i0 : Nat} {ch : Int32} {k : Nat} (h : m = 3) (hk : k < (own_T sl m i0 ch).length) : (k < sl.length → (own_T sl m i0 ch).getD k 0 = sl.getD k 0) ∧ (¬ k < sl.length → (own_T sl m i0 ch).getD k 0 = ch) := by
  have e : own_T sl m i0 ch = sl ++ [ch] := by subst h; simp +decide [own_T]
  rw [e] at hk ⊢
  rw [List.length_append] at hk
  refine ⟨fun q => by simp [List.getD_eq_getElem?_getD, List.getElem?_append_left q], fun q => ?_⟩
  have : k = sl.length := by simp at hk; omega
  subst this; simp [List.getD_eq_getElem?_getD]
theorem own_T4 {sl : List Int32} {m : Int32} {i0 : Nat} {ch : Int32} {k : Nat} (h : m = 4) (hk : k < (own_T sl m i0 ch).length) : k + 1 < sl.length ∧ (own_T sl m i0 ch).getD k 0 = sl.getD (k + 1) 0 := by
  have e : own_T sl m i0 ch = sl.drop 1 := by subst h; simp +decide [own_T]
  rw [e] at hk ⊢
  rw [List.length_drop] at hk
  refine ⟨by omega, ?_⟩
  simp [List.getD_eq_getElem?_getD, List.getElem?_drop, Nat.add_comm]
theorem own_T5 {sl : List Int32} {m : Int32} {i0 : Nat} {ch : Int32} {k : Nat} (h : m = 5) (hk : k < (own_T sl m i0 ch).length) : (k = 0 → (own_T sl m i0 ch).getD k 0 = ch) ∧ (k ≠ 0 → k - 1 < sl.length ∧ (own_T sl m i0 ch).getD k 0 = sl.getD (k - 1) 0) := by
  have e : own_T sl m i0 ch = ch :: sl := by subst h; simp +decide [own_T]
  rw [e] at hk ⊢
  rw [List.length_cons] at hk
  refine ⟨fun q => by subst q; rfl, fun q => ?_⟩
  obtain ⟨j, rfl⟩ : ∃ j, k = j + 1 := ⟨k - 1, by omega⟩
  exact ⟨by omega, rfl⟩
theorem own_T6 {sl : List Int32} {m : Int32} {i0 : Nat} {ch : Int32} {k : Nat} (h : m = 6) (hk : k < (own_T sl m i0 ch).length) : (own_T sl m i0 ch).getD k 0 = ch := by
  have e : own_T sl m i0 ch = [ch] := by subst h; simp +decide [own_T]
  rw [e] at hk ⊢
  have : k = 0 := by simp at hk; exact hk
  subst this; rfl
theorem own_T0 {sl : List Int32} {m : Int32} {i0 : Nat} {ch : Int32} {k : Nat} (h1 : ¬ m = 1) (h3 : ¬ m = 3) (h4 : ¬ m = 4) (h5 : ¬ m = 5) (h6 : ¬ m = 6) (hk : k < (own_T sl m i0 ch).length) : k < sl.length ∧ (own_T sl m i0 ch).getD k 0 = sl.getD k 0 := by
  rw [own_T, if_neg h1, if_neg h3, if_neg h4, if_neg h5, if_neg h6] at hk ⊢
  by_cases h0 : m = 0
  · rw [if_pos h0] at hk ⊢; exact ⟨hk, rfl⟩
  rw [if_neg h0] at hk ⊢
  by_cases h2 : m = 2
  · rw [if_pos h2] at hk ⊢
    rw [List.length_dropLast] at hk
    exact ⟨by omega, by rw [List.getD_eq_getElem?_getD, List.getD_eq_getElem?_getD, List.getElem?_dropLast, if_pos hk]⟩
  · rw [if_neg h2] at hk; exact absurd hk (Nat.not_lt_zero _)
theorem own_len01 {sl : List Int32} {m : Int32} {i0 : Nat} {ch : Int32} (h : m = 0 ∨ m = 1) : (own_T sl m i0 ch).length = sl.length := by
  rcases h with rfl | rfl <;> simp +decide [own_T]
theorem own_len24 {sl : List Int32} {m : Int32} {i0 : Nat} {ch : Int32} (h : m = 2 ∨ m = 4) : (own_T sl m i0 ch).length = sl.length - 1 := by
  rcases h with rfl | rfl <;> simp +decide [own_T]
theorem own_len35 {sl : List Int32} {m : Int32} {i0 : Nat} {ch : Int32} (h : m = 3 ∨ m = 5) : (own_T sl m i0 ch).length = sl.length + 1 := by
  rcases h with rfl | rfl <;> simp +decide [own_T]
theorem own_len6 {sl : List Int32} {m : Int32} {i0 : Nat} {ch : Int32} (h : m = 6) : (own_T sl m i0 ch).length = 1 := by
  subst h; simp +decide [own_T]
theorem own_len7 {sl : List Int32} {m : Int32} {i0 : Nat} {ch : Int32} (h0 : ¬ m = 0) (h1 : ¬ m = 1) (h2 : ¬ m = 2) (h3 : ¬ m = 3) (h4 : ¬ m = 4) (h5 : ¬ m = 5) (h6 : ¬ m = 6) : (own_T sl m i0 ch).length = 0 := by
  rw [own_T, if_neg h1, if_neg h3, if_neg h4, if_neg h5, if_neg h6, if_neg h0, if_neg h2]; rfl
theorem own_ts {cs : List Int32} {i : Nat} {d : Value} (h : i < cs.length) (hb : ∀ c ∈ cs, ¬ c < 0 ∧ ¬ (255 : Int32) < c) : (((cs.take i).map Value.int) ++ List.replicate 1 d).set i (.int (nar .char (cs.getD i 0))) = (cs.take (i + 1)).map Value.int := by
  rw [own_narC (hb _ (own_mem h))]
  have hl : ((cs.take i).map Value.int).length = i := by rw [List.length_map, List.length_take]; omega
  rw [List.set_append_right i _ (by omega), hl, Nat.sub_self, List.take_succ_eq_append_getElem h, List.map_append, List.getD_eq_getElem?_getD, List.getElem?_eq_getElem h]
  rfl
theorem own_tl {cs : List Int32} {i : Nat} {d : Value} (h : i < cs.length) : i < (((cs.take i).map Value.int) ++ List.replicate 1 d).length := by
  rw [List.length_append, List.length_map, List.length_take, List.length_replicate]; omega
theorem own_set_ne {sl : List Int32} {i0 : Nat} {ch : Int32} (h : i0 < sl.length) (q : ¬ ch = sl.getD i0 0) : ¬ sl = sl.set i0 ch := fun e => q (by
  have : (sl.set i0 ch).getD i0 0 = ch := by simp [List.getD_eq_getElem?_getD, h]
  rw [← e] at this; exact this.symm)

theorem own_ofk (k : Int32) (r0 r1 r2 r3 : Addr) : own_of (own_lit k) r0 r1 r2 r3 = .ref (own_ty k r0 r1 r2 r3) := by
  unfold own_lit own_ty
  by_cases h0 : k = 0
  · rw [if_pos h0, if_pos h0]; rfl
  rw [if_neg h0, if_neg h0]
  by_cases h1 : k = 1
  · rw [if_pos h1, if_pos h1]; rfl
  rw [if_neg h1, if_neg h1]
  by_cases h2 : k = 2
  · rw [if_pos h2, if_pos h2]; rfl
  rw [if_neg h2, if_neg h2]; rfl
theorem own_yes (k : Int32) {m : Int32} {i0 : Nat} {ch : Int32} (hi : i0 < (own_lit k).length) (h : m = 0 ∨ (m = 1 ∧ ch = (own_lit k).getD i0 0)) (r0 r1 r2 r3 : Addr) : own_of (own_T (own_lit k) m i0 ch) r0 r1 r2 r3 = .ref (own_ty k r0 r1 r2 r3) := by
  rw [← own_ofk]
  congr 1
  rcases h with rfl | ⟨rfl, rfl⟩
  · simp +decide [own_T]
  · rw [own_T, if_pos rfl]
    apply List.ext_getElem?
    intro j
    rw [List.getElem?_set]
    split
    · rename_i q; subst q; simp [hi, List.getD_eq_getElem?_getD]
    · rfl
theorem own_nolen {o : List Int32} (r0 r1 r2 r3 : Addr) (h : o.length ≠ 5 ∧ o.length ≠ 13 ∧ o.length ≠ 11 ∧ o.length ≠ 4) : own_of o r0 r1 r2 r3 = .null := by
  rw [own_of, if_neg (fun e => h.1 (by rw [← e]; rfl)), if_neg (fun e => h.2.1 (by rw [← e]; rfl)), if_neg (fun e => h.2.2.1 (by rw [← e]; rfl)), if_neg (fun e => h.2.2.2 (by rw [← e]; rfl))]
theorem own_no1 (k : Int32) {i0 : Nat} {ch : Int32} (hi : i0 < (own_lit k).length) (q : ¬ ch = (own_lit k).getD i0 0) (r0 r1 r2 r3 : Addr) : own_of ((own_lit k).set i0 ch) r0 r1 r2 r3 = .null := by
  have hne := own_set_ne hi q
  have hl : ((own_lit k).set i0 ch).length = (own_lit k).length := List.length_set
  rcases own_lit_cases k with h | h | h | h <;> rw [h] at hne hl ⊢
  · rw [own_of, if_neg hne, if_neg (fun e => by rw [← e] at hl; exact absurd hl (by decide)), if_neg (fun e => by rw [← e] at hl; exact absurd hl (by decide)), if_neg (fun e => by rw [← e] at hl; exact absurd hl (by decide))]
  · rw [own_of, if_neg (fun e => by rw [← e] at hl; exact absurd hl (by decide)), if_neg hne, if_neg (fun e => by rw [← e] at hl; exact absurd hl (by decide)), if_neg (fun e => by rw [← e] at hl; exact absurd hl (by decide))]
  · rw [own_of, if_neg (fun e => by rw [← e] at hl; exact absurd hl (by decide)), if_neg (fun e => by rw [← e] at hl; exact absurd hl (by decide)), if_neg hne, if_neg (fun e => by rw [← e] at hl; exact absurd hl (by decide))]
  · rw [own_of, if_neg (fun e => by rw [← e] at hl; exact absurd hl (by decide)), if_neg (fun e => by rw [← e] at hl; exact absurd hl (by decide)), if_neg (fun e => by rw [← e] at hl; exact absurd hl (by decide)), if_neg hne]
theorem own_no3 (k : Int32) (ch : Int32) (r0 r1 r2 r3 : Addr) : own_of (own_lit k ++ [ch]) r0 r1 r2 r3 = .null := by
  rcases own_lit_cases k with h | h | h | h <;> rw [h]
  · exact own_nolen _ _ _ _ (by simp)
  · exact own_nolen _ _ _ _ (by simp)
  · exact own_nolen _ _ _ _ (by simp)
  · rw [own_of, if_neg (by simp), if_neg (by simp), if_neg (by simp), if_neg (by simp)]
theorem own_no5 (k : Int32) (ch : Int32) (r0 r1 r2 r3 : Addr) : own_of (ch :: own_lit k) r0 r1 r2 r3 = .null := by
  rcases own_lit_cases k with h | h | h | h <;> rw [h]
  · exact own_nolen _ _ _ _ (by simp)
  · exact own_nolen _ _ _ _ (by simp)
  · exact own_nolen _ _ _ _ (by simp)
  · rw [own_of, if_neg (by simp), if_neg (by simp), if_neg (by simp), if_neg (by simp)]
theorem own_no24 (k : Int32) (r0 r1 r2 r3 : Addr) : own_of (own_lit k).dropLast r0 r1 r2 r3 = .null ∧ own_of ((own_lit k).drop 1) r0 r1 r2 r3 = .null := by
  rcases own_lit_cases k with h | h | h | h <;> rw [h] <;> exact ⟨rfl, rfl⟩
theorem own_no (k : Int32) {m : Int32} {i0 : Nat} {ch : Int32} (hi : i0 < (own_lit k).length) (h0 : ¬ m = 0) (h1 : m = 1 → ¬ ch = (own_lit k).getD i0 0) (r0 r1 r2 r3 : Addr) : own_of (own_T (own_lit k) m i0 ch) r0 r1 r2 r3 = .null := by
  rw [own_T]
  by_cases q1 : m = 1
  · rw [if_pos q1]; exact own_no1 k hi (h1 q1) _ _ _ _
  rw [if_neg q1]
  by_cases q3 : m = 3
  · rw [if_pos q3]; exact own_no3 k ch _ _ _ _
  rw [if_neg q3]
  by_cases q4 : m = 4
  · rw [if_pos q4]; exact (own_no24 k _ _ _ _).2
  rw [if_neg q4]
  by_cases q5 : m = 5
  · rw [if_pos q5]; exact own_no5 k ch _ _ _ _
  rw [if_neg q5]
  by_cases q6 : m = 6
  · rw [if_pos q6]; exact own_nolen _ _ _ _ (by simp)
  rw [if_neg q6, if_neg h0]
  by_cases q2 : m = 2
  · rw [if_pos q2]; exact (own_no24 k _ _ _ _).1
  · rw [if_neg q2]; exact own_nolen _ _ _ _ (by simp)
theorem own_c255 (x : Int32) : ¬ (x &&& (255 : Int32)).toUInt32.toUInt16.toUInt32.toInt32 < 0 ∧ ¬ (255 : Int32) < (x &&& (255 : Int32)).toUInt32.toUInt16.toUInt32.toInt32 := by
  have t : ∀ k : Fin 256, ¬ (Int32.ofNat k.val).toUInt32.toUInt16.toUInt32.toInt32 < 0 ∧ ¬ (255 : Int32) < (Int32.ofNat k.val).toUInt32.toUInt16.toUInt32.toInt32 := by decide +kernel
  have h : (x &&& 255).toBitVec.toNat < 256 := by
    simp only [Int32.toBitVec_and, BitVec.toNat_and]
    exact Nat.lt_succ_of_le Nat.and_le_right
  have e : (x &&& 255) = Int32.ofNat (x &&& 255).toBitVec.toNat := by
    apply Int32.toBitVec_inj.mp
    show _ = BitVec.ofNat 32 _
    rw [BitVec.ofNat_toNat]; simp
  rw [e]
  exact t ⟨_, h⟩
theorem own_chS {p : Program} {l : Launch} {e : Env} {R : Room} {s : State} {args : Array Value} {below : List Frame} {len W : Nat} {Z : State} {a0 : Array Value} {h : Heap} (hZ : Z.Warmed39 s.vm) (hw : ∀ d ∈ StrChars.Road.wordsChN, d.before a0 Z = true) {kI : Nat} (wi : (Jvm.Cond.instantiable "java/lang/String" kI).before a0 Z = true)
    {x : Addr} {cs : List Int32} {z : Int32} {fm : Value} {i : Nat} (O : OStr Z h x cs) (hb : ∀ c ∈ cs, ¬ c < 0 ∧ ¬ (255 : Int32) < c) (S : Sta Z h "java/lang/String" "COMPACT_STRINGS" "Z" (.int z)) (hz : ¬ z = 0) (F : Sta Z h "jdk/internal/util/Preconditions" "SIOOBE_FORMATTER" "Ljava/util/function/BiFunction;" fm) (rf : fm.isRef = true) (hi : i < cs.length) (n0 : Nat) (hfr : 4 ≤ R.frames) (hlo : W + 53 ≤ R.locals) :
    OBack l R p e below s args (⟨"java/lang/String", "charAt", "(I)C"⟩ : MethodName) len W #[.ref x, .int (Int32.ofNat i)] h 0 0 (fun v h' L => v = some (.int (cs.getD i 0)) ∧ Fr n0 L ∧ h' = h) := by
  obtain ⟨t, kb, cd, N2, vs, a1, a2, a3, a4, a5, a6, a7⟩ := O
  have hcd : cd = 0 := by
    rcases a5 with q | ⟨-, -, -, c, q1, q2⟩
    · exact q.1
    · exact absurd q2 (hb c q1).2
  subst hcd
  exact own_chN hZ hw wi a1 a2 a3 a4 a5 a6 S hz F rf a7 hi n0 hfr hlo
theorem own_backV14 {p : Program} {l : Launch} {e : Env} {R : Room} {s : State} {args : Array Value} {below : List Frame} {len W : Nat} {Z : State} {a0 : Array Value} {h : Heap} (hZ : Z.Warmed39 s.vm) (hw : ∀ d ∈ StrChars.Road.words, d.before a0 Z = true) {kI : Nat} (wi : (Jvm.Cond.instantiable "java/lang/String" kI).before a0 Z = true)
    {x b : Addr} {kC : ClassId} {cs : List Int32} {d v0 c0 : Value} {z N : Int32} {n0 : Nat} (hx0 : n0 ≤ x) (hh0 : n0 ≤ h.size) (E : Exa Z h x "java/lang/String") (V : Fld Z h x "java/lang/String" "value" "[B" v0) (C : Fld Z h x "java/lang/String" "coder" "B" c0) (K : Arv Z h b kC .char N (cs.map Value.int) d) (S : Sta Z h "java/lang/String" "COMPACT_STRINGS" "Z" (.int z)) (hz : ¬ z = 0)
    (hN : N = Int32.ofNat cs.length) (l0 : 0 < cs.length) (l2 : cs.length ≤ 14) (hp : ∀ c ∈ cs, ¬ c < 0 ∧ ¬ (255 : Int32) < c) (hfr : 4 ≤ R.frames) (hlo : W + 65 ≤ R.locals) :
    OBack l R p e below s args (⟨"java/lang/String", "<init>", "([C)V"⟩ : MethodName) len W #[.ref x, .ref b] h 1 14 (fun v h' L => v = none ∧ Fr n0 L ∧ Keep h h' [x] ∧ OStr Z h' x cs) := by
  intro m meth c P g ig mk a X hg hsize hdg hW hn hp'
  obtain ⟨rfl, rfl, r1, r2⟩ := hp'
  obtain ⟨v, B, X', ⟨L, ⟨q1, q2, q3, q4, q5, t, kb, t1, t2, t3, q6, q7⟩, hl, hc, hs⟩, st⟩ := StrChars.Road.backV hZ hw wi (bs := cs.map (fun c => c.toInt8.toInt32)) (n := cs.length) hx0 hh0 E V C K S hz rfl hN l0 (by omega) hp rfl hfr hlo m meth c P g ig mk _ X hg hsize hdg hW hn ⟨rfl, rfl, r1, by omega⟩
  refine ⟨v, ⟨B.U, B.locs, P.cells + 1, P.slots + 14⟩, X'.more (show B.cells ≤ P.cells + 1 from Nat.le_of_eq hc) (show B.slots ≤ P.slots + 14 by rw [hs]; omega), ⟨L, ⟨q1, q2, q3, ⟨t, kb, 0, N, _, q4, q6, q5, q7, ?_, own_up _ hp, by omega⟩⟩, hl, rfl, rfl⟩, st⟩
  subst hN
  exact StrChars.Road.codOf rfl (fun c hc => (hp c hc).2)

theorem own_tye {Z : State} {h : Heap} (k : Int32) {r0 r1 r2 r3 : Addr} {C : String} (e0 : Exa Z h r0 C) (e1 : Exa Z h r1 C) (e2 : Exa Z h r2 C) (e3 : Exa Z h r3 C) : Exa Z h (own_ty k r0 r1 r2 r3) C := by
  unfold own_ty
  split
  · exact e0
  split
  · exact e1
  split
  · exact e2
  · exact e3

set_option maxRecDepth 65536 in
set_option maxHeartbeats 40000000 in
theorem own_new4E (l : Launch) (Z : State) (a0 : Array Value) (hw : ∀ d ∈ tables_1, d.before a0 Z = true) (ws : List Jvm.Cond) (a b : Addr) (h0 : Heap) (n0 : Nat) (Z0 : n0 ≤ h0.size) (E1 : Exa Z h0 a "java/lang/String") (Fv : Fld Z h0 a "java/lang/String" "value" "[B" .null) (Fc : Fld Z h0 a "java/lang/String" "coder" "B" (.int (0 : Int32))) (ga : n0 ≤ a) :
    OMetW l Z consts_1 (⟨"java/lang/String", "<init>", "([CIILjava/lang/Void;)V"⟩ : MethodName) jdk_42_method_149_code 6 none ws ({ frames := 1, cells := 4, slots := 8, locals := 16 } : Room) #[(.ref a), (.ref b), (.int (0 : Int32)), (.int (0 : Int32)), .null] h0 (fun v h L => v = none ∧ Fr n0 L ∧ Keep h0 h [a] ∧ OStr Z h a []) := by
  refine OMetW.body (plainFor_of_name own_pn2) ?_
  intro p e s m below meth c s₁ hx hby hml hown hnm hret hlk hZ X0 e0 OW0
  have hEL := own_hEL hw
  have wS := own_wS hw
  refine OGo.step (fun _ kk => castTop (show entryFrame m #[(.ref a), (.ref b), (.int (0 : Int32)), (.int (0 : Int32)), .null] 6 = (mkF m 0 #[.val (.ref a), .val (.ref b), .val (.int (0 : Int32)), .val (.int (0 : Int32)), .val .null, .unset] []) from by first | (simp [entryFrame, mkF, argsToLocals, Value.category]; done) | rfl) kk) ?_
  show OGo p e below (s₁.setTop (mkF m 0 #[.val (.ref a), .val (.ref b), .val (.int (0 : Int32)), .val (.int (0 : Int32)), .val .null, .unset] [])) _
  have sf480 := own_safe_null (EL := consts_1) OW0.2.1.alike E1 Fv
  refine OGo.step (fun _ kk => XS.aloadN X0.here hx rfl (hb hby own_d_jdk_42_method_149_code_0) rfl rfl kk) ?_
  show OGo p e below (s₁.setTop (mkF m 1 #[.val (.ref a), .val (.ref b), .val (.int (0 : Int32)), .val (.int (0 : Int32)), .val .null, .unset] [(.ref a)])) _
  obtain ⟨T481, X481, e481, st481⟩ := initO X0 hx hZ hown (hw _ (List.mem_of_getElem? (i := 60) rfl)) (hw _ (List.mem_of_getElem? (i := 61) rfl)) (hw _ (List.mem_of_getElem? (i := 62) rfl)) e0 (g := (mkF m 1 #[.val (.ref a), .val (.ref b), .val (.int (0 : Int32)), .val (.int (0 : Int32)), .val .null, .unset] [(.ref a)])) rfl (by rw [hml]; rfl) rfl (hb hby own_d_jdk_42_method_149_code_1) (by decide) (W := 0) (by show 2 * 0 + _ ≤ _; exact Nat.le_of_eq rfl) (by decide)
  refine OGo.step st481 ?_
  show OGo p e below (T481.setTop (mkF m 4 #[.val (.ref a), .val (.ref b), .val (.int (0 : Int32)), .val (.int (0 : Int32)), .val .null, .unset] [])) _
  refine OGo.step (fun _ kk => XS.iloadN X481.here hx rfl (hb hby own_d_jdk_42_method_149_code_4) rfl kk) ?_
  show OGo p e below (T481.setTop (mkF m 5 #[.val (.ref a), .val (.ref b), .val (.int (0 : Int32)), .val (.int (0 : Int32)), .val .null, .unset] [(.int (0 : Int32))])) _
  refine OGo.step (fun _ kk => XS.ifNo X481.here hx rfl (hb hby own_d_jdk_42_method_149_code_5) rfl ((if0 _ _).trans (teq rfl).2) kk) ?_
  show OGo p e below (T481.setTop (mkF m 8 #[.val (.ref a), .val (.ref b), .val (.int (0 : Int32)), .val (.int (0 : Int32)), .val .null, .unset] [])) _
  refine OGo.step (fun _ kk => XS.aloadN X481.here hx rfl (hb hby own_d_jdk_42_method_149_code_8) rfl rfl kk) ?_
  show OGo p e below (T481.setTop (mkF m 9 #[.val (.ref a), .val (.ref b), .val (.int (0 : Int32)), .val (.int (0 : Int32)), .val .null, .unset] [(.ref a)])) _
  refine own_ldcW X481 hx hown (hw _ (List.mem_of_getElem? (i := 120) rfl)) wS hEL OW0 e481 (by decide) (vs := []) (z := (0 : Int32)) ⟨by decide, by decide⟩ (by decide) (by decide) (pc := 9) (Ls := #[.val (.ref a), .val (.ref b), .val (.int (0 : Int32)), .val (.int (0 : Int32)), .val .null, .unset]) (st := [(.ref a)]) (hb hby own_d_jdk_42_method_149_code_9) (n := 0) (by decide) (by decide) (by decide) (by decide) ?_
  intro z zb kb482 T482 X482 E482 OW482 hZ hown CH482 Es482 Fc482 Fv482 Av482 Ns482
  have sf483 := CH482.safe (E1).lt sf480
  have sz482 : n0 ≤ T482.heap.size := Nat.le_trans Z0 E482.1
  show OGo p e below (T482.setTop (mkF m 11 #[.val (.ref a), .val (.ref b), .val (.int (0 : Int32)), .val (.int (0 : Int32)), .val .null, .unset] [(.ref z), (.ref a)])) _
  have nab := (Ns482 _ sf483).2
  obtain ⟨T484, X484, e484, st484⟩ := getF X482 hx hZ hown (host := "") (Or.inl (hw _ (List.mem_of_getElem? (i := 17) rfl))) Via.refl rfl Fv482 (g := (mkF m 11 #[.val (.ref a), .val (.ref b), .val (.int (0 : Int32)), .val (.int (0 : Int32)), .val .null, .unset] [(.ref z), (.ref a)])) rfl rfl (hb hby own_d_jdk_42_method_149_code_11)
  refine OGo.step st484 ?_
  show OGo p e below (T484.setTop (mkF m 14 #[.val (.ref a), .val (.ref b), .val (.int (0 : Int32)), .val (.int (0 : Int32)), .val .null, .unset] [(.ref zb), (.ref a)])) _
  have fc485 := (Fv.ext E482)
  have fc486 := (E1.ext E482)
  obtain ⟨T487, h487, X487, e487, W487, st487⟩ := putF X484 hx hZ hown (host := "") (Or.inl (hw _ (List.mem_of_getElem? (i := 17) rfl))) Via.refl e484 fc485 fc486 (Or.inr ⟨(hw _ (List.mem_of_getElem? (i := 8) rfl)), rfl, hnm⟩) (hw _ (List.mem_of_getElem? (i := 6) rfl)) (ty := (.array .byte)) (by decide) rfl rfl (g := (mkF m 14 #[.val (.ref a), .val (.ref b), .val (.int (0 : Int32)), .val (.int (0 : Int32)), .val .null, .unset] [(.ref zb), (.ref a)])) rfl rfl (hb hby own_d_jdk_42_method_149_code_14)
  refine OGo.step st487 ?_
  show OGo p e below (T487.setTop (mkF m 17 #[.val (.ref a), .val (.ref b), .val (.int (0 : Int32)), .val (.int (0 : Int32)), .val .null, .unset] [])) _
  have Fw487 := fc485.same W487
  have Nf487 := Fr.snoc X487 (Fr.nil n0) ga
  have sz487 : n0 ≤ h487.size := by rw [W487.size]; exact sz482
  have sw488 := sf483
  have sf489 := Safe.wr W487 sw488 OW482.chv sf483
  have OW490 := OW482.wr W487 sw488
  refine OGo.step (fun _ kk => XS.aloadN X487.here hx rfl (hb hby own_d_jdk_42_method_149_code_17) rfl rfl kk) ?_
  show OGo p e below (T487.setTop (mkF m 18 #[.val (.ref a), .val (.ref b), .val (.int (0 : Int32)), .val (.int (0 : Int32)), .val .null, .unset] [(.ref a)])) _
  refine own_ldcW X487 hx hown (hw _ (List.mem_of_getElem? (i := 120) rfl)) wS hEL OW490 e487 (by decide) (vs := []) (z := (0 : Int32)) ⟨by decide, by decide⟩ (by decide) (by decide) (pc := 18) (Ls := #[.val (.ref a), .val (.ref b), .val (.int (0 : Int32)), .val (.int (0 : Int32)), .val .null, .unset]) (st := [(.ref a)]) (hb hby own_d_jdk_42_method_149_code_18) (n := 0) (by decide) (by decide) (by decide) (by decide) ?_
  intro z2 z2b kb491 T491 X491 E491 OW491 hZ hown CH491 Es491 Fc491 Fv491 Av491 Ns491
  have fc493 := (fc486.wr W487)
  have sf492 := CH491.safe (fc493).lt sf489
  have sz491 : n0 ≤ T491.heap.size := Nat.le_trans sz487 E491.1
  show OGo p e below (T491.setTop (mkF m 20 #[.val (.ref a), .val (.ref b), .val (.int (0 : Int32)), .val (.int (0 : Int32)), .val .null, .unset] [(.ref z2), (.ref a)])) _
  obtain ⟨T494, X494, e494, st494⟩ := getF X491 hx hZ hown (host := "") (Or.inl (hw _ (List.mem_of_getElem? (i := 24) rfl))) Via.refl rfl Fc491 (g := (mkF m 20 #[.val (.ref a), .val (.ref b), .val (.int (0 : Int32)), .val (.int (0 : Int32)), .val .null, .unset] [(.ref z2), (.ref a)])) rfl rfl (hb hby own_d_jdk_42_method_149_code_20)
  refine OGo.step st494 ?_
  show OGo p e below (T494.setTop (mkF m 23 #[.val (.ref a), .val (.ref b), .val (.int (0 : Int32)), .val (.int (0 : Int32)), .val .null, .unset] [(.int (0 : Int32)), (.ref a)])) _
  have fc495 := (((Fc.ext E482).other W487 (Or.inr (slot_ne (Or.inr (hw _ (List.mem_of_getElem? (i := 9) rfl))) (Or.inr (hw _ (List.mem_of_getElem? (i := 8) rfl))) (by decide) (t := .byte) (t' := (.array .byte)) (by decide) (by decide)))).ext E491)
  have fc496 := (fc493.ext E491)
  obtain ⟨T497, h497, X497, e497, W497, st497⟩ := putFN X494 hx hZ hown (hw _ (List.mem_of_getElem? (i := 24) rfl)) Via.refl e494 fc495 fc496 (Or.inr ⟨(hw _ (List.mem_of_getElem? (i := 9) rfl)), rfl, hnm⟩) (hw _ (List.mem_of_getElem? (i := 6) rfl)) (ty := .byte) (v' := (.int (0 : Int32))) (by decide) rfl rfl (g := (mkF m 23 #[.val (.ref a), .val (.ref b), .val (.int (0 : Int32)), .val (.int (0 : Int32)), .val .null, .unset] [(.int (0 : Int32)), (.ref a)])) rfl rfl (hb hby own_d_jdk_42_method_149_code_23)
  refine OGo.step st497 ?_
  show OGo p e below (T497.setTop (mkF m 26 #[.val (.ref a), .val (.ref b), .val (.int (0 : Int32)), .val (.int (0 : Int32)), .val .null, .unset] [])) _
  have Fw497 := fc495.same W497
  have Nf497 := Fr.snoc X497 Nf487 ga
  have sz497 : n0 ≤ h497.size := by rw [W497.size]; exact sz491
  have sw498 := sf492
  have sf499 := Safe.wr W497 sw498 OW491.chv sf492
  have OW500 := OW491.wr W497 sw498
  have fc501 := (fc496.wr W497)
  have fc502 := ((Fw487.ext E491).other W497 (Or.inr (slot_ne (Or.inr (hw _ (List.mem_of_getElem? (i := 8) rfl))) (Or.inr (hw _ (List.mem_of_getElem? (i := 9) rfl))) (by decide) (t := (.array .byte)) (t' := .byte) (by decide) (by decide))))
  have fc503 := (((Av482.other W487 (Ne.symm nab)).ext E491).other W497 (Ne.symm nab))
  have HQ : OStr Z h497 a [] := ⟨zb, _, 0, 0, [], fc501, fc502, Fw497, fc503, Or.inl ⟨rfl, rfl, rfl, own_all0⟩, own_all0, by decide⟩
  have HK := (((((Keep.refl h0 [a]).ext E482).wr W487 (Or.inl (List.mem_of_getElem? (i := 0) rfl))).ext E491).wr W497 (Or.inl (List.mem_of_getElem? (i := 0) rfl)))
  exact own_ret0W X497 hx hlk hEL OW500 e497 hret (hb hby own_d_jdk_42_method_149_code_26) (by rw [e497]; exact ⟨rfl, Nf497, HK, HQ⟩) (by decide) (by decide)

set_option maxRecDepth 65536 in
set_option maxHeartbeats 40000000 in
theorem own_new1E (l : Launch) (Z : State) (a0 : Array Value) (hw : ∀ d ∈ tables_1, d.before a0 Z = true) (ws : List Jvm.Cond) (a b : Addr) (kb : ClassId) (h0 : Heap) (n0 : Nat) (Z0 : n0 ≤ h0.size) (E1 : Exa Z h0 a "java/lang/String") (Fv : Fld Z h0 a "java/lang/String" "value" "[B" .null) (Fc : Fld Z h0 a "java/lang/String" "coder" "B" (.int (0 : Int32))) (ga : n0 ≤ a) (Vb : Arv Z h0 b kb .char (0 : Int32) [] (.int (0 : Int32))) :
    OMetW l Z consts_1 (⟨"java/lang/String", "<init>", "([C)V"⟩ : MethodName) jdk_42_method_3_code 2 none ws ({ frames := 2, cells := 4, slots := 8, locals := 33 } : Room) #[(.ref a), (.ref b)] h0 (fun v h L => v = none ∧ Fr n0 L ∧ Keep h0 h [a] ∧ OStr Z h a []) := by
  refine OMetW.body (plainFor_of_name own_pn2) ?_
  intro p e s m below meth c s₁ hx hby hml hown hnm hret hlk hZ X0 e0 OW0
  have hEL := own_hEL hw
  have wS := own_wS hw
  refine OGo.step (fun _ kk => castTop (show entryFrame m #[(.ref a), (.ref b)] 2 = (mkF m 0 #[.val (.ref a), .val (.ref b)] []) from by first | (simp [entryFrame, mkF, argsToLocals, Value.category]; done) | rfl) kk) ?_
  show OGo p e below (s₁.setTop (mkF m 0 #[.val (.ref a), .val (.ref b)] [])) _
  obtain ⟨cb, Ab, qb, Sb, Mb, Hb, Gb⟩ := Vb
  refine OGo.step (fun _ kk => XS.aloadN X0.here hx rfl (hb hby own_d_jdk_42_method_3_code_0) rfl rfl kk) ?_
  show OGo p e below (s₁.setTop (mkF m 1 #[.val (.ref a), .val (.ref b)] [(.ref a)])) _
  refine OGo.step (fun _ kk => XS.aloadN X0.here hx rfl (hb hby own_d_jdk_42_method_3_code_1) rfl rfl kk) ?_
  show OGo p e below (s₁.setTop (mkF m 2 #[.val (.ref a), .val (.ref b)] [(.ref b), (.ref a)])) _
  refine OGo.step (fun _ kk => XS.iconst X0.here hx rfl (hb hby own_d_jdk_42_method_3_code_2) kk) ?_
  show OGo p e below (s₁.setTop (mkF m 3 #[.val (.ref a), .val (.ref b)] [(.int (0 : Int32)), (.ref b), (.ref a)])) _
  refine OGo.step (fun _ kk => XS.aloadN X0.here hx rfl (hb hby own_d_jdk_42_method_3_code_3) rfl rfl kk) ?_
  show OGo p e below (s₁.setTop (mkF m 4 #[.val (.ref a), .val (.ref b)] [(.ref b), (.int (0 : Int32)), (.ref b), (.ref a)])) _
  refine OGo.step (fun _ kk => X0.arraylength hx (by rw [e0]; exact (Ab).1) (State.isArrayOf_alike hZ.alike (Ab).2.1) (g := (mkF m 4 #[.val (.ref a), .val (.ref b)] [(.ref b), (.int (0 : Int32)), (.ref b), (.ref a)])) rfl rfl (hb hby own_d_jdk_42_method_3_code_4) _ kk) ?_
  rw [len_of Sb Mb]
  show OGo p e below (s₁.setTop (mkF m 5 #[.val (.ref a), .val (.ref b)] [(.int (0 : Int32)), (.int (0 : Int32)), (.ref b), (.ref a)])) _
  refine OGo.step (fun _ kk => XS.aconstNull X0.here hx rfl (hb hby own_d_jdk_42_method_3_code_5) kk) ?_
  show OGo p e below (s₁.setTop (mkF m 6 #[.val (.ref a), .val (.ref b)] [.null, (.int (0 : Int32)), (.int (0 : Int32)), (.ref b), (.ref a)])) _
  refine own_specialW X0 hx hZ (y := (⟨"java/lang/String", "<init>", "([CIILjava/lang/Void;)V"⟩ : MethodName)) rfl hown (hw _ (List.mem_of_getElem? (i := 56) rfl)) (hw _ (List.mem_of_getElem? (i := 57) rfl)) (hw _ (List.mem_of_getElem? (i := 59) rfl)) (hw _ (List.mem_of_getElem? (i := 5) rfl)) (by decide) hEL OW0 (a := a) (W := 0) (own_new4E l Z a0 hw [] a b h0 n0 Z0 E1 Fv Fc ga) e0  (pc := 6) (Ls := #[.val (.ref a), .val (.ref b)]) (argsL := [(.ref b), (.int (0 : Int32)), (.int (0 : Int32)), .null]) (rest := []) (by rw [hml]; rfl) (lenOf own_pd12 rfl) rfl (hb hby own_d_jdk_42_method_3_code_6) (by decide) (by decide) (by decide) (by decide) ?_
  intro v504 T504 L504 X504 hQ504 OW504 hZ hown CH504
  obtain ⟨rfl, N504, K504, O504⟩ := hQ504
  show OGo p e below (T504.setTop (mkF m 9 #[.val (.ref a), .val (.ref b)] [])) _
  exact own_ret0W X504 hx hlk hEL OW504 rfl hret (hb hby own_d_jdk_42_method_3_code_9) ⟨rfl, Fr.app (Fr.nil n0) N504, K504, O504⟩ (by decide) (by decide)

set_option maxRecDepth 65536 in
set_option maxHeartbeats 40000000 in
theorem own_opinit (l : Launch) (Z : State) (a0 : Array Value) (hw : ∀ d ∈ tables_1, d.before a0 Z = true) (ws : List Jvm.Cond) (a1 k1 : Addr) (u1 : Value) (h0 : Heap) (n0 : Nat) (Z0 : n0 ≤ h0.size) (E1 : Exa Z h0 a1 "java/util/Optional") (F1 : Fld Z h0 a1 "java/util/Optional" "value" "Ljava/lang/Object;" u1) (g1 : n0 ≤ a1) :
    OMet l Z (⟨"java/util/Optional", "<init>", "(Ljava/lang/Object;)V"⟩ : MethodName) jdk_32_method_2_code 2 none ws ({ frames := 1, cells := 0, slots := 0, locals := 12 } : Room) #[(.ref a1), (.ref k1)] h0 (fun v h L => v = none ∧ Fr n0 L ∧ Keep h0 h [a1] ∧ Exa Z h a1 "java/util/Optional" ∧ Fld Z h a1 "java/util/Optional" "value" "Ljava/lang/Object;" (.ref k1)) := by
  refine OMet.body (plainFor_of_name own_pn3) ?_
  intro p e s m below meth c s₁ hx hby hml hown hnm hret hlk hZ X0 e0
  refine OGo.step (fun _ kk => castTop (show entryFrame m #[(.ref a1), (.ref k1)] 2 = (mkF m 0 #[.val (.ref a1), .val (.ref k1)] []) from by first | (simp [entryFrame, mkF, argsToLocals, Value.category]; done) | rfl) kk) ?_
  show OGo p e below (s₁.setTop (mkF m 0 #[.val (.ref a1), .val (.ref k1)] [])) _
  refine OGo.step (fun _ kk => XS.aloadN X0.here hx rfl (hb hby own_d_jdk_32_method_2_code_0) rfl rfl kk) ?_
  show OGo p e below (s₁.setTop (mkF m 1 #[.val (.ref a1), .val (.ref k1)] [(.ref a1)])) _
  obtain ⟨T505, X505, e505, st505⟩ := initO X0 hx hZ hown (hw _ (List.mem_of_getElem? (i := 140) rfl)) (hw _ (List.mem_of_getElem? (i := 61) rfl)) (hw _ (List.mem_of_getElem? (i := 62) rfl)) e0 (g := (mkF m 1 #[.val (.ref a1), .val (.ref k1)] [(.ref a1)])) rfl (by rw [hml]; rfl) rfl (hb hby own_d_jdk_32_method_2_code_1) (by decide) (W := 0) (by show 2 * 0 + _ ≤ _; exact Nat.le_of_eq rfl) (by decide)
  refine OGo.step st505 ?_
  show OGo p e below (T505.setTop (mkF m 4 #[.val (.ref a1), .val (.ref k1)] [])) _
  refine OGo.step (fun _ kk => XS.aloadN X505.here hx rfl (hb hby own_d_jdk_32_method_2_code_4) rfl rfl kk) ?_
  show OGo p e below (T505.setTop (mkF m 5 #[.val (.ref a1), .val (.ref k1)] [(.ref a1)])) _
  refine OGo.step (fun _ kk => XS.aloadN X505.here hx rfl (hb hby own_d_jdk_32_method_2_code_5) rfl rfl kk) ?_
  show OGo p e below (T505.setTop (mkF m 6 #[.val (.ref a1), .val (.ref k1)] [(.ref k1), (.ref a1)])) _
  obtain ⟨T506, h506, X506, e506, W506, st506⟩ := putF X505 hx hZ hown (host := "") (Or.inl (hw _ (List.mem_of_getElem? (i := 117) rfl))) Via.refl e505 F1 E1 (Or.inr ⟨(hw _ (List.mem_of_getElem? (i := 118) rfl)), rfl, hnm⟩) (hw _ (List.mem_of_getElem? (i := 131) rfl)) (ty := (.object "java/lang/Object")) (by decide) rfl rfl (g := (mkF m 6 #[.val (.ref a1), .val (.ref k1)] [(.ref k1), (.ref a1)])) rfl rfl (hb hby own_d_jdk_32_method_2_code_6)
  refine OGo.step st506 ?_
  show OGo p e below (T506.setTop (mkF m 9 #[.val (.ref a1), .val (.ref k1)] [])) _
  have Fw506 := F1.same W506
  have Nf506 := Fr.snoc X506 (Fr.nil n0) g1
  have sz506 : n0 ≤ h506.size := by rw [W506.size]; exact Z0
  have fc507 := (E1.wr W506)
  have HK := ((Keep.refl h0 [a1]).wr W506 (Or.inl (List.mem_of_getElem? (i := 0) rfl)))
  exact own_ret0 X506 hx hlk hret (hb hby own_d_jdk_32_method_2_code_9) (by rw [e506]; exact ⟨rfl, Nf506, HK, fc507, Fw506⟩) (by decide) (by decide)

set_option maxRecDepth 65536 in
set_option maxHeartbeats 40000000 in
theorem own_rnn (l : Launch) (Z : State) (a0 : Array Value) (hw : ∀ d ∈ tables_1, d.before a0 Z = true) (ws : List Jvm.Cond) (a1 : Addr) (h0 : Heap) (n0 : Nat) (Z0 : n0 ≤ h0.size)  :
    OMet l Z (⟨"java/util/Objects", "requireNonNull", "(Ljava/lang/Object;)Ljava/lang/Object;"⟩ : MethodName) jdk_31_method_10_code 1 (some (.object "java/lang/Object")) ws ({ frames := 0, cells := 0, slots := 0, locals := 0 } : Room) #[(.ref a1)] h0 (fun v h L => v = some (.ref a1) ∧ Fr n0 L ∧ h = h0) := by
  refine OMet.body (plainFor_of_name own_pn4) ?_
  intro p e s m below meth c s₁ hx hby hml hown hnm hret hlk hZ X0 e0
  refine OGo.step (fun _ kk => castTop (show entryFrame m #[(.ref a1)] 1 = (mkF m 0 #[.val (.ref a1)] []) from by first | (simp [entryFrame, mkF, argsToLocals, Value.category]; done) | rfl) kk) ?_
  show OGo p e below (s₁.setTop (mkF m 0 #[.val (.ref a1)] [])) _
  refine OGo.step (fun _ kk => XS.aloadN X0.here hx rfl (hb hby own_d_jdk_31_method_10_code_0) rfl rfl kk) ?_
  show OGo p e below (s₁.setTop (mkF m 1 #[.val (.ref a1)] [(.ref a1)])) _
  refine OGo.step (fun _ kk => XS.ifnonnullYes X0.here hx rfl (pc0 := 1) (pc' := 12) rfl (hb hby own_d_jdk_31_method_10_code_1) rfl (by decide) (by decide) kk) ?_
  show OGo p e below (s₁.setTop (mkF m 12 #[.val (.ref a1)] [])) _
  refine OGo.step (fun _ kk => XS.aloadN X0.here hx rfl (hb hby own_d_jdk_31_method_10_code_12) rfl rfl kk) ?_
  show OGo p e below (s₁.setTop (mkF m 13 #[.val (.ref a1)] [(.ref a1)])) _
  exact own_ret X0 hx hlk hret rfl (Or.inr (Or.inr (Or.inr (Or.inr ⟨rfl, rfl, rfl⟩)))) (hb hby own_d_jdk_31_method_10_code_13) ⟨rfl, Fr.nil n0, e0⟩ (by decide) (by decide)

set_option maxRecDepth 65536 in
set_option maxHeartbeats 40000000 in
theorem own_opof (l : Launch) (Z : State) (a0 : Array Value) (hw : ∀ d ∈ tables_1, d.before a0 Z = true) (ws : List Jvm.Cond) (k1 : Addr) (h0 : Heap) (n0 : Nat) (Z0 : n0 ≤ h0.size)  :
    OMet l Z (⟨"java/util/Optional", "of", "(Ljava/lang/Object;)Ljava/util/Optional;"⟩ : MethodName) jdk_32_method_3_code 1 (some (.object "java/util/Optional")) ws ({ frames := 2, cells := 1, slots := 1, locals := 26 } : Room) #[(.ref k1)] h0 (fun v h L => ∃ b : Addr, v = some (.ref b) ∧ Fr n0 L ∧ Ext h0 h ∧ Exa Z h b "java/util/Optional" ∧ Fld Z h b "java/util/Optional" "value" "Ljava/lang/Object;" (.ref k1)) := by
  refine OMet.body (plainFor_of_name own_pn3) ?_
  intro p e s m below meth c s₁ hx hby hml hown hnm hret hlk hZ X0 e0
  refine OGo.step (fun _ kk => castTop (show entryFrame m #[(.ref k1)] 1 = (mkF m 0 #[.val (.ref k1)] []) from by first | (simp [entryFrame, mkF, argsToLocals, Value.category]; done) | rfl) kk) ?_
  show OGo p e below (s₁.setTop (mkF m 0 #[.val (.ref k1)] [])) _
  obtain ⟨T508, h508, X508, e508, E508, A508, D508, U508, st508⟩ := newO X0 hx hZ hown (hw _ (List.mem_of_getElem? (i := 130) rfl)) (hw _ (List.mem_of_getElem? (i := 131) rfl)) (hw _ (List.mem_of_getElem? (i := 109) rfl)) e0 (g := (mkF m 0 #[.val (.ref k1)] [])) rfl (hb hby own_d_jdk_32_method_3_code_0) (by decide) (by decide)
  obtain ⟨b, g508⟩ : ∃ z, z = h0.size := ⟨_, rfl⟩
  rw [← g508] at A508 D508 U508 st508
  refine OGo.step st508 ?_
  show OGo p e below (T508.setTop (mkF m 3 #[.val (.ref k1)] [(.ref b)])) _
  have gf_b : n0 ≤ b := Nat.le_trans Z0 (Nat.le_of_eq g508.symm)
  have sz508 : n0 ≤ h508.size := Nat.le_trans Z0 E508.1
  have F508_value : Fld Z h508 b "java/util/Optional" "value" "Ljava/lang/Object;" .null := D508 (Or.inr (hw _ (List.mem_of_getElem? (i := 118) rfl))) (ty := (.object "java/lang/Object")) (by decide)
  refine OGo.step (fun _ kk => XS.dup X508.here hx rfl (hb hby own_d_jdk_32_method_3_code_3) rfl rfl kk) ?_
  show OGo p e below (T508.setTop (mkF m 4 #[.val (.ref k1)] [(.ref b), (.ref b)])) _
  refine OGo.step (fun _ kk => XS.aloadN X508.here hx rfl (hb hby own_d_jdk_32_method_3_code_4) rfl rfl kk) ?_
  show OGo p e below (T508.setTop (mkF m 5 #[.val (.ref k1)] [(.ref k1), (.ref b), (.ref b)])) _
  refine own_callS X508 hx hZ (y := (⟨"java/util/Objects", "requireNonNull", "(Ljava/lang/Object;)Ljava/lang/Object;"⟩ : MethodName)) hown (hw _ (List.mem_of_getElem? (i := 132) rfl)) (hw _ (List.mem_of_getElem? (i := 133) rfl)) (hw _ (List.mem_of_getElem? (i := 134) rfl)) (hw _ (List.mem_of_getElem? (i := 135) rfl)) (by decide) (W := 2) (own_rnn l Z a0 hw [] k1 h508 n0 sz508) e508  (pc := 5) (Ls := #[.val (.ref k1)]) (argsL := [(.ref k1)]) (rest := [(.ref b), (.ref b)]) (by rw [hml]; rfl) (lenOf own_pd10 rfl) rfl (hb hby own_d_jdk_32_method_3_code_5) (by decide) (by decide) (by decide) (by decide) ?_
  intro v509 T509 L509 X509 hQ509
  obtain ⟨rfl, N509, e509⟩ := hQ509
  show OGo p e below (T509.setTop (mkF m 8 #[.val (.ref k1)] [(.ref k1), (.ref b), (.ref b)])) _
  have Nc509 := Fr.app (Fr.nil n0) N509
  refine own_special X509 hx hZ (y := (⟨"java/util/Optional", "<init>", "(Ljava/lang/Object;)V"⟩ : MethodName)) rfl hown (hw _ (List.mem_of_getElem? (i := 136) rfl)) (hw _ (List.mem_of_getElem? (i := 137) rfl)) (hw _ (List.mem_of_getElem? (i := 139) rfl)) (hw _ (List.mem_of_getElem? (i := 109) rfl)) (by decide) (a := b) (W := 1) (own_opinit l Z a0 hw [] b k1 _ h508 n0 sz508 A508 F508_value gf_b) e509  (pc := 8) (Ls := #[.val (.ref k1)]) (argsL := [(.ref k1)]) (rest := [(.ref b)]) (by rw [hml]; rfl) (lenOf own_pd13 rfl) rfl (hb hby own_d_jdk_32_method_3_code_8) (by decide) (by decide) (by decide) (by decide) ?_
  intro v510 T510 L510 X510 hQ510
  obtain ⟨rfl, N510, K510, Eb510, Gv510⟩ := hQ510
  show OGo p e below (T510.setTop (mkF m 11 #[.val (.ref k1)] [(.ref b)])) _
  have Nc510 := Fr.app Nc509 N510
  have sz510 : n0 ≤ T510.heap.size := Nat.le_trans sz508 K510.1
  have xt511 := (own_ext_keep E508 K510 (allS (Nat.le_of_eq g508.symm) all0))
  exact own_ret X510 hx hlk hret rfl (Or.inr (Or.inr (Or.inr (Or.inr ⟨rfl, rfl, rfl⟩)))) (hb hby own_d_jdk_32_method_3_code_11) ⟨b, rfl, Nc510, xt511, Eb510, Gv510⟩ (by decide) (by decide)

set_option maxRecDepth 65536 in
set_option maxHeartbeats 40000000 in
theorem own_opempty (l : Launch) (Z : State) (a0 : Array Value) (hw : ∀ d ∈ tables_1, d.before a0 Z = true) (ws : List Jvm.Cond) (eo : Addr) (h0 : Heap) (n0 : Nat) (Z0 : n0 ≤ h0.size) (SE : Sta Z h0 "java/util/Optional" "EMPTY" "Ljava/util/Optional;" (.ref eo)) :
    OMet l Z (⟨"java/util/Optional", "empty", "()Ljava/util/Optional;"⟩ : MethodName) jdk_32_method_1_code 1 (some (.object "java/util/Optional")) ws ({ frames := 0, cells := 0, slots := 0, locals := 0 } : Room) #[] h0 (fun v h L => v = some (.ref eo) ∧ Fr n0 L ∧ h = h0) := by
  refine OMet.body (plainFor_of_name own_pn3) ?_
  intro p e s m below meth c s₁ hx hby hml hown hnm hret hlk hZ X0 e0
  refine OGo.step (fun _ kk => castTop (show entryFrame m #[] 1 = (mkF m 0 #[.unset] []) from by first | (simp [entryFrame, mkF, argsToLocals, Value.category]; done) | rfl) kk) ?_
  show OGo p e below (s₁.setTop (mkF m 0 #[.unset] [])) _
  obtain ⟨T512, X512, e512, st512⟩ := getS2 X0 hx hZ hown (host := "") (Or.inl (hw _ (List.mem_of_getElem? (i := 111) rfl))) Via.refl e0 SE (g := (mkF m 0 #[.unset] [])) rfl (hb hby own_d_jdk_32_method_1_code_0)
  refine OGo.step st512 ?_
  show OGo p e below (T512.setTop (mkF m 3 #[.unset] [(.ref eo)])) _
  refine OGo.step (fun _ kk => XS.astoreN X512.here hx rfl (hb hby own_d_jdk_32_method_1_code_3) rfl rfl (l' := #[.val (.ref eo)]) rfl kk) ?_
  show OGo p e below (T512.setTop (mkF m 4 #[.val (.ref eo)] [])) _
  refine OGo.step (fun _ kk => XS.aloadN X512.here hx rfl (hb hby own_d_jdk_32_method_1_code_4) rfl rfl kk) ?_
  show OGo p e below (T512.setTop (mkF m 5 #[.val (.ref eo)] [(.ref eo)])) _
  exact own_ret X512 hx hlk hret rfl (Or.inr (Or.inr (Or.inr (Or.inr ⟨rfl, rfl, rfl⟩)))) (hb hby own_d_jdk_32_method_1_code_5) ⟨rfl, Fr.nil n0, e512⟩ (by decide) (by decide)

set_option maxRecDepth 65536 in
set_option maxHeartbeats 40000000 in
theorem own_orElseN (l : Launch) (Z : State) (a0 : Array Value) (hw : ∀ d ∈ tables_1, d.before a0 Z = true) (ws : List Jvm.Cond) (a1 : Addr) (h0 : Heap) (n0 : Nat) (Z0 : n0 ≤ h0.size) (F1 : Fld Z h0 a1 "java/util/Optional" "value" "Ljava/lang/Object;" .null) :
    OMet l Z (⟨"java/util/Optional", "orElse", "(Ljava/lang/Object;)Ljava/lang/Object;"⟩ : MethodName) jdk_32_method_15_code 2 (some (.object "java/lang/Object")) ws ({ frames := 0, cells := 0, slots := 0, locals := 0 } : Room) #[(.ref a1), .null] h0 (fun v h L => v = some .null ∧ Fr n0 L ∧ h = h0) := by
  refine OMet.body (plainFor_of_name own_pn3) ?_
  intro p e s m below meth c s₁ hx hby hml hown hnm hret hlk hZ X0 e0
  refine OGo.step (fun _ kk => castTop (show entryFrame m #[(.ref a1), .null] 2 = (mkF m 0 #[.val (.ref a1), .val .null] []) from by first | (simp [entryFrame, mkF, argsToLocals, Value.category]; done) | rfl) kk) ?_
  show OGo p e below (s₁.setTop (mkF m 0 #[.val (.ref a1), .val .null] [])) _
  refine OGo.step (fun _ kk => XS.aloadN X0.here hx rfl (hb hby own_d_jdk_32_method_15_code_0) rfl rfl kk) ?_
  show OGo p e below (s₁.setTop (mkF m 1 #[.val (.ref a1), .val .null] [(.ref a1)])) _
  obtain ⟨T513, X513, e513, st513⟩ := getF X0 hx hZ hown (host := "") (Or.inl (hw _ (List.mem_of_getElem? (i := 117) rfl))) Via.refl e0 F1 (g := (mkF m 1 #[.val (.ref a1), .val .null] [(.ref a1)])) rfl rfl (hb hby own_d_jdk_32_method_15_code_1)
  refine OGo.step st513 ?_
  show OGo p e below (T513.setTop (mkF m 4 #[.val (.ref a1), .val .null] [.null])) _
  refine OGo.step (fun _ kk => XS.ifnullYes X513.here hx rfl (pc0 := 4) (pc' := 14) rfl (hb hby own_d_jdk_32_method_15_code_4) rfl (by decide) (by decide) kk) ?_
  show OGo p e below (T513.setTop (mkF m 14 #[.val (.ref a1), .val .null] [])) _
  refine OGo.step (fun _ kk => XS.aloadN X513.here hx rfl (hb hby own_d_jdk_32_method_15_code_14) rfl rfl kk) ?_
  show OGo p e below (T513.setTop (mkF m 15 #[.val (.ref a1), .val .null] [.null])) _
  exact own_ret X513 hx hlk hret rfl (Or.inr (Or.inr (Or.inr (Or.inr ⟨rfl, rfl, rfl⟩)))) (hb hby own_d_jdk_32_method_15_code_15) ⟨rfl, Fr.nil n0, e513⟩ (by decide) (by decide)

set_option maxRecDepth 65536 in
set_option maxHeartbeats 40000000 in
theorem own_orElseR (l : Launch) (Z : State) (a0 : Array Value) (hw : ∀ d ∈ tables_1, d.before a0 Z = true) (ws : List Jvm.Cond) (a1 ua : Addr) (h0 : Heap) (n0 : Nat) (Z0 : n0 ≤ h0.size) (F1 : Fld Z h0 a1 "java/util/Optional" "value" "Ljava/lang/Object;" (.ref ua)) :
    OMet l Z (⟨"java/util/Optional", "orElse", "(Ljava/lang/Object;)Ljava/lang/Object;"⟩ : MethodName) jdk_32_method_15_code 2 (some (.object "java/lang/Object")) ws ({ frames := 0, cells := 0, slots := 0, locals := 0 } : Room) #[(.ref a1), .null] h0 (fun v h L => v = some (.ref ua) ∧ Fr n0 L ∧ h = h0) := by
  refine OMet.body (plainFor_of_name own_pn3) ?_
  intro p e s m below meth c s₁ hx hby hml hown hnm hret hlk hZ X0 e0
  refine OGo.step (fun _ kk => castTop (show entryFrame m #[(.ref a1), .null] 2 = (mkF m 0 #[.val (.ref a1), .val .null] []) from by first | (simp [entryFrame, mkF, argsToLocals, Value.category]; done) | rfl) kk) ?_
  show OGo p e below (s₁.setTop (mkF m 0 #[.val (.ref a1), .val .null] [])) _
  refine OGo.step (fun _ kk => XS.aloadN X0.here hx rfl (hb hby own_d_jdk_32_method_15_code_0) rfl rfl kk) ?_
  show OGo p e below (s₁.setTop (mkF m 1 #[.val (.ref a1), .val .null] [(.ref a1)])) _
  obtain ⟨T514, X514, e514, st514⟩ := getF X0 hx hZ hown (host := "") (Or.inl (hw _ (List.mem_of_getElem? (i := 117) rfl))) Via.refl e0 F1 (g := (mkF m 1 #[.val (.ref a1), .val .null] [(.ref a1)])) rfl rfl (hb hby own_d_jdk_32_method_15_code_1)
  refine OGo.step st514 ?_
  show OGo p e below (T514.setTop (mkF m 4 #[.val (.ref a1), .val .null] [(.ref ua)])) _
  refine OGo.step (fun _ kk => XS.ifnullNo X514.here hx rfl (hb hby own_d_jdk_32_method_15_code_4) rfl kk) ?_
  show OGo p e below (T514.setTop (mkF m 7 #[.val (.ref a1), .val .null] [])) _
  refine OGo.step (fun _ kk => XS.aloadN X514.here hx rfl (hb hby own_d_jdk_32_method_15_code_7) rfl rfl kk) ?_
  show OGo p e below (T514.setTop (mkF m 8 #[.val (.ref a1), .val .null] [(.ref a1)])) _
  obtain ⟨T515, X515, e515, st515⟩ := getF X514 hx hZ hown (host := "") (Or.inl (hw _ (List.mem_of_getElem? (i := 117) rfl))) Via.refl e514 F1 (g := (mkF m 8 #[.val (.ref a1), .val .null] [(.ref a1)])) rfl rfl (hb hby own_d_jdk_32_method_15_code_8)
  refine OGo.step st515 ?_
  show OGo p e below (T515.setTop (mkF m 11 #[.val (.ref a1), .val .null] [(.ref ua)])) _
  refine OGo.step (fun _ kk => XS.goto X515.here hx rfl (pc0 := 11) (pc' := 15) rfl (hb hby own_d_jdk_32_method_15_code_11) (by decide) (by decide) kk) ?_
  show OGo p e below (T515.setTop (mkF m 15 #[.val (.ref a1), .val .null] [(.ref ua)])) _
  exact own_ret X515 hx hlk hret rfl (Or.inr (Or.inr (Or.inr (Or.inr ⟨rfl, rfl, rfl⟩)))) (hb hby own_d_jdk_32_method_15_code_15) ⟨rfl, Fr.nil n0, e515⟩ (by decide) (by decide)

set_option maxRecDepth 65536 in
set_option maxHeartbeats 40000000 in
theorem own_litm (l : Launch) (Z : State) (a0 : Array Value) (hw : ∀ d ∈ tables_1, d.before a0 Z = true) (ws : List Jvm.Cond) (k : Int32) (h0 : Heap) (n0 : Nat) (Z0 : n0 ≤ h0.size)  :
    OMetW l Z consts_1 (⟨"com/example/tenantd/tenantd/RoleTypeOfTextPinLaw", "lit", "(I)Ljava/lang/String;"⟩ : MethodName) method_2_code 1 (some (.object "java/lang/String")) ws ({ frames := 0, cells := 2, slots := 56, locals := 0 } : Room) #[(.int k)] h0 (fun v h L => ∃ x : Addr, v = some (.ref x) ∧ Fr n0 L ∧ Ext h0 h ∧ OStr Z h x (own_lit k)) := by
  refine OMetW.body (plainFor_of_name own_pn0) ?_
  intro p e s m below meth c s₁ hx hby hml hown hnm hret hlk hZ X0 e0 OW0
  have hEL := own_hEL hw
  have wS := own_wS hw
  refine OGo.step (fun _ kk => castTop (show entryFrame m #[(.int k)] 1 = (mkF m 0 #[.val (.int k)] []) from by first | (simp [entryFrame, mkF, argsToLocals, Value.category]; done) | rfl) kk) ?_
  show OGo p e below (s₁.setTop (mkF m 0 #[.val (.int k)] [])) _
  refine OGo.step (fun _ kk => XS.iloadN X0.here hx rfl (hb hby own_d_method_2_code_0) rfl kk) ?_
  show OGo p e below (s₁.setTop (mkF m 1 #[.val (.int k)] [(.int k)])) _
  by_cases hz0 : k = (0 : Int32)
  · refine OGo.step (fun _ kk => XS.ifNo X0.here hx rfl (hb hby own_d_method_2_code_1) rfl ((if0 _ _).trans (teq hz0).2) kk) ?_
    show OGo p e below (s₁.setTop (mkF m 4 #[.val (.int k)] [])) _
    refine own_ldcW X0 hx hown (hw _ (List.mem_of_getElem? (i := 4) rfl)) wS hEL OW0 e0 (by decide) (vs := [.int (65 : Int32), .int (100 : Int32), .int (109 : Int32), .int (105 : Int32), .int (110 : Int32)]) (z := (5 : Int32)) ⟨by decide, by decide⟩ (by decide) (by decide) (pc := 4) (Ls := #[.val (.int k)]) (st := []) (hb hby own_d_method_2_code_4) (n := 20) (by decide) (by decide) (by decide) (by decide) ?_
    intro x xb kb1 T1 X1 E1 OW1 hZ hown CH1 Es1 Fc1 Fv1 Av1 Ns1
    have sz1 : n0 ≤ T1.heap.size := Nat.le_trans Z0 E1.1
    show OGo p e below (T1.setTop (mkF m 6 #[.val (.int k)] [(.ref x)])) _
    have cd1 : StrChars.Road.CodA ([65, 100, 109, 105, 110] : List Int32) 0 (5 : Int32) [.int (65 : Int32), .int (100 : Int32), .int (109 : Int32), .int (105 : Int32), .int (110 : Int32)] := StrChars.Road.codOf (cs := [65, 100, 109, 105, 110]) (n := 5) rfl (by decide)
    have O1 : OStr Z T1.heap x ([65, 100, 109, 105, 110] : List Int32) := ⟨xb, kb1, 0, (5 : Int32), _, Es1, Fv1, Fc1, Av1, cd1, by decide, by decide⟩
    exact own_retW X1 hx hlk hEL OW1 rfl hret rfl (Or.inr (Or.inr (Or.inr (Or.inr ⟨rfl, rfl, rfl⟩)))) (hb hby own_d_method_2_code_6) ⟨x, rfl, Fr.nil n0, E1, by rw [own_lit, if_pos hz0]; exact O1⟩ (by decide) (by decide)
  · refine OGo.step (fun _ kk => XS.ifYes X0.here hx rfl (pc0 := 1) (pc' := 7) rfl (hb hby own_d_method_2_code_1) rfl ((if0 _ _).trans (feq hz0).2) (by decide) (by decide) kk) ?_
    show OGo p e below (s₁.setTop (mkF m 7 #[.val (.int k)] [])) _
    refine OGo.step (fun _ kk => XS.iloadN X0.here hx rfl (hb hby own_d_method_2_code_7) rfl kk) ?_
    show OGo p e below (s₁.setTop (mkF m 8 #[.val (.int k)] [(.int k)])) _
    refine OGo.step (fun _ kk => XS.iconst X0.here hx rfl (hb hby own_d_method_2_code_8) kk) ?_
    show OGo p e below (s₁.setTop (mkF m 9 #[.val (.int k)] [(.int (1 : Int32)), (.int k)])) _
    by_cases h1 : k = (1 : Int32)
    · refine OGo.step (fun _ kk => XS.icmpNo X0.here hx rfl (hb hby own_d_method_2_code_9) rfl (teq h1).2 kk) ?_
      show OGo p e below (s₁.setTop (mkF m 12 #[.val (.int k)] [])) _
      refine own_ldcW X0 hx hown (hw _ (List.mem_of_getElem? (i := 122) rfl)) wS hEL OW0 e0 (by decide) (vs := [.int (82 : Int32), .int (101 : Int32), .int (115 : Int32), .int (111 : Int32), .int (117 : Int32), .int (114 : Int32), .int (99 : Int32), .int (101 : Int32), .int (65 : Int32), .int (100 : Int32), .int (109 : Int32), .int (105 : Int32), .int (110 : Int32)]) (z := (13 : Int32)) ⟨by decide, by decide⟩ (by decide) (by decide) (pc := 12) (Ls := #[.val (.int k)]) (st := []) (hb hby own_d_method_2_code_12) (n := 52) (by decide) (by decide) (by decide) (by decide) ?_
      intro x xb kb2 T2 X2 E2 OW2 hZ hown CH2 Es2 Fc2 Fv2 Av2 Ns2
      have sz2 : n0 ≤ T2.heap.size := Nat.le_trans Z0 E2.1
      show OGo p e below (T2.setTop (mkF m 14 #[.val (.int k)] [(.ref x)])) _
      have cd2 : StrChars.Road.CodA ([82, 101, 115, 111, 117, 114, 99, 101, 65, 100, 109, 105, 110] : List Int32) 0 (13 : Int32) [.int (82 : Int32), .int (101 : Int32), .int (115 : Int32), .int (111 : Int32), .int (117 : Int32), .int (114 : Int32), .int (99 : Int32), .int (101 : Int32), .int (65 : Int32), .int (100 : Int32), .int (109 : Int32), .int (105 : Int32), .int (110 : Int32)] := StrChars.Road.codOf (cs := [82, 101, 115, 111, 117, 114, 99, 101, 65, 100, 109, 105, 110]) (n := 13) rfl (by decide)
      have O2 : OStr Z T2.heap x ([82, 101, 115, 111, 117, 114, 99, 101, 65, 100, 109, 105, 110] : List Int32) := ⟨xb, kb2, 0, (13 : Int32), _, Es2, Fv2, Fc2, Av2, cd2, by decide, by decide⟩
      exact own_retW X2 hx hlk hEL OW2 rfl hret rfl (Or.inr (Or.inr (Or.inr (Or.inr ⟨rfl, rfl, rfl⟩)))) (hb hby own_d_method_2_code_14) ⟨x, rfl, Fr.nil n0, E2, by rw [own_lit, if_neg hz0, if_pos h1]; exact O2⟩ (by decide) (by decide)
    · refine OGo.step (fun _ kk => XS.icmpYes X0.here hx rfl (pc0 := 9) (pc' := 15) rfl (hb hby own_d_method_2_code_9) rfl (feq h1).2 (by decide) (by decide) kk) ?_
      show OGo p e below (s₁.setTop (mkF m 15 #[.val (.int k)] [])) _
      refine OGo.step (fun _ kk => XS.iloadN X0.here hx rfl (hb hby own_d_method_2_code_15) rfl kk) ?_
      show OGo p e below (s₁.setTop (mkF m 16 #[.val (.int k)] [(.int k)])) _
      refine OGo.step (fun _ kk => XS.iconst X0.here hx rfl (hb hby own_d_method_2_code_16) kk) ?_
      show OGo p e below (s₁.setTop (mkF m 17 #[.val (.int k)] [(.int (2 : Int32)), (.int k)])) _
      by_cases h2 : k = (2 : Int32)
      · refine OGo.step (fun _ kk => XS.icmpNo X0.here hx rfl (hb hby own_d_method_2_code_17) rfl (teq h2).2 kk) ?_
        show OGo p e below (s₁.setTop (mkF m 20 #[.val (.int k)] [])) _
        refine own_ldcW X0 hx hown (hw _ (List.mem_of_getElem? (i := 121) rfl)) wS hEL OW0 e0 (by decide) (vs := [.int (68 : Int32), .int (111 : Int32), .int (109 : Int32), .int (97 : Int32), .int (105 : Int32), .int (110 : Int32), .int (65 : Int32), .int (100 : Int32), .int (109 : Int32), .int (105 : Int32), .int (110 : Int32)]) (z := (11 : Int32)) ⟨by decide, by decide⟩ (by decide) (by decide) (pc := 20) (Ls := #[.val (.int k)]) (st := []) (hb hby own_d_method_2_code_20) (n := 44) (by decide) (by decide) (by decide) (by decide) ?_
        intro x xb kb3 T3 X3 E3 OW3 hZ hown CH3 Es3 Fc3 Fv3 Av3 Ns3
        have sz3 : n0 ≤ T3.heap.size := Nat.le_trans Z0 E3.1
        show OGo p e below (T3.setTop (mkF m 22 #[.val (.int k)] [(.ref x)])) _
        have cd3 : StrChars.Road.CodA ([68, 111, 109, 97, 105, 110, 65, 100, 109, 105, 110] : List Int32) 0 (11 : Int32) [.int (68 : Int32), .int (111 : Int32), .int (109 : Int32), .int (97 : Int32), .int (105 : Int32), .int (110 : Int32), .int (65 : Int32), .int (100 : Int32), .int (109 : Int32), .int (105 : Int32), .int (110 : Int32)] := StrChars.Road.codOf (cs := [68, 111, 109, 97, 105, 110, 65, 100, 109, 105, 110]) (n := 11) rfl (by decide)
        have O3 : OStr Z T3.heap x ([68, 111, 109, 97, 105, 110, 65, 100, 109, 105, 110] : List Int32) := ⟨xb, kb3, 0, (11 : Int32), _, Es3, Fv3, Fc3, Av3, cd3, by decide, by decide⟩
        exact own_retW X3 hx hlk hEL OW3 rfl hret rfl (Or.inr (Or.inr (Or.inr (Or.inr ⟨rfl, rfl, rfl⟩)))) (hb hby own_d_method_2_code_22) ⟨x, rfl, Fr.nil n0, E3, by rw [own_lit, if_neg hz0, if_neg h1, if_pos h2]; exact O3⟩ (by decide) (by decide)
      · refine OGo.step (fun _ kk => XS.icmpYes X0.here hx rfl (pc0 := 17) (pc' := 23) rfl (hb hby own_d_method_2_code_17) rfl (feq h2).2 (by decide) (by decide) kk) ?_
        show OGo p e below (s₁.setTop (mkF m 23 #[.val (.int k)] [])) _
        refine own_ldcW X0 hx hown (hw _ (List.mem_of_getElem? (i := 119) rfl)) wS hEL OW0 e0 (by decide) (vs := [.int (85 : Int32), .int (115 : Int32), .int (101 : Int32), .int (114 : Int32)]) (z := (4 : Int32)) ⟨by decide, by decide⟩ (by decide) (by decide) (pc := 23) (Ls := #[.val (.int k)]) (st := []) (hb hby own_d_method_2_code_23) (n := 16) (by decide) (by decide) (by decide) (by decide) ?_
        intro x xb kb4 T4 X4 E4 OW4 hZ hown CH4 Es4 Fc4 Fv4 Av4 Ns4
        have sz4 : n0 ≤ T4.heap.size := Nat.le_trans Z0 E4.1
        show OGo p e below (T4.setTop (mkF m 25 #[.val (.int k)] [(.ref x)])) _
        have cd4 : StrChars.Road.CodA ([85, 115, 101, 114] : List Int32) 0 (4 : Int32) [.int (85 : Int32), .int (115 : Int32), .int (101 : Int32), .int (114 : Int32)] := StrChars.Road.codOf (cs := [85, 115, 101, 114]) (n := 4) rfl (by decide)
        have O4 : OStr Z T4.heap x ([85, 115, 101, 114] : List Int32) := ⟨xb, kb4, 0, (4 : Int32), _, Es4, Fv4, Fc4, Av4, cd4, by decide, by decide⟩
        exact own_retW X4 hx hlk hEL OW4 rfl hret rfl (Or.inr (Or.inr (Or.inr (Or.inr ⟨rfl, rfl, rfl⟩)))) (hb hby own_d_method_2_code_25) ⟨x, rfl, Fr.nil n0, E4, by rw [own_lit, if_neg hz0, if_neg h1, if_neg h2]; exact O4⟩ (by decide) (by decide)

set_option maxRecDepth 65536 in
set_option maxHeartbeats 40000000 in
theorem own_type (l : Launch) (Z : State) (a0 : Array Value) (hw : ∀ d ∈ tables_1, d.before a0 Z = true) (ws : List Jvm.Cond) (k : Int32) (r0 r1 r2 r3 : Addr) (h0 : Heap) (n0 : Nat) (Z0 : n0 ≤ h0.size) (S0 : Sta Z h0 "com/example/tenantd/tenantd/RoleType" "ADMIN" "Lcom/example/tenantd/tenantd/RoleType;" (.ref r0)) (S1 : Sta Z h0 "com/example/tenantd/tenantd/RoleType" "RESOURCE_ADMIN" "Lcom/example/tenantd/tenantd/RoleType;" (.ref r1)) (S2 : Sta Z h0 "com/example/tenantd/tenantd/RoleType" "DOMAIN_ADMIN" "Lcom/example/tenantd/tenantd/RoleType;" (.ref r2)) (S3 : Sta Z h0 "com/example/tenantd/tenantd/RoleType" "USER" "Lcom/example/tenantd/tenantd/RoleType;" (.ref r3)) :
    OMet l Z (⟨"com/example/tenantd/tenantd/RoleTypeOfTextPinLaw", "type", "(I)Lcom/example/tenantd/tenantd/RoleType;"⟩ : MethodName) method_3_code 1 (some (.object "com/example/tenantd/tenantd/RoleType")) ws ({ frames := 0, cells := 0, slots := 0, locals := 0 } : Room) #[(.int k)] h0 (fun v h L => v = some (.ref (own_ty k r0 r1 r2 r3)) ∧ Fr n0 L ∧ h = h0) := by
  refine OMet.body (plainFor_of_name own_pn0) ?_
  intro p e s m below meth c s₁ hx hby hml hown hnm hret hlk hZ X0 e0
  refine OGo.step (fun _ kk => castTop (show entryFrame m #[(.int k)] 1 = (mkF m 0 #[.val (.int k)] []) from by first | (simp [entryFrame, mkF, argsToLocals, Value.category]; done) | rfl) kk) ?_
  show OGo p e below (s₁.setTop (mkF m 0 #[.val (.int k)] [])) _
  refine OGo.step (fun _ kk => XS.iloadN X0.here hx rfl (hb hby own_d_method_3_code_0) rfl kk) ?_
  show OGo p e below (s₁.setTop (mkF m 1 #[.val (.int k)] [(.int k)])) _
  by_cases q0 : k = (0 : Int32)
  · refine OGo.step (fun _ kk => XS.ifNo X0.here hx rfl (hb hby own_d_method_3_code_1) rfl ((if0 _ _).trans (teq q0).2) kk) ?_
    show OGo p e below (s₁.setTop (mkF m 4 #[.val (.int k)] [])) _
    obtain ⟨T5, X5, e5, st5⟩ := getS2 X0 hx hZ hown (host := "") (Or.inl (hw _ (List.mem_of_getElem? (i := 143) rfl))) Via.refl e0 S0 (g := (mkF m 4 #[.val (.int k)] [])) rfl (hb hby own_d_method_3_code_4)
    refine OGo.step st5 ?_
    show OGo p e below (T5.setTop (mkF m 7 #[.val (.int k)] [(.ref r0)])) _
    exact own_ret X5 hx hlk hret rfl (Or.inr (Or.inr (Or.inr (Or.inr ⟨rfl, rfl, rfl⟩)))) (hb hby own_d_method_3_code_7) ⟨by rw [own_ty, if_pos q0], Fr.nil n0, e5⟩ (by decide) (by decide)
  · refine OGo.step (fun _ kk => XS.ifYes X0.here hx rfl (pc0 := 1) (pc' := 8) rfl (hb hby own_d_method_3_code_1) rfl ((if0 _ _).trans (feq q0).2) (by decide) (by decide) kk) ?_
    show OGo p e below (s₁.setTop (mkF m 8 #[.val (.int k)] [])) _
    refine OGo.step (fun _ kk => XS.iloadN X0.here hx rfl (hb hby own_d_method_3_code_8) rfl kk) ?_
    show OGo p e below (s₁.setTop (mkF m 9 #[.val (.int k)] [(.int k)])) _
    refine OGo.step (fun _ kk => XS.iconst X0.here hx rfl (hb hby own_d_method_3_code_9) kk) ?_
    show OGo p e below (s₁.setTop (mkF m 10 #[.val (.int k)] [(.int (1 : Int32)), (.int k)])) _
    by_cases q1 : k = (1 : Int32)
    · refine OGo.step (fun _ kk => XS.icmpNo X0.here hx rfl (hb hby own_d_method_3_code_10) rfl (teq q1).2 kk) ?_
      show OGo p e below (s₁.setTop (mkF m 13 #[.val (.int k)] [])) _
      obtain ⟨T6, X6, e6, st6⟩ := getS2 X0 hx hZ hown (host := "") (Or.inl (hw _ (List.mem_of_getElem? (i := 126) rfl))) Via.refl e0 S1 (g := (mkF m 13 #[.val (.int k)] [])) rfl (hb hby own_d_method_3_code_13)
      refine OGo.step st6 ?_
      show OGo p e below (T6.setTop (mkF m 16 #[.val (.int k)] [(.ref r1)])) _
      exact own_ret X6 hx hlk hret rfl (Or.inr (Or.inr (Or.inr (Or.inr ⟨rfl, rfl, rfl⟩)))) (hb hby own_d_method_3_code_16) ⟨by rw [own_ty, if_neg q0, if_pos q1], Fr.nil n0, e6⟩ (by decide) (by decide)
    · refine OGo.step (fun _ kk => XS.icmpYes X0.here hx rfl (pc0 := 10) (pc' := 17) rfl (hb hby own_d_method_3_code_10) rfl (feq q1).2 (by decide) (by decide) kk) ?_
      show OGo p e below (s₁.setTop (mkF m 17 #[.val (.int k)] [])) _
      refine OGo.step (fun _ kk => XS.iloadN X0.here hx rfl (hb hby own_d_method_3_code_17) rfl kk) ?_
      show OGo p e below (s₁.setTop (mkF m 18 #[.val (.int k)] [(.int k)])) _
      refine OGo.step (fun _ kk => XS.iconst X0.here hx rfl (hb hby own_d_method_3_code_18) kk) ?_
      show OGo p e below (s₁.setTop (mkF m 19 #[.val (.int k)] [(.int (2 : Int32)), (.int k)])) _
      by_cases q2 : k = (2 : Int32)
      · refine OGo.step (fun _ kk => XS.icmpNo X0.here hx rfl (hb hby own_d_method_3_code_19) rfl (teq q2).2 kk) ?_
        show OGo p e below (s₁.setTop (mkF m 22 #[.val (.int k)] [])) _
        obtain ⟨T7, X7, e7, st7⟩ := getS2 X0 hx hZ hown (host := "") (Or.inl (hw _ (List.mem_of_getElem? (i := 145) rfl))) Via.refl e0 S2 (g := (mkF m 22 #[.val (.int k)] [])) rfl (hb hby own_d_method_3_code_22)
        refine OGo.step st7 ?_
        show OGo p e below (T7.setTop (mkF m 25 #[.val (.int k)] [(.ref r2)])) _
        exact own_ret X7 hx hlk hret rfl (Or.inr (Or.inr (Or.inr (Or.inr ⟨rfl, rfl, rfl⟩)))) (hb hby own_d_method_3_code_25) ⟨by rw [own_ty, if_neg q0, if_neg q1, if_pos q2], Fr.nil n0, e7⟩ (by decide) (by decide)
      · refine OGo.step (fun _ kk => XS.icmpYes X0.here hx rfl (pc0 := 19) (pc' := 26) rfl (hb hby own_d_method_3_code_19) rfl (feq q2).2 (by decide) (by decide) kk) ?_
        show OGo p e below (s₁.setTop (mkF m 26 #[.val (.int k)] [])) _
        obtain ⟨T8, X8, e8, st8⟩ := getS2 X0 hx hZ hown (host := "") (Or.inl (hw _ (List.mem_of_getElem? (i := 144) rfl))) Via.refl e0 S3 (g := (mkF m 26 #[.val (.int k)] [])) rfl (hb hby own_d_method_3_code_26)
        refine OGo.step st8 ?_
        show OGo p e below (T8.setTop (mkF m 29 #[.val (.int k)] [(.ref r3)])) _
        exact own_ret X8 hx hlk hret rfl (Or.inr (Or.inr (Or.inr (Or.inr ⟨rfl, rfl, rfl⟩)))) (hb hby own_d_method_3_code_29) ⟨by rw [own_ty, if_neg q0, if_neg q1, if_neg q2], Fr.nil n0, e8⟩ (by decide) (by decide)

set_option maxRecDepth 65536 in
set_option maxHeartbeats 40000000 in
theorem own_ch (l : Launch) (Z : State) (a0 : Array Value) (hw : ∀ d ∈ tables_1, d.before a0 Z = true) (ws : List Jvm.Cond) (x : Addr) (sl : List Int32) (mm ch zc : Int32) (i0 k : Nat) (fm : Value) (h0 : Heap) (n0 : Nat) (Z0 : n0 ≤ h0.size) (SC : Sta Z h0 "java/lang/String" "COMPACT_STRINGS" "Z" (.int zc)) (hzc : ¬ zc = 0) (SF : Sta Z h0 "jdk/internal/util/Preconditions" "SIOOBE_FORMATTER" "Ljava/util/function/BiFunction;" fm) (hfm : fm.isRef = true) (G : OStr Z h0 x sl) (hs : ∀ c ∈ sl, ¬ c < 0 ∧ ¬ (255 : Int32) < c) (hc : ¬ ch < 0 ∧ ¬ (255 : Int32) < ch) (hl : sl.length ≤ 13) (hi13 : i0 ≤ 13) (hk13 : k ≤ 13) (hk : k < (own_T sl mm i0 ch).length) :
    OMet l Z (⟨"com/example/tenantd/tenantd/RoleTypeOfTextPinLaw", "ch", "(Ljava/lang/String;IIICI)C"⟩ : MethodName) method_4_code 6 (some .char) ws ({ frames := 4, cells := 0, slots := 0, locals := 53 } : Room) #[(.ref x), (.int (Int32.ofNat sl.length)), (.int mm), (.int (Int32.ofNat i0)), (.int ch), (.int (Int32.ofNat k))] h0 (fun v h L => v = some (.int ((own_T sl mm i0 ch).getD k 0)) ∧ Fr n0 L ∧ h = h0) := by
  refine OMet.body (plainFor_of_name own_pn0) ?_
  intro p e s m below meth c s₁ hx hby hml hown hnm hret hlk hZ X0 e0
  refine OGo.step (fun _ kk => castTop (show entryFrame m #[(.ref x), (.int (Int32.ofNat sl.length)), (.int mm), (.int (Int32.ofNat i0)), (.int ch), (.int (Int32.ofNat k))] 6 = (mkF m 0 #[.val (.ref x), .val (.int (Int32.ofNat sl.length)), .val (.int mm), .val (.int (Int32.ofNat i0)), .val (.int ch), .val (.int (Int32.ofNat k))] []) from by first | (simp [entryFrame, mkF, argsToLocals, Value.category]; done) | rfl) kk) ?_
  show OGo p e below (s₁.setTop (mkF m 0 #[.val (.ref x), .val (.int (Int32.ofNat sl.length)), .val (.int mm), .val (.int (Int32.ofNat i0)), .val (.int ch), .val (.int (Int32.ofNat k))] [])) _
  refine OGo.step (fun _ kk => XS.iloadN X0.here hx rfl (hb hby own_d_method_4_code_0) rfl kk) ?_
  show OGo p e below (s₁.setTop (mkF m 1 #[.val (.ref x), .val (.int (Int32.ofNat sl.length)), .val (.int mm), .val (.int (Int32.ofNat i0)), .val (.int ch), .val (.int (Int32.ofNat k))] [(.int mm)])) _
  refine OGo.step (fun _ kk => XS.iconst X0.here hx rfl (hb hby own_d_method_4_code_1) kk) ?_
  show OGo p e below (s₁.setTop (mkF m 2 #[.val (.ref x), .val (.int (Int32.ofNat sl.length)), .val (.int mm), .val (.int (Int32.ofNat i0)), .val (.int ch), .val (.int (Int32.ofNat k))] [(.int (1 : Int32)), (.int mm)])) _
  by_cases hm1 : mm = (1 : Int32)
  · refine OGo.step (fun _ kk => XS.icmpNo X0.here hx rfl (hb hby own_d_method_4_code_2) rfl (teq hm1).2 kk) ?_
    show OGo p e below (s₁.setTop (mkF m 5 #[.val (.ref x), .val (.int (Int32.ofNat sl.length)), .val (.int mm), .val (.int (Int32.ofNat i0)), .val (.int ch), .val (.int (Int32.ofNat k))] [])) _
    have t1 := own_T1 hm1 hk
    refine OGo.step (fun _ kk => XS.iload X0.here hx rfl (hb hby own_d_method_4_code_5) rfl kk) ?_
    show OGo p e below (s₁.setTop (mkF m 7 #[.val (.ref x), .val (.int (Int32.ofNat sl.length)), .val (.int mm), .val (.int (Int32.ofNat i0)), .val (.int ch), .val (.int (Int32.ofNat k))] [(.int (Int32.ofNat k))])) _
    refine OGo.step (fun _ kk => XS.iloadN X0.here hx rfl (hb hby own_d_method_4_code_7) rfl kk) ?_
    show OGo p e below (s₁.setTop (mkF m 8 #[.val (.ref x), .val (.int (Int32.ofNat sl.length)), .val (.int mm), .val (.int (Int32.ofNat i0)), .val (.int ch), .val (.int (Int32.ofNat k))] [(.int (Int32.ofNat i0)), (.int (Int32.ofNat k))])) _
    by_cases hke : (Int32.ofNat k) = (Int32.ofNat i0)
    · refine OGo.step (fun _ kk => XS.icmpNo X0.here hx rfl (hb hby own_d_method_4_code_8) rfl (teq hke).2 kk) ?_
      show OGo p e below (s₁.setTop (mkF m 11 #[.val (.ref x), .val (.int (Int32.ofNat sl.length)), .val (.int mm), .val (.int (Int32.ofNat i0)), .val (.int ch), .val (.int (Int32.ofNat k))] [])) _
      refine OGo.step (fun _ kk => XS.iload X0.here hx rfl (hb hby own_d_method_4_code_11) rfl kk) ?_
      show OGo p e below (s₁.setTop (mkF m 13 #[.val (.ref x), .val (.int (Int32.ofNat sl.length)), .val (.int mm), .val (.int (Int32.ofNat i0)), .val (.int ch), .val (.int (Int32.ofNat k))] [(.int ch)])) _
      refine OGo.step (fun _ kk => XS.goto X0.here hx rfl (pc0 := 13) (pc' := 22) rfl (hb hby own_d_method_4_code_13) (by decide) (by decide) kk) ?_
      show OGo p e below (s₁.setTop (mkF m 22 #[.val (.ref x), .val (.int (Int32.ofNat sl.length)), .val (.int mm), .val (.int (Int32.ofNat i0)), .val (.int ch), .val (.int (Int32.ofNat k))] [(.int ch)])) _
      exact own_retN X0 hx hlk hret (by simp) (hb hby own_d_method_4_code_22) ⟨by rw [t1.2.1 (own_eqn k hk13 i0 hi13 hke), own_narC hc], Fr.nil n0, e0⟩ (by decide) (by decide)
    · refine OGo.step (fun _ kk => XS.icmpYes X0.here hx rfl (pc0 := 8) (pc' := 16) rfl (hb hby own_d_method_4_code_8) rfl (feq hke).2 (by decide) (by decide) kk) ?_
      show OGo p e below (s₁.setTop (mkF m 16 #[.val (.ref x), .val (.int (Int32.ofNat sl.length)), .val (.int mm), .val (.int (Int32.ofNat i0)), .val (.int ch), .val (.int (Int32.ofNat k))] [])) _
      refine OGo.step (fun _ kk => XS.aloadN X0.here hx rfl (hb hby own_d_method_4_code_16) rfl rfl kk) ?_
      show OGo p e below (s₁.setTop (mkF m 17 #[.val (.ref x), .val (.int (Int32.ofNat sl.length)), .val (.int mm), .val (.int (Int32.ofNat i0)), .val (.int ch), .val (.int (Int32.ofNat k))] [(.ref x)])) _
      refine OGo.step (fun _ kk => XS.iload X0.here hx rfl (hb hby own_d_method_4_code_17) rfl kk) ?_
      show OGo p e below (s₁.setTop (mkF m 19 #[.val (.ref x), .val (.int (Int32.ofNat sl.length)), .val (.int mm), .val (.int (Int32.ofNat i0)), .val (.int ch), .val (.int (Int32.ofNat k))] [(.int (Int32.ofNat k)), (.ref x)])) _
      refine own_virtualK X0 hx hZ (y := (⟨"java/lang/String", "charAt", "(I)C"⟩ : MethodName)) (z := (⟨"java/lang/String", "charAt", "(I)C"⟩ : MethodName)) hown (hw _ (List.mem_of_getElem? (i := 30) rfl)) (hw _ (List.mem_of_getElem? (i := 31) rfl)) (notFace_of_selects (args := #[]) (mvT hZ (hw _ (List.mem_of_getElem? (i := 33) rfl)))) (hw _ (List.mem_of_getElem? (i := 33) rfl)) (hw _ (List.mem_of_getElem? (i := 32) rfl)) (by decide) (b := x) G.exa (W := 0) (own_chS (W := 0) hZ (fun d hd => hw d ((by decide +kernel : ∀ d ∈ StrChars.Road.wordsChN, d ∈ tables_1) d hd)) (kI := 4) (hw _ (List.mem_of_getElem? (i := 6) rfl)) (i := k) G hs SC hzc SF hfm t1.1 n0 (by decide) (by decide)) e0 (pc := 19) (Ls := #[.val (.ref x), .val (.int (Int32.ofNat sl.length)), .val (.int mm), .val (.int (Int32.ofNat i0)), .val (.int ch), .val (.int (Int32.ofNat k))]) (argsL := [(.int (Int32.ofNat k))]) (rest := []) (by rw [hml]; rfl) (lenOf own_pd0 rfl) rfl (hb hby own_d_method_4_code_19) (by decide) (by decide) ?_
      intro v9 T9 L9 X9 hQ9
      obtain ⟨rfl, N9, e9⟩ := hQ9
      show OGo p e below (T9.setTop (mkF m 22 #[.val (.ref x), .val (.int (Int32.ofNat sl.length)), .val (.int mm), .val (.int (Int32.ofNat i0)), .val (.int ch), .val (.int (Int32.ofNat k))] [(.int (sl.getD k 0))])) _
      have Nc9 := Fr.app (Fr.nil n0) N9
      exact own_retN X9 hx hlk hret (by simp) (hb hby own_d_method_4_code_22) ⟨by rw [t1.2.2 (fun z => hke (by rw [z])), own_narC (hs _ (own_mem t1.1))], Nc9, e9⟩ (by decide) (by decide)
  · refine OGo.step (fun _ kk => XS.icmpYes X0.here hx rfl (pc0 := 2) (pc' := 23) rfl (hb hby own_d_method_4_code_2) rfl (feq hm1).2 (by decide) (by decide) kk) ?_
    show OGo p e below (s₁.setTop (mkF m 23 #[.val (.ref x), .val (.int (Int32.ofNat sl.length)), .val (.int mm), .val (.int (Int32.ofNat i0)), .val (.int ch), .val (.int (Int32.ofNat k))] [])) _
    refine OGo.step (fun _ kk => XS.iloadN X0.here hx rfl (hb hby own_d_method_4_code_23) rfl kk) ?_
    show OGo p e below (s₁.setTop (mkF m 24 #[.val (.ref x), .val (.int (Int32.ofNat sl.length)), .val (.int mm), .val (.int (Int32.ofNat i0)), .val (.int ch), .val (.int (Int32.ofNat k))] [(.int mm)])) _
    refine OGo.step (fun _ kk => XS.iconst X0.here hx rfl (hb hby own_d_method_4_code_24) kk) ?_
    show OGo p e below (s₁.setTop (mkF m 25 #[.val (.ref x), .val (.int (Int32.ofNat sl.length)), .val (.int mm), .val (.int (Int32.ofNat i0)), .val (.int ch), .val (.int (Int32.ofNat k))] [(.int (3 : Int32)), (.int mm)])) _
    by_cases hm3 : mm = (3 : Int32)
    · refine OGo.step (fun _ kk => XS.icmpNo X0.here hx rfl (hb hby own_d_method_4_code_25) rfl (teq hm3).2 kk) ?_
      show OGo p e below (s₁.setTop (mkF m 28 #[.val (.ref x), .val (.int (Int32.ofNat sl.length)), .val (.int mm), .val (.int (Int32.ofNat i0)), .val (.int ch), .val (.int (Int32.ofNat k))] [])) _
      have t3 := own_T3 hm3 hk
      refine OGo.step (fun _ kk => XS.iload X0.here hx rfl (hb hby own_d_method_4_code_28) rfl kk) ?_
      show OGo p e below (s₁.setTop (mkF m 30 #[.val (.ref x), .val (.int (Int32.ofNat sl.length)), .val (.int mm), .val (.int (Int32.ofNat i0)), .val (.int ch), .val (.int (Int32.ofNat k))] [(.int (Int32.ofNat k))])) _
      refine OGo.step (fun _ kk => XS.iloadN X0.here hx rfl (hb hby own_d_method_4_code_30) rfl kk) ?_
      show OGo p e below (s₁.setTop (mkF m 31 #[.val (.ref x), .val (.int (Int32.ofNat sl.length)), .val (.int mm), .val (.int (Int32.ofNat i0)), .val (.int ch), .val (.int (Int32.ofNat k))] [(.int (Int32.ofNat sl.length)), (.int (Int32.ofNat k))])) _
      by_cases hlt : (Int32.ofNat k) < (Int32.ofNat sl.length)
      · refine OGo.step (fun _ kk => XS.icmpNo X0.here hx rfl (hb hby own_d_method_4_code_31) rfl (tlt hlt).2.1 kk) ?_
        show OGo p e below (s₁.setTop (mkF m 34 #[.val (.ref x), .val (.int (Int32.ofNat sl.length)), .val (.int mm), .val (.int (Int32.ofNat i0)), .val (.int ch), .val (.int (Int32.ofNat k))] [])) _
        refine OGo.step (fun _ kk => XS.aloadN X0.here hx rfl (hb hby own_d_method_4_code_34) rfl rfl kk) ?_
        show OGo p e below (s₁.setTop (mkF m 35 #[.val (.ref x), .val (.int (Int32.ofNat sl.length)), .val (.int mm), .val (.int (Int32.ofNat i0)), .val (.int ch), .val (.int (Int32.ofNat k))] [(.ref x)])) _
        refine OGo.step (fun _ kk => XS.iload X0.here hx rfl (hb hby own_d_method_4_code_35) rfl kk) ?_
        show OGo p e below (s₁.setTop (mkF m 37 #[.val (.ref x), .val (.int (Int32.ofNat sl.length)), .val (.int mm), .val (.int (Int32.ofNat i0)), .val (.int ch), .val (.int (Int32.ofNat k))] [(.int (Int32.ofNat k)), (.ref x)])) _
        refine own_virtualK X0 hx hZ (y := (⟨"java/lang/String", "charAt", "(I)C"⟩ : MethodName)) (z := (⟨"java/lang/String", "charAt", "(I)C"⟩ : MethodName)) hown (hw _ (List.mem_of_getElem? (i := 30) rfl)) (hw _ (List.mem_of_getElem? (i := 31) rfl)) (notFace_of_selects (args := #[]) (mvT hZ (hw _ (List.mem_of_getElem? (i := 33) rfl)))) (hw _ (List.mem_of_getElem? (i := 33) rfl)) (hw _ (List.mem_of_getElem? (i := 32) rfl)) (by decide) (b := x) G.exa (W := 0) (own_chS (W := 0) hZ (fun d hd => hw d ((by decide +kernel : ∀ d ∈ StrChars.Road.wordsChN, d ∈ tables_1) d hd)) (kI := 4) (hw _ (List.mem_of_getElem? (i := 6) rfl)) (i := k) G hs SC hzc SF hfm (own_lt14 k hk13 _ (by omega) hlt) n0 (by decide) (by decide)) e0 (pc := 37) (Ls := #[.val (.ref x), .val (.int (Int32.ofNat sl.length)), .val (.int mm), .val (.int (Int32.ofNat i0)), .val (.int ch), .val (.int (Int32.ofNat k))]) (argsL := [(.int (Int32.ofNat k))]) (rest := []) (by rw [hml]; rfl) (lenOf own_pd0 rfl) rfl (hb hby own_d_method_4_code_37) (by decide) (by decide) ?_
        intro v10 T10 L10 X10 hQ10
        obtain ⟨rfl, N10, e10⟩ := hQ10
        show OGo p e below (T10.setTop (mkF m 40 #[.val (.ref x), .val (.int (Int32.ofNat sl.length)), .val (.int mm), .val (.int (Int32.ofNat i0)), .val (.int ch), .val (.int (Int32.ofNat k))] [(.int (sl.getD k 0))])) _
        have Nc10 := Fr.app (Fr.nil n0) N10
        refine OGo.step (fun _ kk => XS.goto X10.here hx rfl (pc0 := 40) (pc' := 45) rfl (hb hby own_d_method_4_code_40) (by decide) (by decide) kk) ?_
        show OGo p e below (T10.setTop (mkF m 45 #[.val (.ref x), .val (.int (Int32.ofNat sl.length)), .val (.int mm), .val (.int (Int32.ofNat i0)), .val (.int ch), .val (.int (Int32.ofNat k))] [(.int (sl.getD k 0))])) _
        exact own_retN X10 hx hlk hret (by simp) (hb hby own_d_method_4_code_45) ⟨by rw [t3.1 (own_lt14 k hk13 _ (by omega) hlt), own_narC (hs _ (own_mem (own_lt14 k hk13 _ (by omega) hlt)))], Nc10, e10⟩ (by decide) (by decide)
      · refine OGo.step (fun _ kk => XS.icmpYes X0.here hx rfl (pc0 := 31) (pc' := 43) rfl (hb hby own_d_method_4_code_31) rfl (flt hlt).2.1 (by decide) (by decide) kk) ?_
        show OGo p e below (s₁.setTop (mkF m 43 #[.val (.ref x), .val (.int (Int32.ofNat sl.length)), .val (.int mm), .val (.int (Int32.ofNat i0)), .val (.int ch), .val (.int (Int32.ofNat k))] [])) _
        refine OGo.step (fun _ kk => XS.iload X0.here hx rfl (hb hby own_d_method_4_code_43) rfl kk) ?_
        show OGo p e below (s₁.setTop (mkF m 45 #[.val (.ref x), .val (.int (Int32.ofNat sl.length)), .val (.int mm), .val (.int (Int32.ofNat i0)), .val (.int ch), .val (.int (Int32.ofNat k))] [(.int ch)])) _
        exact own_retN X0 hx hlk hret (by simp) (hb hby own_d_method_4_code_45) ⟨by rw [t3.2 (fun z => absurd (own_nge14 k hk13 _ (by omega) hlt) (Nat.not_le.mpr z)), own_narC hc], Fr.nil n0, e0⟩ (by decide) (by decide)
    · refine OGo.step (fun _ kk => XS.icmpYes X0.here hx rfl (pc0 := 25) (pc' := 46) rfl (hb hby own_d_method_4_code_25) rfl (feq hm3).2 (by decide) (by decide) kk) ?_
      show OGo p e below (s₁.setTop (mkF m 46 #[.val (.ref x), .val (.int (Int32.ofNat sl.length)), .val (.int mm), .val (.int (Int32.ofNat i0)), .val (.int ch), .val (.int (Int32.ofNat k))] [])) _
      refine OGo.step (fun _ kk => XS.iloadN X0.here hx rfl (hb hby own_d_method_4_code_46) rfl kk) ?_
      show OGo p e below (s₁.setTop (mkF m 47 #[.val (.ref x), .val (.int (Int32.ofNat sl.length)), .val (.int mm), .val (.int (Int32.ofNat i0)), .val (.int ch), .val (.int (Int32.ofNat k))] [(.int mm)])) _
      refine OGo.step (fun _ kk => XS.iconst X0.here hx rfl (hb hby own_d_method_4_code_47) kk) ?_
      show OGo p e below (s₁.setTop (mkF m 48 #[.val (.ref x), .val (.int (Int32.ofNat sl.length)), .val (.int mm), .val (.int (Int32.ofNat i0)), .val (.int ch), .val (.int (Int32.ofNat k))] [(.int (4 : Int32)), (.int mm)])) _
      by_cases hm4 : mm = (4 : Int32)
      · refine OGo.step (fun _ kk => XS.icmpNo X0.here hx rfl (hb hby own_d_method_4_code_48) rfl (teq hm4).2 kk) ?_
        show OGo p e below (s₁.setTop (mkF m 51 #[.val (.ref x), .val (.int (Int32.ofNat sl.length)), .val (.int mm), .val (.int (Int32.ofNat i0)), .val (.int ch), .val (.int (Int32.ofNat k))] [])) _
        have t4 := own_T4 hm4 hk
        refine OGo.step (fun _ kk => XS.aloadN X0.here hx rfl (hb hby own_d_method_4_code_51) rfl rfl kk) ?_
        show OGo p e below (s₁.setTop (mkF m 52 #[.val (.ref x), .val (.int (Int32.ofNat sl.length)), .val (.int mm), .val (.int (Int32.ofNat i0)), .val (.int ch), .val (.int (Int32.ofNat k))] [(.ref x)])) _
        refine OGo.step (fun _ kk => XS.iload X0.here hx rfl (hb hby own_d_method_4_code_52) rfl kk) ?_
        show OGo p e below (s₁.setTop (mkF m 54 #[.val (.ref x), .val (.int (Int32.ofNat sl.length)), .val (.int mm), .val (.int (Int32.ofNat i0)), .val (.int ch), .val (.int (Int32.ofNat k))] [(.int (Int32.ofNat k)), (.ref x)])) _
        refine OGo.step (fun _ kk => XS.iconst X0.here hx rfl (hb hby own_d_method_4_code_54) kk) ?_
        show OGo p e below (s₁.setTop (mkF m 55 #[.val (.ref x), .val (.int (Int32.ofNat sl.length)), .val (.int mm), .val (.int (Int32.ofNat i0)), .val (.int ch), .val (.int (Int32.ofNat k))] [(.int (1 : Int32)), (.int (Int32.ofNat k)), (.ref x)])) _
        refine OGo.step (fun _ kk => XS.iadd X0.here hx rfl (hb hby own_d_method_4_code_55) rfl kk) ?_
        show OGo p e below (s₁.setTop (mkF m 56 #[.val (.ref x), .val (.int (Int32.ofNat sl.length)), .val (.int mm), .val (.int (Int32.ofNat i0)), .val (.int ch), .val (.int (Int32.ofNat k))] [(.int ((Int32.ofNat k) + (1 : Int32))), (.ref x)])) _
        rw [own_add1 k hk13]
        show OGo p e below (s₁.setTop (mkF m 56 #[.val (.ref x), .val (.int (Int32.ofNat sl.length)), .val (.int mm), .val (.int (Int32.ofNat i0)), .val (.int ch), .val (.int (Int32.ofNat k))] [(.int (Int32.ofNat (k + 1))), (.ref x)])) _
        refine own_virtualK X0 hx hZ (y := (⟨"java/lang/String", "charAt", "(I)C"⟩ : MethodName)) (z := (⟨"java/lang/String", "charAt", "(I)C"⟩ : MethodName)) hown (hw _ (List.mem_of_getElem? (i := 30) rfl)) (hw _ (List.mem_of_getElem? (i := 31) rfl)) (notFace_of_selects (args := #[]) (mvT hZ (hw _ (List.mem_of_getElem? (i := 33) rfl)))) (hw _ (List.mem_of_getElem? (i := 33) rfl)) (hw _ (List.mem_of_getElem? (i := 32) rfl)) (by decide) (b := x) G.exa (W := 0) (own_chS (W := 0) hZ (fun d hd => hw d ((by decide +kernel : ∀ d ∈ StrChars.Road.wordsChN, d ∈ tables_1) d hd)) (kI := 4) (hw _ (List.mem_of_getElem? (i := 6) rfl)) (i := (k + 1)) G hs SC hzc SF hfm t4.1 n0 (by decide) (by decide)) e0 (pc := 56) (Ls := #[.val (.ref x), .val (.int (Int32.ofNat sl.length)), .val (.int mm), .val (.int (Int32.ofNat i0)), .val (.int ch), .val (.int (Int32.ofNat k))]) (argsL := [(.int (Int32.ofNat (k + 1)))]) (rest := []) (by rw [hml]; rfl) (lenOf own_pd0 rfl) rfl (hb hby own_d_method_4_code_56) (by decide) (by decide) ?_
        intro v11 T11 L11 X11 hQ11
        obtain ⟨rfl, N11, e11⟩ := hQ11
        show OGo p e below (T11.setTop (mkF m 59 #[.val (.ref x), .val (.int (Int32.ofNat sl.length)), .val (.int mm), .val (.int (Int32.ofNat i0)), .val (.int ch), .val (.int (Int32.ofNat k))] [(.int (sl.getD (k + 1) 0))])) _
        have Nc11 := Fr.app (Fr.nil n0) N11
        exact own_retN X11 hx hlk hret (by simp) (hb hby own_d_method_4_code_59) ⟨by rw [t4.2, own_narC (hs _ (own_mem t4.1))], Nc11, e11⟩ (by decide) (by decide)
      · refine OGo.step (fun _ kk => XS.icmpYes X0.here hx rfl (pc0 := 48) (pc' := 60) rfl (hb hby own_d_method_4_code_48) rfl (feq hm4).2 (by decide) (by decide) kk) ?_
        show OGo p e below (s₁.setTop (mkF m 60 #[.val (.ref x), .val (.int (Int32.ofNat sl.length)), .val (.int mm), .val (.int (Int32.ofNat i0)), .val (.int ch), .val (.int (Int32.ofNat k))] [])) _
        refine OGo.step (fun _ kk => XS.iloadN X0.here hx rfl (hb hby own_d_method_4_code_60) rfl kk) ?_
        show OGo p e below (s₁.setTop (mkF m 61 #[.val (.ref x), .val (.int (Int32.ofNat sl.length)), .val (.int mm), .val (.int (Int32.ofNat i0)), .val (.int ch), .val (.int (Int32.ofNat k))] [(.int mm)])) _
        refine OGo.step (fun _ kk => XS.iconst X0.here hx rfl (hb hby own_d_method_4_code_61) kk) ?_
        show OGo p e below (s₁.setTop (mkF m 62 #[.val (.ref x), .val (.int (Int32.ofNat sl.length)), .val (.int mm), .val (.int (Int32.ofNat i0)), .val (.int ch), .val (.int (Int32.ofNat k))] [(.int (5 : Int32)), (.int mm)])) _
        by_cases hm5 : mm = (5 : Int32)
        · refine OGo.step (fun _ kk => XS.icmpNo X0.here hx rfl (hb hby own_d_method_4_code_62) rfl (teq hm5).2 kk) ?_
          show OGo p e below (s₁.setTop (mkF m 65 #[.val (.ref x), .val (.int (Int32.ofNat sl.length)), .val (.int mm), .val (.int (Int32.ofNat i0)), .val (.int ch), .val (.int (Int32.ofNat k))] [])) _
          have t5 := own_T5 hm5 hk
          refine OGo.step (fun _ kk => XS.iload X0.here hx rfl (hb hby own_d_method_4_code_65) rfl kk) ?_
          show OGo p e below (s₁.setTop (mkF m 67 #[.val (.ref x), .val (.int (Int32.ofNat sl.length)), .val (.int mm), .val (.int (Int32.ofNat i0)), .val (.int ch), .val (.int (Int32.ofNat k))] [(.int (Int32.ofNat k))])) _
          by_cases hk0 : (Int32.ofNat k) = (0 : Int32)
          · refine OGo.step (fun _ kk => XS.ifNo X0.here hx rfl (hb hby own_d_method_4_code_67) rfl ((if0 _ _).trans (teq hk0).2) kk) ?_
            show OGo p e below (s₁.setTop (mkF m 70 #[.val (.ref x), .val (.int (Int32.ofNat sl.length)), .val (.int mm), .val (.int (Int32.ofNat i0)), .val (.int ch), .val (.int (Int32.ofNat k))] [])) _
            refine OGo.step (fun _ kk => XS.iload X0.here hx rfl (hb hby own_d_method_4_code_70) rfl kk) ?_
            show OGo p e below (s₁.setTop (mkF m 72 #[.val (.ref x), .val (.int (Int32.ofNat sl.length)), .val (.int mm), .val (.int (Int32.ofNat i0)), .val (.int ch), .val (.int (Int32.ofNat k))] [(.int ch)])) _
            refine OGo.step (fun _ kk => XS.goto X0.here hx rfl (pc0 := 72) (pc' := 83) rfl (hb hby own_d_method_4_code_72) (by decide) (by decide) kk) ?_
            show OGo p e below (s₁.setTop (mkF m 83 #[.val (.ref x), .val (.int (Int32.ofNat sl.length)), .val (.int mm), .val (.int (Int32.ofNat i0)), .val (.int ch), .val (.int (Int32.ofNat k))] [(.int ch)])) _
            exact own_retN X0 hx hlk hret (by simp) (hb hby own_d_method_4_code_83) ⟨by rw [t5.1 (own_eqn k hk13 0 (by decide) hk0), own_narC hc], Fr.nil n0, e0⟩ (by decide) (by decide)
          · refine OGo.step (fun _ kk => XS.ifYes X0.here hx rfl (pc0 := 67) (pc' := 75) rfl (hb hby own_d_method_4_code_67) rfl ((if0 _ _).trans (feq hk0).2) (by decide) (by decide) kk) ?_
            show OGo p e below (s₁.setTop (mkF m 75 #[.val (.ref x), .val (.int (Int32.ofNat sl.length)), .val (.int mm), .val (.int (Int32.ofNat i0)), .val (.int ch), .val (.int (Int32.ofNat k))] [])) _
            have kn : k ≠ 0 := fun z => hk0 (by rw [z]; rfl)
            refine OGo.step (fun _ kk => XS.aloadN X0.here hx rfl (hb hby own_d_method_4_code_75) rfl rfl kk) ?_
            show OGo p e below (s₁.setTop (mkF m 76 #[.val (.ref x), .val (.int (Int32.ofNat sl.length)), .val (.int mm), .val (.int (Int32.ofNat i0)), .val (.int ch), .val (.int (Int32.ofNat k))] [(.ref x)])) _
            refine OGo.step (fun _ kk => XS.iload X0.here hx rfl (hb hby own_d_method_4_code_76) rfl kk) ?_
            show OGo p e below (s₁.setTop (mkF m 78 #[.val (.ref x), .val (.int (Int32.ofNat sl.length)), .val (.int mm), .val (.int (Int32.ofNat i0)), .val (.int ch), .val (.int (Int32.ofNat k))] [(.int (Int32.ofNat k)), (.ref x)])) _
            refine OGo.step (fun _ kk => XS.iconst X0.here hx rfl (hb hby own_d_method_4_code_78) kk) ?_
            show OGo p e below (s₁.setTop (mkF m 79 #[.val (.ref x), .val (.int (Int32.ofNat sl.length)), .val (.int mm), .val (.int (Int32.ofNat i0)), .val (.int ch), .val (.int (Int32.ofNat k))] [(.int (1 : Int32)), (.int (Int32.ofNat k)), (.ref x)])) _
            refine OGo.step (fun _ kk => XS.isub X0.here hx rfl (hb hby own_d_method_4_code_79) rfl kk) ?_
            show OGo p e below (s₁.setTop (mkF m 80 #[.val (.ref x), .val (.int (Int32.ofNat sl.length)), .val (.int mm), .val (.int (Int32.ofNat i0)), .val (.int ch), .val (.int (Int32.ofNat k))] [(.int ((Int32.ofNat k) - (1 : Int32))), (.ref x)])) _
            rw [own_sub1 k hk13 (by omega)]
            show OGo p e below (s₁.setTop (mkF m 80 #[.val (.ref x), .val (.int (Int32.ofNat sl.length)), .val (.int mm), .val (.int (Int32.ofNat i0)), .val (.int ch), .val (.int (Int32.ofNat k))] [(.int (Int32.ofNat (k - 1))), (.ref x)])) _
            refine own_virtualK X0 hx hZ (y := (⟨"java/lang/String", "charAt", "(I)C"⟩ : MethodName)) (z := (⟨"java/lang/String", "charAt", "(I)C"⟩ : MethodName)) hown (hw _ (List.mem_of_getElem? (i := 30) rfl)) (hw _ (List.mem_of_getElem? (i := 31) rfl)) (notFace_of_selects (args := #[]) (mvT hZ (hw _ (List.mem_of_getElem? (i := 33) rfl)))) (hw _ (List.mem_of_getElem? (i := 33) rfl)) (hw _ (List.mem_of_getElem? (i := 32) rfl)) (by decide) (b := x) G.exa (W := 0) (own_chS (W := 0) hZ (fun d hd => hw d ((by decide +kernel : ∀ d ∈ StrChars.Road.wordsChN, d ∈ tables_1) d hd)) (kI := 4) (hw _ (List.mem_of_getElem? (i := 6) rfl)) (i := (k - 1)) G hs SC hzc SF hfm (t5.2 kn).1 n0 (by decide) (by decide)) e0 (pc := 80) (Ls := #[.val (.ref x), .val (.int (Int32.ofNat sl.length)), .val (.int mm), .val (.int (Int32.ofNat i0)), .val (.int ch), .val (.int (Int32.ofNat k))]) (argsL := [(.int (Int32.ofNat (k - 1)))]) (rest := []) (by rw [hml]; rfl) (lenOf own_pd0 rfl) rfl (hb hby own_d_method_4_code_80) (by decide) (by decide) ?_
            intro v12 T12 L12 X12 hQ12
            obtain ⟨rfl, N12, e12⟩ := hQ12
            show OGo p e below (T12.setTop (mkF m 83 #[.val (.ref x), .val (.int (Int32.ofNat sl.length)), .val (.int mm), .val (.int (Int32.ofNat i0)), .val (.int ch), .val (.int (Int32.ofNat k))] [(.int (sl.getD (k - 1) 0))])) _
            have Nc12 := Fr.app (Fr.nil n0) N12
            exact own_retN X12 hx hlk hret (by simp) (hb hby own_d_method_4_code_83) ⟨by rw [(t5.2 kn).2, own_narC (hs _ (own_mem (t5.2 kn).1))], Nc12, e12⟩ (by decide) (by decide)
        · refine OGo.step (fun _ kk => XS.icmpYes X0.here hx rfl (pc0 := 62) (pc' := 84) rfl (hb hby own_d_method_4_code_62) rfl (feq hm5).2 (by decide) (by decide) kk) ?_
          show OGo p e below (s₁.setTop (mkF m 84 #[.val (.ref x), .val (.int (Int32.ofNat sl.length)), .val (.int mm), .val (.int (Int32.ofNat i0)), .val (.int ch), .val (.int (Int32.ofNat k))] [])) _
          refine OGo.step (fun _ kk => XS.iloadN X0.here hx rfl (hb hby own_d_method_4_code_84) rfl kk) ?_
          show OGo p e below (s₁.setTop (mkF m 85 #[.val (.ref x), .val (.int (Int32.ofNat sl.length)), .val (.int mm), .val (.int (Int32.ofNat i0)), .val (.int ch), .val (.int (Int32.ofNat k))] [(.int mm)])) _
          refine OGo.step (fun _ kk => XS.bipush X0.here hx rfl (hb hby own_d_method_4_code_85) kk) ?_
          show OGo p e below (s₁.setTop (mkF m 87 #[.val (.ref x), .val (.int (Int32.ofNat sl.length)), .val (.int mm), .val (.int (Int32.ofNat i0)), .val (.int ch), .val (.int (Int32.ofNat k))] [(.int (6 : Int32)), (.int mm)])) _
          by_cases hm6 : mm = (6 : Int32)
          · refine OGo.step (fun _ kk => XS.icmpNo X0.here hx rfl (hb hby own_d_method_4_code_87) rfl (teq hm6).2 kk) ?_
            show OGo p e below (s₁.setTop (mkF m 90 #[.val (.ref x), .val (.int (Int32.ofNat sl.length)), .val (.int mm), .val (.int (Int32.ofNat i0)), .val (.int ch), .val (.int (Int32.ofNat k))] [])) _
            refine OGo.step (fun _ kk => XS.iload X0.here hx rfl (hb hby own_d_method_4_code_90) rfl kk) ?_
            show OGo p e below (s₁.setTop (mkF m 92 #[.val (.ref x), .val (.int (Int32.ofNat sl.length)), .val (.int mm), .val (.int (Int32.ofNat i0)), .val (.int ch), .val (.int (Int32.ofNat k))] [(.int ch)])) _
            exact own_retN X0 hx hlk hret (by simp) (hb hby own_d_method_4_code_92) ⟨by rw [own_T6 hm6 hk, own_narC hc], Fr.nil n0, e0⟩ (by decide) (by decide)
          · refine OGo.step (fun _ kk => XS.icmpYes X0.here hx rfl (pc0 := 87) (pc' := 93) rfl (hb hby own_d_method_4_code_87) rfl (feq hm6).2 (by decide) (by decide) kk) ?_
            show OGo p e below (s₁.setTop (mkF m 93 #[.val (.ref x), .val (.int (Int32.ofNat sl.length)), .val (.int mm), .val (.int (Int32.ofNat i0)), .val (.int ch), .val (.int (Int32.ofNat k))] [])) _
            have t0 := own_T0 hm1 hm3 hm4 hm5 hm6 hk
            refine OGo.step (fun _ kk => XS.aloadN X0.here hx rfl (hb hby own_d_method_4_code_93) rfl rfl kk) ?_
            show OGo p e below (s₁.setTop (mkF m 94 #[.val (.ref x), .val (.int (Int32.ofNat sl.length)), .val (.int mm), .val (.int (Int32.ofNat i0)), .val (.int ch), .val (.int (Int32.ofNat k))] [(.ref x)])) _
            refine OGo.step (fun _ kk => XS.iload X0.here hx rfl (hb hby own_d_method_4_code_94) rfl kk) ?_
            show OGo p e below (s₁.setTop (mkF m 96 #[.val (.ref x), .val (.int (Int32.ofNat sl.length)), .val (.int mm), .val (.int (Int32.ofNat i0)), .val (.int ch), .val (.int (Int32.ofNat k))] [(.int (Int32.ofNat k)), (.ref x)])) _
            refine own_virtualK X0 hx hZ (y := (⟨"java/lang/String", "charAt", "(I)C"⟩ : MethodName)) (z := (⟨"java/lang/String", "charAt", "(I)C"⟩ : MethodName)) hown (hw _ (List.mem_of_getElem? (i := 30) rfl)) (hw _ (List.mem_of_getElem? (i := 31) rfl)) (notFace_of_selects (args := #[]) (mvT hZ (hw _ (List.mem_of_getElem? (i := 33) rfl)))) (hw _ (List.mem_of_getElem? (i := 33) rfl)) (hw _ (List.mem_of_getElem? (i := 32) rfl)) (by decide) (b := x) G.exa (W := 0) (own_chS (W := 0) hZ (fun d hd => hw d ((by decide +kernel : ∀ d ∈ StrChars.Road.wordsChN, d ∈ tables_1) d hd)) (kI := 4) (hw _ (List.mem_of_getElem? (i := 6) rfl)) (i := k) G hs SC hzc SF hfm t0.1 n0 (by decide) (by decide)) e0 (pc := 96) (Ls := #[.val (.ref x), .val (.int (Int32.ofNat sl.length)), .val (.int mm), .val (.int (Int32.ofNat i0)), .val (.int ch), .val (.int (Int32.ofNat k))]) (argsL := [(.int (Int32.ofNat k))]) (rest := []) (by rw [hml]; rfl) (lenOf own_pd0 rfl) rfl (hb hby own_d_method_4_code_96) (by decide) (by decide) ?_
            intro v13 T13 L13 X13 hQ13
            obtain ⟨rfl, N13, e13⟩ := hQ13
            show OGo p e below (T13.setTop (mkF m 99 #[.val (.ref x), .val (.int (Int32.ofNat sl.length)), .val (.int mm), .val (.int (Int32.ofNat i0)), .val (.int ch), .val (.int (Int32.ofNat k))] [(.int (sl.getD k 0))])) _
            have Nc13 := Fr.app (Fr.nil n0) N13
            exact own_retN X13 hx hlk hret (by simp) (hb hby own_d_method_4_code_99) ⟨by rw [t0.2, own_narC (hs _ (own_mem t0.1))], Nc13, e13⟩ (by decide) (by decide)

set_option maxRecDepth 65536 in
set_option maxHeartbeats 40000000 in
theorem own_values (l : Launch) (Z : State) (a0 : Array Value) (hw : ∀ d ∈ tables_1, d.before a0 Z = true) (ws : List Jvm.Cond) (va : Addr) (vc : Cell) (h0 : Heap) (n0 : Nat) (Z0 : n0 ≤ h0.size) (SV : Sta Z h0 "com/example/tenantd/tenantd/RoleType" "$VALUES" "[Lcom/example/tenantd/tenantd/RoleType;" (.ref va)) (AV : Arr Z h0 va vc (.object "com/example/tenantd/tenantd/RoleType")) (EV : Exa Z h0 va "[Lcom/example/tenantd/tenantd/RoleType;") (FV : FitC Z vc) (VS : vc.slots.size = 4) :
    OMet l Z (⟨"com/example/tenantd/tenantd/RoleType", "values", "()[Lcom/example/tenantd/tenantd/RoleType;"⟩ : MethodName) prog_11_method_1_code 0 (some (.array (.object "com/example/tenantd/tenantd/RoleType"))) ws ({ frames := 1, cells := 1, slots := 4, locals := 14 } : Room) #[] h0 (fun v h L => ∃ b : Addr, v = some (.ref b) ∧ Fr n0 L ∧ Ext h0 h ∧ Arr Z h b (cloneOf vc) (.object "com/example/tenantd/tenantd/RoleType")) := by
  refine OMet.body (plainFor_of_name own_pn1) ?_
  intro p e s m below meth c s₁ hx hby hml hown hnm hret hlk hZ X0 e0
  refine OGo.step (fun _ kk => castTop (show entryFrame m #[] 0 = (mkF m 0 #[] []) from by first | (simp [entryFrame, mkF, argsToLocals, Value.category]; done) | rfl) kk) ?_
  show OGo p e below (s₁.setTop (mkF m 0 #[] [])) _
  obtain ⟨T14, X14, e14, st14⟩ := getS2 X0 hx hZ hown (host := "") (Or.inl (hw _ (List.mem_of_getElem? (i := 80) rfl))) Via.refl e0 SV (g := (mkF m 0 #[] [])) rfl (hb hby own_d_prog_11_method_1_code_0)
  refine OGo.step st14 ?_
  show OGo p e below (T14.setTop (mkF m 3 #[] [(.ref va)])) _
  obtain ⟨T15, h15, X15, e15, E15, A15, B15, st15⟩ := cloneA X14 hx hZ hown (hw _ (List.mem_of_getElem? (i := 82) rfl)) (hw _ (List.mem_of_getElem? (i := 83) rfl)) (hw _ (List.mem_of_getElem? (i := 87) rfl)) (hw _ (List.mem_of_getElem? (i := 85) rfl)) (hw _ (List.mem_of_getElem? (i := 86) rfl)) (hw _ (List.mem_of_getElem? (i := 88) rfl)) e14 AV EV FV (g := (mkF m 3 #[] [(.ref va)])) rfl (by rw [hml]; rfl) rfl (hb hby own_d_prog_11_method_1_code_3) (by decide) (W := 0) (cap := 4) (by show 2 * 0 + _ ≤ _; exact Nat.le_of_eq rfl) (by decide) (Nat.le_of_eq VS) (by decide) (by decide)
  obtain ⟨b, g15⟩ : ∃ z, z = h0.size := ⟨_, rfl⟩
  rw [← g15] at A15 B15 st15
  refine OGo.step st15 ?_
  show OGo p e below (T15.setTop (mkF m 6 #[] [(.ref b)])) _
  obtain ⟨T16, X16, e16, st16⟩ := castY X15 hx hZ hown (hw _ (List.mem_of_getElem? (i := 94) rfl)) e15 (Ins.self B15) (g := (mkF m 6 #[] [(.ref b)])) rfl rfl (hb hby own_d_prog_11_method_1_code_6)
  refine OGo.step st16 ?_
  show OGo p e below (T16.setTop (mkF m 9 #[] [(.ref b)])) _
  exact own_ret X16 hx hlk hret rfl (Or.inr (Or.inr (Or.inr (Or.inr ⟨rfl, rfl, rfl⟩)))) (hb hby own_d_prog_11_method_1_code_9) (by rw [e16]; exact ⟨b, rfl, Fr.nil n0, E15, A15⟩) (by decide) (by decide)

set_option maxRecDepth 65536 in
set_option maxHeartbeats 40000000 in
theorem own_ofS (l : Launch) (Z : State) (a0 : Array Value) (hw : ∀ d ∈ tables_1, d.before a0 Z = true) (ws : List Jvm.Cond) (va : Addr) (vc : Cell) (r0 r1 r2 r3 t0 t1 t2 t3 eo : Addr) (zc : Int32) (x : Addr) (cs : List Int32) (h0 : Heap) (n0 : Nat) (Z0 : n0 ≤ h0.size) (SC : Sta Z h0 "java/lang/String" "COMPACT_STRINGS" "Z" (.int zc)) (hzc : ¬ zc = 0) (SV : Sta Z h0 "com/example/tenantd/tenantd/RoleType" "$VALUES" "[Lcom/example/tenantd/tenantd/RoleType;" (.ref va)) (AV : Arr Z h0 va vc (.object "com/example/tenantd/tenantd/RoleType")) (EV : Exa Z h0 va "[Lcom/example/tenantd/tenantd/RoleType;") (FV : FitC Z vc) (VS : vc.slots.size = 4) (V0 : vc.slots[0]? = some (.ref r0)) (Ft0 : Fld Z h0 r0 "com/example/tenantd/tenantd/RoleType" "text" "Ljava/lang/String;" (.ref t0)) (O0 : OStr Z h0 t0 [65, 100, 109, 105, 110]) (V1 : vc.slots[1]? = some (.ref r1)) (Ft1 : Fld Z h0 r1 "com/example/tenantd/tenantd/RoleType" "text" "Ljava/lang/String;" (.ref t1)) (O1 : OStr Z h0 t1 [82, 101, 115, 111, 117, 114, 99, 101, 65, 100, 109, 105, 110]) (V2 : vc.slots[2]? = some (.ref r2)) (Ft2 : Fld Z h0 r2 "com/example/tenantd/tenantd/RoleType" "text" "Ljava/lang/String;" (.ref t2)) (O2 : OStr Z h0 t2 [68, 111, 109, 97, 105, 110, 65, 100, 109, 105, 110]) (V3 : vc.slots[3]? = some (.ref r3)) (Ft3 : Fld Z h0 r3 "com/example/tenantd/tenantd/RoleType" "text" "Ljava/lang/String;" (.ref t3)) (O3 : OStr Z h0 t3 [85, 115, 101, 114]) (SE : Sta Z h0 "java/util/Optional" "EMPTY" "Ljava/util/Optional;" (.ref eo)) (EO : Exa Z h0 eo "java/util/Optional") (FO : Fld Z h0 eo "java/util/Optional" "value" "Ljava/lang/Object;" .null) (G : OStr Z h0 x cs) :
    OMet l Z (⟨"com/example/tenantd/tenantd/RoleType", "ofText", "(Ljava/lang/String;)Ljava/util/Optional;"⟩ : MethodName) prog_11_method_8_code 5 (some (.object "java/util/Optional")) ws ({ frames := 3, cells := 2, slots := 5, locals := 38 } : Room) #[(.ref x)] h0 (fun v h L => ∃ (b : Addr) (u : Value), v = some (.ref b) ∧ Fr n0 L ∧ Ext h0 h ∧ Exa Z h b "java/util/Optional" ∧ Fld Z h b "java/util/Optional" "value" "Ljava/lang/Object;" u ∧ u = own_of cs r0 r1 r2 r3) := by
  refine OMet.body (plainFor_of_name own_pn1) ?_
  intro p e s m below meth c s₁ hx hby hml hown hnm hret hlk hZ X0 e0
  refine OGo.step (fun _ kk => castTop (show entryFrame m #[(.ref x)] 5 = (mkF m 0 #[.val (.ref x), .unset, .unset, .unset, .unset] []) from by first | (simp [entryFrame, mkF, argsToLocals, Value.category]; done) | rfl) kk) ?_
  show OGo p e below (s₁.setTop (mkF m 0 #[.val (.ref x), .unset, .unset, .unset, .unset] [])) _
  refine own_callS X0 hx hZ (y := (⟨"com/example/tenantd/tenantd/RoleType", "values", "()[Lcom/example/tenantd/tenantd/RoleType;"⟩ : MethodName)) hown (hw _ (List.mem_of_getElem? (i := 77) rfl)) (hw _ (List.mem_of_getElem? (i := 78) rfl)) (hw _ (List.mem_of_getElem? (i := 75) rfl)) (hw _ (List.mem_of_getElem? (i := 79) rfl)) (by decide) (W := 0) (own_values l Z a0 hw [] va vc h0 n0 Z0 SV AV EV FV VS) e0  (pc := 0) (Ls := #[.val (.ref x), .unset, .unset, .unset, .unset]) (argsL := []) (rest := []) (by rw [hml]; rfl) (lenOf own_pd1 rfl) rfl (hb hby own_d_prog_11_method_8_code_0) (by decide) (by decide) (by decide) (by decide) ?_
  intro v17 T17 L17 X17 hQ17
  obtain ⟨vb, rfl, N17, Xe17, AB⟩ := hQ17
  show OGo p e below (T17.setTop (mkF m 3 #[.val (.ref x), .unset, .unset, .unset, .unset] [(.ref vb)])) _
  have Nc17 := Fr.app (Fr.nil n0) N17
  have sz17 : n0 ≤ T17.heap.size := Nat.le_trans Z0 Xe17.1
  refine OGo.step (fun _ kk => XS.astoreN X17.here hx rfl (hb hby own_d_prog_11_method_8_code_3) rfl rfl (l' := #[.val (.ref x), .val (.ref vb), .unset, .unset, .unset]) rfl kk) ?_
  show OGo p e below (T17.setTop (mkF m 4 #[.val (.ref x), .val (.ref vb), .unset, .unset, .unset] [])) _
  refine OGo.step (fun _ kk => XS.aloadN X17.here hx rfl (hb hby own_d_prog_11_method_8_code_4) rfl rfl kk) ?_
  show OGo p e below (T17.setTop (mkF m 5 #[.val (.ref x), .val (.ref vb), .unset, .unset, .unset] [(.ref vb)])) _
  refine OGo.step (fun _ kk => X17.arraylength hx (AB).1 (State.isArrayOf_alike hZ.alike (AB).2.1) (g := (mkF m 5 #[.val (.ref x), .val (.ref vb), .unset, .unset, .unset] [(.ref vb)])) rfl rfl (hb hby own_d_prog_11_method_8_code_5) _ kk) ?_
  rw [len_of (z := 4) VS (by decide)]
  show OGo p e below (T17.setTop (mkF m 6 #[.val (.ref x), .val (.ref vb), .unset, .unset, .unset] [(.int (4 : Int32))])) _
  refine OGo.step (fun _ kk => XS.istoreN X17.here hx rfl (hb hby own_d_prog_11_method_8_code_6) rfl (l' := #[.val (.ref x), .val (.ref vb), .val (.int (4 : Int32)), .unset, .unset]) rfl kk) ?_
  show OGo p e below (T17.setTop (mkF m 7 #[.val (.ref x), .val (.ref vb), .val (.int (4 : Int32)), .unset, .unset] [])) _
  refine OGo.step (fun _ kk => XS.iconst X17.here hx rfl (hb hby own_d_prog_11_method_8_code_7) kk) ?_
  show OGo p e below (T17.setTop (mkF m 8 #[.val (.ref x), .val (.ref vb), .val (.int (4 : Int32)), .unset, .unset] [(.int (0 : Int32))])) _
  refine OGo.step (fun _ kk => XS.istoreN X17.here hx rfl (hb hby own_d_prog_11_method_8_code_8) rfl (l' := #[.val (.ref x), .val (.ref vb), .val (.int (4 : Int32)), .val (.int (0 : Int32)), .unset]) rfl kk) ?_
  show OGo p e below (T17.setTop (mkF m 9 #[.val (.ref x), .val (.ref vb), .val (.int (4 : Int32)), .val (.int (0 : Int32)), .unset] [])) _
  refine OGo.step (fun _ kk => XS.iloadN X17.here hx rfl (hb hby own_d_prog_11_method_8_code_9) rfl kk) ?_
  show OGo p e below (T17.setTop (mkF m 10 #[.val (.ref x), .val (.ref vb), .val (.int (4 : Int32)), .val (.int (0 : Int32)), .unset] [(.int (0 : Int32))])) _
  refine OGo.step (fun _ kk => XS.iloadN X17.here hx rfl (hb hby own_d_prog_11_method_8_code_10) rfl kk) ?_
  show OGo p e below (T17.setTop (mkF m 11 #[.val (.ref x), .val (.ref vb), .val (.int (4 : Int32)), .val (.int (0 : Int32)), .unset] [(.int (4 : Int32)), (.int (0 : Int32))])) _
  refine OGo.step (fun _ kk => XS.icmpNo X17.here hx rfl (hb hby own_d_prog_11_method_8_code_11) rfl (tlt (by decide)).2.1 kk) ?_
  show OGo p e below (T17.setTop (mkF m 14 #[.val (.ref x), .val (.ref vb), .val (.int (4 : Int32)), .val (.int (0 : Int32)), .unset] [])) _
  refine OGo.step (fun _ kk => XS.aloadN X17.here hx rfl (hb hby own_d_prog_11_method_8_code_14) rfl rfl kk) ?_
  show OGo p e below (T17.setTop (mkF m 15 #[.val (.ref x), .val (.ref vb), .val (.int (4 : Int32)), .val (.int (0 : Int32)), .unset] [(.ref vb)])) _
  refine OGo.step (fun _ kk => XS.iloadN X17.here hx rfl (hb hby own_d_prog_11_method_8_code_15) rfl kk) ?_
  show OGo p e below (T17.setTop (mkF m 16 #[.val (.ref x), .val (.ref vb), .val (.int (4 : Int32)), .val (.int (0 : Int32)), .unset] [(.int (0 : Int32)), (.ref vb)])) _
  refine OGo.step (fun _ kk => X17.aaload hx (j := (0 : Int32)) (v := (.ref r0)) (AB).1 (State.isArrayOf_alike hZ.alike (AB).2.1) rfl (AB).2.2 (inb_of (z := 4) VS ⟨by decide, by decide⟩) V0 (g := (mkF m 16 #[.val (.ref x), .val (.ref vb), .val (.int (4 : Int32)), .val (.int (0 : Int32)), .unset] [(.int (0 : Int32)), (.ref vb)])) rfl rfl (hb hby own_d_prog_11_method_8_code_16) _ kk) ?_
  show OGo p e below (T17.setTop (mkF m 17 #[.val (.ref x), .val (.ref vb), .val (.int (4 : Int32)), .val (.int (0 : Int32)), .unset] [(.ref r0)])) _
  refine OGo.step (fun _ kk => XS.astore X17.here hx rfl (hb hby own_d_prog_11_method_8_code_17) rfl rfl (l' := #[.val (.ref x), .val (.ref vb), .val (.int (4 : Int32)), .val (.int (0 : Int32)), .val (.ref r0)]) rfl kk) ?_
  show OGo p e below (T17.setTop (mkF m 19 #[.val (.ref x), .val (.ref vb), .val (.int (4 : Int32)), .val (.int (0 : Int32)), .val (.ref r0)] [])) _
  refine OGo.step (fun _ kk => XS.aload X17.here hx rfl (hb hby own_d_prog_11_method_8_code_19) rfl rfl kk) ?_
  show OGo p e below (T17.setTop (mkF m 21 #[.val (.ref x), .val (.ref vb), .val (.int (4 : Int32)), .val (.int (0 : Int32)), .val (.ref r0)] [(.ref r0)])) _
  have fx18 := Ft0.ext Xe17
  obtain ⟨T19, X19, e19, st19⟩ := getF X17 hx hZ hown (host := "") (Or.inl (hw _ (List.mem_of_getElem? (i := 96) rfl))) Via.refl rfl fx18 (g := (mkF m 21 #[.val (.ref x), .val (.ref vb), .val (.int (4 : Int32)), .val (.int (0 : Int32)), .val (.ref r0)] [(.ref r0)])) rfl rfl (hb hby own_d_prog_11_method_8_code_21)
  refine OGo.step st19 ?_
  show OGo p e below (T19.setTop (mkF m 24 #[.val (.ref x), .val (.ref vb), .val (.int (4 : Int32)), .val (.int (0 : Int32)), .val (.ref r0)] [(.ref t0)])) _
  refine OGo.step (fun _ kk => XS.aloadN X19.here hx rfl (hb hby own_d_prog_11_method_8_code_24) rfl rfl kk) ?_
  show OGo p e below (T19.setTop (mkF m 25 #[.val (.ref x), .val (.ref vb), .val (.int (4 : Int32)), .val (.int (0 : Int32)), .val (.ref r0)] [(.ref x), (.ref t0)])) _
  have fx20 := O0.ext Xe17
  have fx21 := G.ext Xe17
  have fx22 := SC.ext Xe17
  refine own_virtualK X19 hx hZ (y := (⟨"java/lang/String", "equals", "(Ljava/lang/Object;)Z"⟩ : MethodName)) (z := (⟨"java/lang/String", "equals", "(Ljava/lang/Object;)Z"⟩ : MethodName)) hown (hw _ (List.mem_of_getElem? (i := 98) rfl)) (hw _ (List.mem_of_getElem? (i := 99) rfl)) (notFace_of_selects (args := #[]) (mvT hZ (hw _ (List.mem_of_getElem? (i := 101) rfl)))) (hw _ (List.mem_of_getElem? (i := 101) rfl)) (hw _ (List.mem_of_getElem? (i := 100) rfl)) (by decide) (b := t0) fx20.exa (W := 0) (own_seq (W := 0) hZ (fun d hd => hw d ((by decide +kernel : ∀ d ∈ StrChars.Road.wordsEq, d ∈ tables_1) d hd)) (kI := 4) (hw _ (List.mem_of_getElem? (i := 6) rfl)) fx20 fx21 fx22 hzc n0 (by decide) (by decide)) e19 (pc := 25) (Ls := #[.val (.ref x), .val (.ref vb), .val (.int (4 : Int32)), .val (.int (0 : Int32)), .val (.ref r0)]) (argsL := [(.ref x)]) (rest := []) (by rw [hml]; rfl) (lenOf own_pd2 rfl) rfl (hb hby own_d_prog_11_method_8_code_25) (by decide) (by decide) ?_
  intro v23 T23 L23 X23 hQ23
  obtain ⟨rfl, N23, e23⟩ := hQ23
  show OGo p e below (T23.setTop (mkF m 28 #[.val (.ref x), .val (.ref vb), .val (.int (4 : Int32)), .val (.int (0 : Int32)), .val (.ref r0)] [(.int (if ([65, 100, 109, 105, 110] : List Int32) = cs then (1 : Int32) else 0))])) _
  have Nc23 := Fr.app Nc17 N23
  by_cases hr0 : (if ([65, 100, 109, 105, 110] : List Int32) = cs then (1 : Int32) else 0) = (0 : Int32)
  · refine OGo.step (fun _ kk => XS.ifYes X23.here hx rfl (pc0 := 28) (pc' := 37) rfl (hb hby own_d_prog_11_method_8_code_28) rfl ((if0 _ _).trans (teq hr0).1) (by decide) (by decide) kk) ?_
    show OGo p e below (T23.setTop (mkF m 37 #[.val (.ref x), .val (.ref vb), .val (.int (4 : Int32)), .val (.int (0 : Int32)), .val (.ref r0)] [])) _
    refine OGo.step (fun _ kk => XS.iinc X23.here hx rfl (hb hby own_d_prog_11_method_8_code_37) rfl (l' := #[.val (.ref x), .val (.ref vb), .val (.int (4 : Int32)), .val (.int ((0 : Int32) + (1 : Int32))), .val (.ref r0)]) rfl kk) ?_
    show OGo p e below (T23.setTop (mkF m 40 #[.val (.ref x), .val (.ref vb), .val (.int (4 : Int32)), .val (.int ((0 : Int32) + (1 : Int32))), .val (.ref r0)] [])) _
    refine OGo.step (fun _ kk => XS.goto X23.here hx rfl (pc0 := 40) (pc' := 9) rfl (hb hby own_d_prog_11_method_8_code_40) (by decide) (by decide) kk) ?_
    show OGo p e below (T23.setTop (mkF m 9 #[.val (.ref x), .val (.ref vb), .val (.int (4 : Int32)), .val (.int ((0 : Int32) + (1 : Int32))), .val (.ref r0)] [])) _
    show OGo p e below (T23.setTop (mkF m 9 #[.val (.ref x), .val (.ref vb), .val (.int (4 : Int32)), .val (.int (1 : Int32)), .val (.ref r0)] [])) _
    refine OGo.step (fun _ kk => XS.iloadN X23.here hx rfl (hb hby own_d_prog_11_method_8_code_9) rfl kk) ?_
    show OGo p e below (T23.setTop (mkF m 10 #[.val (.ref x), .val (.ref vb), .val (.int (4 : Int32)), .val (.int (1 : Int32)), .val (.ref r0)] [(.int (1 : Int32))])) _
    refine OGo.step (fun _ kk => XS.iloadN X23.here hx rfl (hb hby own_d_prog_11_method_8_code_10) rfl kk) ?_
    show OGo p e below (T23.setTop (mkF m 11 #[.val (.ref x), .val (.ref vb), .val (.int (4 : Int32)), .val (.int (1 : Int32)), .val (.ref r0)] [(.int (4 : Int32)), (.int (1 : Int32))])) _
    refine OGo.step (fun _ kk => XS.icmpNo X23.here hx rfl (hb hby own_d_prog_11_method_8_code_11) rfl (tlt (by decide)).2.1 kk) ?_
    show OGo p e below (T23.setTop (mkF m 14 #[.val (.ref x), .val (.ref vb), .val (.int (4 : Int32)), .val (.int (1 : Int32)), .val (.ref r0)] [])) _
    refine OGo.step (fun _ kk => XS.aloadN X23.here hx rfl (hb hby own_d_prog_11_method_8_code_14) rfl rfl kk) ?_
    show OGo p e below (T23.setTop (mkF m 15 #[.val (.ref x), .val (.ref vb), .val (.int (4 : Int32)), .val (.int (1 : Int32)), .val (.ref r0)] [(.ref vb)])) _
    refine OGo.step (fun _ kk => XS.iloadN X23.here hx rfl (hb hby own_d_prog_11_method_8_code_15) rfl kk) ?_
    show OGo p e below (T23.setTop (mkF m 16 #[.val (.ref x), .val (.ref vb), .val (.int (4 : Int32)), .val (.int (1 : Int32)), .val (.ref r0)] [(.int (1 : Int32)), (.ref vb)])) _
    refine OGo.step (fun _ kk => X23.aaload hx (j := (1 : Int32)) (v := (.ref r1)) (by rw [e23]; exact (AB).1) (State.isArrayOf_alike hZ.alike (AB).2.1) rfl (AB).2.2 (inb_of (z := 4) VS ⟨by decide, by decide⟩) V1 (g := (mkF m 16 #[.val (.ref x), .val (.ref vb), .val (.int (4 : Int32)), .val (.int (1 : Int32)), .val (.ref r0)] [(.int (1 : Int32)), (.ref vb)])) rfl rfl (hb hby own_d_prog_11_method_8_code_16) _ kk) ?_
    show OGo p e below (T23.setTop (mkF m 17 #[.val (.ref x), .val (.ref vb), .val (.int (4 : Int32)), .val (.int (1 : Int32)), .val (.ref r0)] [(.ref r1)])) _
    refine OGo.step (fun _ kk => XS.astore X23.here hx rfl (hb hby own_d_prog_11_method_8_code_17) rfl rfl (l' := #[.val (.ref x), .val (.ref vb), .val (.int (4 : Int32)), .val (.int (1 : Int32)), .val (.ref r1)]) rfl kk) ?_
    show OGo p e below (T23.setTop (mkF m 19 #[.val (.ref x), .val (.ref vb), .val (.int (4 : Int32)), .val (.int (1 : Int32)), .val (.ref r1)] [])) _
    refine OGo.step (fun _ kk => XS.aload X23.here hx rfl (hb hby own_d_prog_11_method_8_code_19) rfl rfl kk) ?_
    show OGo p e below (T23.setTop (mkF m 21 #[.val (.ref x), .val (.ref vb), .val (.int (4 : Int32)), .val (.int (1 : Int32)), .val (.ref r1)] [(.ref r1)])) _
    have fx24 := Ft1.ext Xe17
    obtain ⟨T25, X25, e25, st25⟩ := getF X23 hx hZ hown (host := "") (Or.inl (hw _ (List.mem_of_getElem? (i := 96) rfl))) Via.refl e23 fx24 (g := (mkF m 21 #[.val (.ref x), .val (.ref vb), .val (.int (4 : Int32)), .val (.int (1 : Int32)), .val (.ref r1)] [(.ref r1)])) rfl rfl (hb hby own_d_prog_11_method_8_code_21)
    refine OGo.step st25 ?_
    show OGo p e below (T25.setTop (mkF m 24 #[.val (.ref x), .val (.ref vb), .val (.int (4 : Int32)), .val (.int (1 : Int32)), .val (.ref r1)] [(.ref t1)])) _
    refine OGo.step (fun _ kk => XS.aloadN X25.here hx rfl (hb hby own_d_prog_11_method_8_code_24) rfl rfl kk) ?_
    show OGo p e below (T25.setTop (mkF m 25 #[.val (.ref x), .val (.ref vb), .val (.int (4 : Int32)), .val (.int (1 : Int32)), .val (.ref r1)] [(.ref x), (.ref t1)])) _
    have fx26 := O1.ext Xe17
    refine own_virtualK X25 hx hZ (y := (⟨"java/lang/String", "equals", "(Ljava/lang/Object;)Z"⟩ : MethodName)) (z := (⟨"java/lang/String", "equals", "(Ljava/lang/Object;)Z"⟩ : MethodName)) hown (hw _ (List.mem_of_getElem? (i := 98) rfl)) (hw _ (List.mem_of_getElem? (i := 99) rfl)) (notFace_of_selects (args := #[]) (mvT hZ (hw _ (List.mem_of_getElem? (i := 101) rfl)))) (hw _ (List.mem_of_getElem? (i := 101) rfl)) (hw _ (List.mem_of_getElem? (i := 100) rfl)) (by decide) (b := t1) fx26.exa (W := 0) (own_seq (W := 0) hZ (fun d hd => hw d ((by decide +kernel : ∀ d ∈ StrChars.Road.wordsEq, d ∈ tables_1) d hd)) (kI := 4) (hw _ (List.mem_of_getElem? (i := 6) rfl)) fx26 fx21 fx22 hzc n0 (by decide) (by decide)) e25 (pc := 25) (Ls := #[.val (.ref x), .val (.ref vb), .val (.int (4 : Int32)), .val (.int (1 : Int32)), .val (.ref r1)]) (argsL := [(.ref x)]) (rest := []) (by rw [hml]; rfl) (lenOf own_pd2 rfl) rfl (hb hby own_d_prog_11_method_8_code_25) (by decide) (by decide) ?_
    intro v27 T27 L27 X27 hQ27
    obtain ⟨rfl, N27, e27⟩ := hQ27
    show OGo p e below (T27.setTop (mkF m 28 #[.val (.ref x), .val (.ref vb), .val (.int (4 : Int32)), .val (.int (1 : Int32)), .val (.ref r1)] [(.int (if ([82, 101, 115, 111, 117, 114, 99, 101, 65, 100, 109, 105, 110] : List Int32) = cs then (1 : Int32) else 0))])) _
    have Nc27 := Fr.app Nc23 N27
    by_cases hr1 : (if ([82, 101, 115, 111, 117, 114, 99, 101, 65, 100, 109, 105, 110] : List Int32) = cs then (1 : Int32) else 0) = (0 : Int32)
    · refine OGo.step (fun _ kk => XS.ifYes X27.here hx rfl (pc0 := 28) (pc' := 37) rfl (hb hby own_d_prog_11_method_8_code_28) rfl ((if0 _ _).trans (teq hr1).1) (by decide) (by decide) kk) ?_
      show OGo p e below (T27.setTop (mkF m 37 #[.val (.ref x), .val (.ref vb), .val (.int (4 : Int32)), .val (.int (1 : Int32)), .val (.ref r1)] [])) _
      refine OGo.step (fun _ kk => XS.iinc X27.here hx rfl (hb hby own_d_prog_11_method_8_code_37) rfl (l' := #[.val (.ref x), .val (.ref vb), .val (.int (4 : Int32)), .val (.int ((1 : Int32) + (1 : Int32))), .val (.ref r1)]) rfl kk) ?_
      show OGo p e below (T27.setTop (mkF m 40 #[.val (.ref x), .val (.ref vb), .val (.int (4 : Int32)), .val (.int ((1 : Int32) + (1 : Int32))), .val (.ref r1)] [])) _
      refine OGo.step (fun _ kk => XS.goto X27.here hx rfl (pc0 := 40) (pc' := 9) rfl (hb hby own_d_prog_11_method_8_code_40) (by decide) (by decide) kk) ?_
      show OGo p e below (T27.setTop (mkF m 9 #[.val (.ref x), .val (.ref vb), .val (.int (4 : Int32)), .val (.int ((1 : Int32) + (1 : Int32))), .val (.ref r1)] [])) _
      show OGo p e below (T27.setTop (mkF m 9 #[.val (.ref x), .val (.ref vb), .val (.int (4 : Int32)), .val (.int (2 : Int32)), .val (.ref r1)] [])) _
      refine OGo.step (fun _ kk => XS.iloadN X27.here hx rfl (hb hby own_d_prog_11_method_8_code_9) rfl kk) ?_
      show OGo p e below (T27.setTop (mkF m 10 #[.val (.ref x), .val (.ref vb), .val (.int (4 : Int32)), .val (.int (2 : Int32)), .val (.ref r1)] [(.int (2 : Int32))])) _
      refine OGo.step (fun _ kk => XS.iloadN X27.here hx rfl (hb hby own_d_prog_11_method_8_code_10) rfl kk) ?_
      show OGo p e below (T27.setTop (mkF m 11 #[.val (.ref x), .val (.ref vb), .val (.int (4 : Int32)), .val (.int (2 : Int32)), .val (.ref r1)] [(.int (4 : Int32)), (.int (2 : Int32))])) _
      refine OGo.step (fun _ kk => XS.icmpNo X27.here hx rfl (hb hby own_d_prog_11_method_8_code_11) rfl (tlt (by decide)).2.1 kk) ?_
      show OGo p e below (T27.setTop (mkF m 14 #[.val (.ref x), .val (.ref vb), .val (.int (4 : Int32)), .val (.int (2 : Int32)), .val (.ref r1)] [])) _
      refine OGo.step (fun _ kk => XS.aloadN X27.here hx rfl (hb hby own_d_prog_11_method_8_code_14) rfl rfl kk) ?_
      show OGo p e below (T27.setTop (mkF m 15 #[.val (.ref x), .val (.ref vb), .val (.int (4 : Int32)), .val (.int (2 : Int32)), .val (.ref r1)] [(.ref vb)])) _
      refine OGo.step (fun _ kk => XS.iloadN X27.here hx rfl (hb hby own_d_prog_11_method_8_code_15) rfl kk) ?_
      show OGo p e below (T27.setTop (mkF m 16 #[.val (.ref x), .val (.ref vb), .val (.int (4 : Int32)), .val (.int (2 : Int32)), .val (.ref r1)] [(.int (2 : Int32)), (.ref vb)])) _
      refine OGo.step (fun _ kk => X27.aaload hx (j := (2 : Int32)) (v := (.ref r2)) (by rw [e27]; exact (AB).1) (State.isArrayOf_alike hZ.alike (AB).2.1) rfl (AB).2.2 (inb_of (z := 4) VS ⟨by decide, by decide⟩) V2 (g := (mkF m 16 #[.val (.ref x), .val (.ref vb), .val (.int (4 : Int32)), .val (.int (2 : Int32)), .val (.ref r1)] [(.int (2 : Int32)), (.ref vb)])) rfl rfl (hb hby own_d_prog_11_method_8_code_16) _ kk) ?_
      show OGo p e below (T27.setTop (mkF m 17 #[.val (.ref x), .val (.ref vb), .val (.int (4 : Int32)), .val (.int (2 : Int32)), .val (.ref r1)] [(.ref r2)])) _
      refine OGo.step (fun _ kk => XS.astore X27.here hx rfl (hb hby own_d_prog_11_method_8_code_17) rfl rfl (l' := #[.val (.ref x), .val (.ref vb), .val (.int (4 : Int32)), .val (.int (2 : Int32)), .val (.ref r2)]) rfl kk) ?_
      show OGo p e below (T27.setTop (mkF m 19 #[.val (.ref x), .val (.ref vb), .val (.int (4 : Int32)), .val (.int (2 : Int32)), .val (.ref r2)] [])) _
      refine OGo.step (fun _ kk => XS.aload X27.here hx rfl (hb hby own_d_prog_11_method_8_code_19) rfl rfl kk) ?_
      show OGo p e below (T27.setTop (mkF m 21 #[.val (.ref x), .val (.ref vb), .val (.int (4 : Int32)), .val (.int (2 : Int32)), .val (.ref r2)] [(.ref r2)])) _
      have fx28 := Ft2.ext Xe17
      obtain ⟨T29, X29, e29, st29⟩ := getF X27 hx hZ hown (host := "") (Or.inl (hw _ (List.mem_of_getElem? (i := 96) rfl))) Via.refl e27 fx28 (g := (mkF m 21 #[.val (.ref x), .val (.ref vb), .val (.int (4 : Int32)), .val (.int (2 : Int32)), .val (.ref r2)] [(.ref r2)])) rfl rfl (hb hby own_d_prog_11_method_8_code_21)
      refine OGo.step st29 ?_
      show OGo p e below (T29.setTop (mkF m 24 #[.val (.ref x), .val (.ref vb), .val (.int (4 : Int32)), .val (.int (2 : Int32)), .val (.ref r2)] [(.ref t2)])) _
      refine OGo.step (fun _ kk => XS.aloadN X29.here hx rfl (hb hby own_d_prog_11_method_8_code_24) rfl rfl kk) ?_
      show OGo p e below (T29.setTop (mkF m 25 #[.val (.ref x), .val (.ref vb), .val (.int (4 : Int32)), .val (.int (2 : Int32)), .val (.ref r2)] [(.ref x), (.ref t2)])) _
      have fx30 := O2.ext Xe17
      refine own_virtualK X29 hx hZ (y := (⟨"java/lang/String", "equals", "(Ljava/lang/Object;)Z"⟩ : MethodName)) (z := (⟨"java/lang/String", "equals", "(Ljava/lang/Object;)Z"⟩ : MethodName)) hown (hw _ (List.mem_of_getElem? (i := 98) rfl)) (hw _ (List.mem_of_getElem? (i := 99) rfl)) (notFace_of_selects (args := #[]) (mvT hZ (hw _ (List.mem_of_getElem? (i := 101) rfl)))) (hw _ (List.mem_of_getElem? (i := 101) rfl)) (hw _ (List.mem_of_getElem? (i := 100) rfl)) (by decide) (b := t2) fx30.exa (W := 0) (own_seq (W := 0) hZ (fun d hd => hw d ((by decide +kernel : ∀ d ∈ StrChars.Road.wordsEq, d ∈ tables_1) d hd)) (kI := 4) (hw _ (List.mem_of_getElem? (i := 6) rfl)) fx30 fx21 fx22 hzc n0 (by decide) (by decide)) e29 (pc := 25) (Ls := #[.val (.ref x), .val (.ref vb), .val (.int (4 : Int32)), .val (.int (2 : Int32)), .val (.ref r2)]) (argsL := [(.ref x)]) (rest := []) (by rw [hml]; rfl) (lenOf own_pd2 rfl) rfl (hb hby own_d_prog_11_method_8_code_25) (by decide) (by decide) ?_
      intro v31 T31 L31 X31 hQ31
      obtain ⟨rfl, N31, e31⟩ := hQ31
      show OGo p e below (T31.setTop (mkF m 28 #[.val (.ref x), .val (.ref vb), .val (.int (4 : Int32)), .val (.int (2 : Int32)), .val (.ref r2)] [(.int (if ([68, 111, 109, 97, 105, 110, 65, 100, 109, 105, 110] : List Int32) = cs then (1 : Int32) else 0))])) _
      have Nc31 := Fr.app Nc27 N31
      by_cases hr2 : (if ([68, 111, 109, 97, 105, 110, 65, 100, 109, 105, 110] : List Int32) = cs then (1 : Int32) else 0) = (0 : Int32)
      · refine OGo.step (fun _ kk => XS.ifYes X31.here hx rfl (pc0 := 28) (pc' := 37) rfl (hb hby own_d_prog_11_method_8_code_28) rfl ((if0 _ _).trans (teq hr2).1) (by decide) (by decide) kk) ?_
        show OGo p e below (T31.setTop (mkF m 37 #[.val (.ref x), .val (.ref vb), .val (.int (4 : Int32)), .val (.int (2 : Int32)), .val (.ref r2)] [])) _
        refine OGo.step (fun _ kk => XS.iinc X31.here hx rfl (hb hby own_d_prog_11_method_8_code_37) rfl (l' := #[.val (.ref x), .val (.ref vb), .val (.int (4 : Int32)), .val (.int ((2 : Int32) + (1 : Int32))), .val (.ref r2)]) rfl kk) ?_
        show OGo p e below (T31.setTop (mkF m 40 #[.val (.ref x), .val (.ref vb), .val (.int (4 : Int32)), .val (.int ((2 : Int32) + (1 : Int32))), .val (.ref r2)] [])) _
        refine OGo.step (fun _ kk => XS.goto X31.here hx rfl (pc0 := 40) (pc' := 9) rfl (hb hby own_d_prog_11_method_8_code_40) (by decide) (by decide) kk) ?_
        show OGo p e below (T31.setTop (mkF m 9 #[.val (.ref x), .val (.ref vb), .val (.int (4 : Int32)), .val (.int ((2 : Int32) + (1 : Int32))), .val (.ref r2)] [])) _
        show OGo p e below (T31.setTop (mkF m 9 #[.val (.ref x), .val (.ref vb), .val (.int (4 : Int32)), .val (.int (3 : Int32)), .val (.ref r2)] [])) _
        refine OGo.step (fun _ kk => XS.iloadN X31.here hx rfl (hb hby own_d_prog_11_method_8_code_9) rfl kk) ?_
        show OGo p e below (T31.setTop (mkF m 10 #[.val (.ref x), .val (.ref vb), .val (.int (4 : Int32)), .val (.int (3 : Int32)), .val (.ref r2)] [(.int (3 : Int32))])) _
        refine OGo.step (fun _ kk => XS.iloadN X31.here hx rfl (hb hby own_d_prog_11_method_8_code_10) rfl kk) ?_
        show OGo p e below (T31.setTop (mkF m 11 #[.val (.ref x), .val (.ref vb), .val (.int (4 : Int32)), .val (.int (3 : Int32)), .val (.ref r2)] [(.int (4 : Int32)), (.int (3 : Int32))])) _
        refine OGo.step (fun _ kk => XS.icmpNo X31.here hx rfl (hb hby own_d_prog_11_method_8_code_11) rfl (tlt (by decide)).2.1 kk) ?_
        show OGo p e below (T31.setTop (mkF m 14 #[.val (.ref x), .val (.ref vb), .val (.int (4 : Int32)), .val (.int (3 : Int32)), .val (.ref r2)] [])) _
        refine OGo.step (fun _ kk => XS.aloadN X31.here hx rfl (hb hby own_d_prog_11_method_8_code_14) rfl rfl kk) ?_
        show OGo p e below (T31.setTop (mkF m 15 #[.val (.ref x), .val (.ref vb), .val (.int (4 : Int32)), .val (.int (3 : Int32)), .val (.ref r2)] [(.ref vb)])) _
        refine OGo.step (fun _ kk => XS.iloadN X31.here hx rfl (hb hby own_d_prog_11_method_8_code_15) rfl kk) ?_
        show OGo p e below (T31.setTop (mkF m 16 #[.val (.ref x), .val (.ref vb), .val (.int (4 : Int32)), .val (.int (3 : Int32)), .val (.ref r2)] [(.int (3 : Int32)), (.ref vb)])) _
        refine OGo.step (fun _ kk => X31.aaload hx (j := (3 : Int32)) (v := (.ref r3)) (by rw [e31]; exact (AB).1) (State.isArrayOf_alike hZ.alike (AB).2.1) rfl (AB).2.2 (inb_of (z := 4) VS ⟨by decide, by decide⟩) V3 (g := (mkF m 16 #[.val (.ref x), .val (.ref vb), .val (.int (4 : Int32)), .val (.int (3 : Int32)), .val (.ref r2)] [(.int (3 : Int32)), (.ref vb)])) rfl rfl (hb hby own_d_prog_11_method_8_code_16) _ kk) ?_
        show OGo p e below (T31.setTop (mkF m 17 #[.val (.ref x), .val (.ref vb), .val (.int (4 : Int32)), .val (.int (3 : Int32)), .val (.ref r2)] [(.ref r3)])) _
        refine OGo.step (fun _ kk => XS.astore X31.here hx rfl (hb hby own_d_prog_11_method_8_code_17) rfl rfl (l' := #[.val (.ref x), .val (.ref vb), .val (.int (4 : Int32)), .val (.int (3 : Int32)), .val (.ref r3)]) rfl kk) ?_
        show OGo p e below (T31.setTop (mkF m 19 #[.val (.ref x), .val (.ref vb), .val (.int (4 : Int32)), .val (.int (3 : Int32)), .val (.ref r3)] [])) _
        refine OGo.step (fun _ kk => XS.aload X31.here hx rfl (hb hby own_d_prog_11_method_8_code_19) rfl rfl kk) ?_
        show OGo p e below (T31.setTop (mkF m 21 #[.val (.ref x), .val (.ref vb), .val (.int (4 : Int32)), .val (.int (3 : Int32)), .val (.ref r3)] [(.ref r3)])) _
        have fx32 := Ft3.ext Xe17
        obtain ⟨T33, X33, e33, st33⟩ := getF X31 hx hZ hown (host := "") (Or.inl (hw _ (List.mem_of_getElem? (i := 96) rfl))) Via.refl e31 fx32 (g := (mkF m 21 #[.val (.ref x), .val (.ref vb), .val (.int (4 : Int32)), .val (.int (3 : Int32)), .val (.ref r3)] [(.ref r3)])) rfl rfl (hb hby own_d_prog_11_method_8_code_21)
        refine OGo.step st33 ?_
        show OGo p e below (T33.setTop (mkF m 24 #[.val (.ref x), .val (.ref vb), .val (.int (4 : Int32)), .val (.int (3 : Int32)), .val (.ref r3)] [(.ref t3)])) _
        refine OGo.step (fun _ kk => XS.aloadN X33.here hx rfl (hb hby own_d_prog_11_method_8_code_24) rfl rfl kk) ?_
        show OGo p e below (T33.setTop (mkF m 25 #[.val (.ref x), .val (.ref vb), .val (.int (4 : Int32)), .val (.int (3 : Int32)), .val (.ref r3)] [(.ref x), (.ref t3)])) _
        have fx34 := O3.ext Xe17
        refine own_virtualK X33 hx hZ (y := (⟨"java/lang/String", "equals", "(Ljava/lang/Object;)Z"⟩ : MethodName)) (z := (⟨"java/lang/String", "equals", "(Ljava/lang/Object;)Z"⟩ : MethodName)) hown (hw _ (List.mem_of_getElem? (i := 98) rfl)) (hw _ (List.mem_of_getElem? (i := 99) rfl)) (notFace_of_selects (args := #[]) (mvT hZ (hw _ (List.mem_of_getElem? (i := 101) rfl)))) (hw _ (List.mem_of_getElem? (i := 101) rfl)) (hw _ (List.mem_of_getElem? (i := 100) rfl)) (by decide) (b := t3) fx34.exa (W := 0) (own_seq (W := 0) hZ (fun d hd => hw d ((by decide +kernel : ∀ d ∈ StrChars.Road.wordsEq, d ∈ tables_1) d hd)) (kI := 4) (hw _ (List.mem_of_getElem? (i := 6) rfl)) fx34 fx21 fx22 hzc n0 (by decide) (by decide)) e33 (pc := 25) (Ls := #[.val (.ref x), .val (.ref vb), .val (.int (4 : Int32)), .val (.int (3 : Int32)), .val (.ref r3)]) (argsL := [(.ref x)]) (rest := []) (by rw [hml]; rfl) (lenOf own_pd2 rfl) rfl (hb hby own_d_prog_11_method_8_code_25) (by decide) (by decide) ?_
        intro v35 T35 L35 X35 hQ35
        obtain ⟨rfl, N35, e35⟩ := hQ35
        show OGo p e below (T35.setTop (mkF m 28 #[.val (.ref x), .val (.ref vb), .val (.int (4 : Int32)), .val (.int (3 : Int32)), .val (.ref r3)] [(.int (if ([85, 115, 101, 114] : List Int32) = cs then (1 : Int32) else 0))])) _
        have Nc35 := Fr.app Nc31 N35
        by_cases hr3 : (if ([85, 115, 101, 114] : List Int32) = cs then (1 : Int32) else 0) = (0 : Int32)
        · refine OGo.step (fun _ kk => XS.ifYes X35.here hx rfl (pc0 := 28) (pc' := 37) rfl (hb hby own_d_prog_11_method_8_code_28) rfl ((if0 _ _).trans (teq hr3).1) (by decide) (by decide) kk) ?_
          show OGo p e below (T35.setTop (mkF m 37 #[.val (.ref x), .val (.ref vb), .val (.int (4 : Int32)), .val (.int (3 : Int32)), .val (.ref r3)] [])) _
          refine OGo.step (fun _ kk => XS.iinc X35.here hx rfl (hb hby own_d_prog_11_method_8_code_37) rfl (l' := #[.val (.ref x), .val (.ref vb), .val (.int (4 : Int32)), .val (.int ((3 : Int32) + (1 : Int32))), .val (.ref r3)]) rfl kk) ?_
          show OGo p e below (T35.setTop (mkF m 40 #[.val (.ref x), .val (.ref vb), .val (.int (4 : Int32)), .val (.int ((3 : Int32) + (1 : Int32))), .val (.ref r3)] [])) _
          refine OGo.step (fun _ kk => XS.goto X35.here hx rfl (pc0 := 40) (pc' := 9) rfl (hb hby own_d_prog_11_method_8_code_40) (by decide) (by decide) kk) ?_
          show OGo p e below (T35.setTop (mkF m 9 #[.val (.ref x), .val (.ref vb), .val (.int (4 : Int32)), .val (.int ((3 : Int32) + (1 : Int32))), .val (.ref r3)] [])) _
          show OGo p e below (T35.setTop (mkF m 9 #[.val (.ref x), .val (.ref vb), .val (.int (4 : Int32)), .val (.int (4 : Int32)), .val (.ref r3)] [])) _
          refine OGo.step (fun _ kk => XS.iloadN X35.here hx rfl (hb hby own_d_prog_11_method_8_code_9) rfl kk) ?_
          show OGo p e below (T35.setTop (mkF m 10 #[.val (.ref x), .val (.ref vb), .val (.int (4 : Int32)), .val (.int (4 : Int32)), .val (.ref r3)] [(.int (4 : Int32))])) _
          refine OGo.step (fun _ kk => XS.iloadN X35.here hx rfl (hb hby own_d_prog_11_method_8_code_10) rfl kk) ?_
          show OGo p e below (T35.setTop (mkF m 11 #[.val (.ref x), .val (.ref vb), .val (.int (4 : Int32)), .val (.int (4 : Int32)), .val (.ref r3)] [(.int (4 : Int32)), (.int (4 : Int32))])) _
          refine OGo.step (fun _ kk => XS.icmpYes X35.here hx rfl (pc0 := 11) (pc' := 43) rfl (hb hby own_d_prog_11_method_8_code_11) rfl (flt (by decide)).2.1 (by decide) (by decide) kk) ?_
          show OGo p e below (T35.setTop (mkF m 43 #[.val (.ref x), .val (.ref vb), .val (.int (4 : Int32)), .val (.int (4 : Int32)), .val (.ref r3)] [])) _
          have fx36 := SE.ext Xe17
          refine own_callS X35 hx hZ (y := (⟨"java/util/Optional", "empty", "()Ljava/util/Optional;"⟩ : MethodName)) hown (hw _ (List.mem_of_getElem? (i := 107) rfl)) (hw _ (List.mem_of_getElem? (i := 108) rfl)) (hw _ (List.mem_of_getElem? (i := 109) rfl)) (hw _ (List.mem_of_getElem? (i := 110) rfl)) (by decide) (W := 0) (own_opempty l Z a0 hw [] eo T17.heap n0 sz17 fx36) e35  (pc := 43) (Ls := #[.val (.ref x), .val (.ref vb), .val (.int (4 : Int32)), .val (.int (4 : Int32)), .val (.ref r3)]) (argsL := []) (rest := []) (by rw [hml]; rfl) (lenOf own_pd3 rfl) rfl (hb hby own_d_prog_11_method_8_code_43) (by decide) (by decide) (by decide) (by decide) ?_
          intro v37 T37 L37 X37 hQ37
          obtain ⟨rfl, N37, e37⟩ := hQ37
          show OGo p e below (T37.setTop (mkF m 46 #[.val (.ref x), .val (.ref vb), .val (.int (4 : Int32)), .val (.int (4 : Int32)), .val (.ref r3)] [(.ref eo)])) _
          have Nc37 := Fr.app Nc35 N37
          have fx38 := EO.ext Xe17
          have fx39 := FO.ext Xe17
          exact own_ret X37 hx hlk hret rfl (Or.inr (Or.inr (Or.inr (Or.inr ⟨rfl, rfl, rfl⟩)))) (hb hby own_d_prog_11_method_8_code_46) (by rw [e37]; exact ⟨eo, .null, rfl, Nc37, Xe17, fx38, fx39, by rw [own_of, if_neg (own_if0 hr0), if_neg (own_if0 hr1), if_neg (own_if0 hr2), if_neg (own_if0 hr3)]⟩) (by decide) (by decide)
        · refine OGo.step (fun _ kk => XS.ifNo X35.here hx rfl (hb hby own_d_prog_11_method_8_code_28) rfl ((if0 _ _).trans (feq hr3).1) kk) ?_
          show OGo p e below (T35.setTop (mkF m 31 #[.val (.ref x), .val (.ref vb), .val (.int (4 : Int32)), .val (.int (3 : Int32)), .val (.ref r3)] [])) _
          refine OGo.step (fun _ kk => XS.aload X35.here hx rfl (hb hby own_d_prog_11_method_8_code_31) rfl rfl kk) ?_
          show OGo p e below (T35.setTop (mkF m 33 #[.val (.ref x), .val (.ref vb), .val (.int (4 : Int32)), .val (.int (3 : Int32)), .val (.ref r3)] [(.ref r3)])) _
          refine own_callS X35 hx hZ (y := (⟨"java/util/Optional", "of", "(Ljava/lang/Object;)Ljava/util/Optional;"⟩ : MethodName)) hown (hw _ (List.mem_of_getElem? (i := 127) rfl)) (hw _ (List.mem_of_getElem? (i := 128) rfl)) (hw _ (List.mem_of_getElem? (i := 109) rfl)) (hw _ (List.mem_of_getElem? (i := 129) rfl)) (by decide) (W := 0) (own_opof l Z a0 hw [] r3 T17.heap n0 sz17) e35  (pc := 33) (Ls := #[.val (.ref x), .val (.ref vb), .val (.int (4 : Int32)), .val (.int (3 : Int32)), .val (.ref r3)]) (argsL := [(.ref r3)]) (rest := []) (by rw [hml]; rfl) (lenOf own_pd4 rfl) rfl (hb hby own_d_prog_11_method_8_code_33) (by decide) (by decide) (by decide) (by decide) ?_
          intro v40 T40 L40 X40 hQ40
          obtain ⟨b, rfl, N40, Xe40, Eb40, Gv40⟩ := hQ40
          show OGo p e below (T40.setTop (mkF m 36 #[.val (.ref x), .val (.ref vb), .val (.int (4 : Int32)), .val (.int (3 : Int32)), .val (.ref r3)] [(.ref b)])) _
          have Nc40 := Fr.app Nc35 N40
          have sz40 : n0 ≤ T40.heap.size := Nat.le_trans sz17 Xe40.1
          have xt41 := (own_ext_trans Xe17 Xe40)
          exact own_ret X40 hx hlk hret rfl (Or.inr (Or.inr (Or.inr (Or.inr ⟨rfl, rfl, rfl⟩)))) (hb hby own_d_prog_11_method_8_code_36) ⟨b, .ref r3, rfl, Nc40, xt41, Eb40, Gv40, by rw [own_of, if_neg (own_if0 hr0), if_neg (own_if0 hr1), if_neg (own_if0 hr2), if_pos (own_if1 hr3)]⟩ (by decide) (by decide)
      · refine OGo.step (fun _ kk => XS.ifNo X31.here hx rfl (hb hby own_d_prog_11_method_8_code_28) rfl ((if0 _ _).trans (feq hr2).1) kk) ?_
        show OGo p e below (T31.setTop (mkF m 31 #[.val (.ref x), .val (.ref vb), .val (.int (4 : Int32)), .val (.int (2 : Int32)), .val (.ref r2)] [])) _
        refine OGo.step (fun _ kk => XS.aload X31.here hx rfl (hb hby own_d_prog_11_method_8_code_31) rfl rfl kk) ?_
        show OGo p e below (T31.setTop (mkF m 33 #[.val (.ref x), .val (.ref vb), .val (.int (4 : Int32)), .val (.int (2 : Int32)), .val (.ref r2)] [(.ref r2)])) _
        refine own_callS X31 hx hZ (y := (⟨"java/util/Optional", "of", "(Ljava/lang/Object;)Ljava/util/Optional;"⟩ : MethodName)) hown (hw _ (List.mem_of_getElem? (i := 127) rfl)) (hw _ (List.mem_of_getElem? (i := 128) rfl)) (hw _ (List.mem_of_getElem? (i := 109) rfl)) (hw _ (List.mem_of_getElem? (i := 129) rfl)) (by decide) (W := 0) (own_opof l Z a0 hw [] r2 T17.heap n0 sz17) e31  (pc := 33) (Ls := #[.val (.ref x), .val (.ref vb), .val (.int (4 : Int32)), .val (.int (2 : Int32)), .val (.ref r2)]) (argsL := [(.ref r2)]) (rest := []) (by rw [hml]; rfl) (lenOf own_pd4 rfl) rfl (hb hby own_d_prog_11_method_8_code_33) (by decide) (by decide) (by decide) (by decide) ?_
        intro v42 T42 L42 X42 hQ42
        obtain ⟨b, rfl, N42, Xe42, Eb42, Gv42⟩ := hQ42
        show OGo p e below (T42.setTop (mkF m 36 #[.val (.ref x), .val (.ref vb), .val (.int (4 : Int32)), .val (.int (2 : Int32)), .val (.ref r2)] [(.ref b)])) _
        have Nc42 := Fr.app Nc31 N42
        have sz42 : n0 ≤ T42.heap.size := Nat.le_trans sz17 Xe42.1
        have xt43 := (own_ext_trans Xe17 Xe42)
        exact own_ret X42 hx hlk hret rfl (Or.inr (Or.inr (Or.inr (Or.inr ⟨rfl, rfl, rfl⟩)))) (hb hby own_d_prog_11_method_8_code_36) ⟨b, .ref r2, rfl, Nc42, xt43, Eb42, Gv42, by rw [own_of, if_neg (own_if0 hr0), if_neg (own_if0 hr1), if_pos (own_if1 hr2)]⟩ (by decide) (by decide)
    · refine OGo.step (fun _ kk => XS.ifNo X27.here hx rfl (hb hby own_d_prog_11_method_8_code_28) rfl ((if0 _ _).trans (feq hr1).1) kk) ?_
      show OGo p e below (T27.setTop (mkF m 31 #[.val (.ref x), .val (.ref vb), .val (.int (4 : Int32)), .val (.int (1 : Int32)), .val (.ref r1)] [])) _
      refine OGo.step (fun _ kk => XS.aload X27.here hx rfl (hb hby own_d_prog_11_method_8_code_31) rfl rfl kk) ?_
      show OGo p e below (T27.setTop (mkF m 33 #[.val (.ref x), .val (.ref vb), .val (.int (4 : Int32)), .val (.int (1 : Int32)), .val (.ref r1)] [(.ref r1)])) _
      refine own_callS X27 hx hZ (y := (⟨"java/util/Optional", "of", "(Ljava/lang/Object;)Ljava/util/Optional;"⟩ : MethodName)) hown (hw _ (List.mem_of_getElem? (i := 127) rfl)) (hw _ (List.mem_of_getElem? (i := 128) rfl)) (hw _ (List.mem_of_getElem? (i := 109) rfl)) (hw _ (List.mem_of_getElem? (i := 129) rfl)) (by decide) (W := 0) (own_opof l Z a0 hw [] r1 T17.heap n0 sz17) e27  (pc := 33) (Ls := #[.val (.ref x), .val (.ref vb), .val (.int (4 : Int32)), .val (.int (1 : Int32)), .val (.ref r1)]) (argsL := [(.ref r1)]) (rest := []) (by rw [hml]; rfl) (lenOf own_pd4 rfl) rfl (hb hby own_d_prog_11_method_8_code_33) (by decide) (by decide) (by decide) (by decide) ?_
      intro v44 T44 L44 X44 hQ44
      obtain ⟨b, rfl, N44, Xe44, Eb44, Gv44⟩ := hQ44
      show OGo p e below (T44.setTop (mkF m 36 #[.val (.ref x), .val (.ref vb), .val (.int (4 : Int32)), .val (.int (1 : Int32)), .val (.ref r1)] [(.ref b)])) _
      have Nc44 := Fr.app Nc27 N44
      have sz44 : n0 ≤ T44.heap.size := Nat.le_trans sz17 Xe44.1
      have xt45 := (own_ext_trans Xe17 Xe44)
      exact own_ret X44 hx hlk hret rfl (Or.inr (Or.inr (Or.inr (Or.inr ⟨rfl, rfl, rfl⟩)))) (hb hby own_d_prog_11_method_8_code_36) ⟨b, .ref r1, rfl, Nc44, xt45, Eb44, Gv44, by rw [own_of, if_neg (own_if0 hr0), if_pos (own_if1 hr1)]⟩ (by decide) (by decide)
  · refine OGo.step (fun _ kk => XS.ifNo X23.here hx rfl (hb hby own_d_prog_11_method_8_code_28) rfl ((if0 _ _).trans (feq hr0).1) kk) ?_
    show OGo p e below (T23.setTop (mkF m 31 #[.val (.ref x), .val (.ref vb), .val (.int (4 : Int32)), .val (.int (0 : Int32)), .val (.ref r0)] [])) _
    refine OGo.step (fun _ kk => XS.aload X23.here hx rfl (hb hby own_d_prog_11_method_8_code_31) rfl rfl kk) ?_
    show OGo p e below (T23.setTop (mkF m 33 #[.val (.ref x), .val (.ref vb), .val (.int (4 : Int32)), .val (.int (0 : Int32)), .val (.ref r0)] [(.ref r0)])) _
    refine own_callS X23 hx hZ (y := (⟨"java/util/Optional", "of", "(Ljava/lang/Object;)Ljava/util/Optional;"⟩ : MethodName)) hown (hw _ (List.mem_of_getElem? (i := 127) rfl)) (hw _ (List.mem_of_getElem? (i := 128) rfl)) (hw _ (List.mem_of_getElem? (i := 109) rfl)) (hw _ (List.mem_of_getElem? (i := 129) rfl)) (by decide) (W := 0) (own_opof l Z a0 hw [] r0 T17.heap n0 sz17) e23  (pc := 33) (Ls := #[.val (.ref x), .val (.ref vb), .val (.int (4 : Int32)), .val (.int (0 : Int32)), .val (.ref r0)]) (argsL := [(.ref r0)]) (rest := []) (by rw [hml]; rfl) (lenOf own_pd4 rfl) rfl (hb hby own_d_prog_11_method_8_code_33) (by decide) (by decide) (by decide) (by decide) ?_
    intro v46 T46 L46 X46 hQ46
    obtain ⟨b, rfl, N46, Xe46, Eb46, Gv46⟩ := hQ46
    show OGo p e below (T46.setTop (mkF m 36 #[.val (.ref x), .val (.ref vb), .val (.int (4 : Int32)), .val (.int (0 : Int32)), .val (.ref r0)] [(.ref b)])) _
    have Nc46 := Fr.app Nc23 N46
    have sz46 : n0 ≤ T46.heap.size := Nat.le_trans sz17 Xe46.1
    have xt47 := (own_ext_trans Xe17 Xe46)
    exact own_ret X46 hx hlk hret rfl (Or.inr (Or.inr (Or.inr (Or.inr ⟨rfl, rfl, rfl⟩)))) (hb hby own_d_prog_11_method_8_code_36) ⟨b, .ref r0, rfl, Nc46, xt47, Eb46, Gv46, by rw [own_of, if_pos (own_if1 hr0)]⟩ (by decide) (by decide)

set_option maxRecDepth 65536 in
set_option maxHeartbeats 40000000 in
theorem own_rm0 (l : Launch) (Z : State) (a0 : Array Value) (hw : ∀ d ∈ tables_1, d.before a0 Z = true) (ws : List Jvm.Cond) (p1 p2 p3 p4 : Int32) (va : Addr) (vc : Cell) (r0 r1 r2 r3 t0 t1 t2 t3 eo : Addr) (zc : Int32) (fm : Value) (h0 : Heap) (n0 : Nat) (Z0 : n0 ≤ h0.size) (SC : Sta Z h0 "java/lang/String" "COMPACT_STRINGS" "Z" (.int zc)) (hzc : ¬ zc = 0) (SF : Sta Z h0 "jdk/internal/util/Preconditions" "SIOOBE_FORMATTER" "Ljava/util/function/BiFunction;" fm) (hfm : fm.isRef = true) (SV : Sta Z h0 "com/example/tenantd/tenantd/RoleType" "$VALUES" "[Lcom/example/tenantd/tenantd/RoleType;" (.ref va)) (AV : Arr Z h0 va vc (.object "com/example/tenantd/tenantd/RoleType")) (EV : Exa Z h0 va "[Lcom/example/tenantd/tenantd/RoleType;") (FV : FitC Z vc) (VS : vc.slots.size = 4) (V0 : vc.slots[0]? = some (.ref r0)) (Ft0 : Fld Z h0 r0 "com/example/tenantd/tenantd/RoleType" "text" "Ljava/lang/String;" (.ref t0)) (O0 : OStr Z h0 t0 [65, 100, 109, 105, 110]) (V1 : vc.slots[1]? = some (.ref r1)) (Ft1 : Fld Z h0 r1 "com/example/tenantd/tenantd/RoleType" "text" "Ljava/lang/String;" (.ref t1)) (O1 : OStr Z h0 t1 [82, 101, 115, 111, 117, 114, 99, 101, 65, 100, 109, 105, 110]) (V2 : vc.slots[2]? = some (.ref r2)) (Ft2 : Fld Z h0 r2 "com/example/tenantd/tenantd/RoleType" "text" "Ljava/lang/String;" (.ref t2)) (O2 : OStr Z h0 t2 [68, 111, 109, 97, 105, 110, 65, 100, 109, 105, 110]) (V3 : vc.slots[3]? = some (.ref r3)) (Ft3 : Fld Z h0 r3 "com/example/tenantd/tenantd/RoleType" "text" "Ljava/lang/String;" (.ref t3)) (O3 : OStr Z h0 t3 [85, 115, 101, 114]) (SE : Sta Z h0 "java/util/Optional" "EMPTY" "Ljava/util/Optional;" (.ref eo)) (EO : Exa Z h0 eo "java/util/Optional") (FO : Fld Z h0 eo "java/util/Optional" "value" "Ljava/lang/Object;" .null) (S0 : Sta Z h0 "com/example/tenantd/tenantd/RoleType" "ADMIN" "Lcom/example/tenantd/tenantd/RoleType;" (.ref r0)) (S1 : Sta Z h0 "com/example/tenantd/tenantd/RoleType" "RESOURCE_ADMIN" "Lcom/example/tenantd/tenantd/RoleType;" (.ref r1)) (S2 : Sta Z h0 "com/example/tenantd/tenantd/RoleType" "DOMAIN_ADMIN" "Lcom/example/tenantd/tenantd/RoleType;" (.ref r2)) (S3 : Sta Z h0 "com/example/tenantd/tenantd/RoleType" "USER" "Lcom/example/tenantd/tenantd/RoleType;" (.ref r3)) (E0_ : Exa Z h0 r0 "com/example/tenantd/tenantd/RoleType") (E1_ : Exa Z h0 r1 "com/example/tenantd/tenantd/RoleType") (E2_ : Exa Z h0 r2 "com/example/tenantd/tenantd/RoleType") (E3_ : Exa Z h0 r3 "com/example/tenantd/tenantd/RoleType") :
    OMetW l Z consts_1 x code maxLocals ret ws room_1 #[(.int p1), (.int p2), (.int p3), (.int p4)] h0 (fun v h L => v = some (.int (1 : Int32)) ∧ Fr n0 L) := by
  refine OMetW.body (plainFor_of_name own_pn0) ?_
  intro p e s m below meth c s₁ hx hby hml hown hnm hret hlk hZ X0 e0 OW0
  have hml : c.maxLocals = 15 := hml
  have hEL := own_hEL hw
  have wS := own_wS hw
  refine OGo.step (fun _ kk => castTop (show entryFrame m #[(.int p1), (.int p2), (.int p3), (.int p4)] maxLocals = (mkF m 0 #[.val (.int p1), .val (.int p2), .val (.int p3), .val (.int p4), .unset, .unset, .unset, .unset, .unset, .unset, .unset, .unset, .unset, .unset, .unset] []) from by first | (simp [entryFrame, mkF, argsToLocals, Value.category, maxLocals]; done) | rfl) kk) ?_
  show OGo p e below (s₁.setTop (mkF m 0 #[.val (.int p1), .val (.int p2), .val (.int p3), .val (.int p4), .unset, .unset, .unset, .unset, .unset, .unset, .unset, .unset, .unset, .unset, .unset] [])) _
  refine OGo.step (fun _ kk => XS.iloadN X0.here hx rfl (hb hby at_0) rfl kk) ?_
  show OGo p e below (s₁.setTop (mkF m 1 #[.val (.int p1), .val (.int p2), .val (.int p3), .val (.int p4), .unset, .unset, .unset, .unset, .unset, .unset, .unset, .unset, .unset, .unset, .unset] [(.int p1)])) _
  refine OGo.step (fun _ kk => XS.iconst X0.here hx rfl (hb hby at_1) kk) ?_
  show OGo p e below (s₁.setTop (mkF m 2 #[.val (.int p1), .val (.int p2), .val (.int p3), .val (.int p4), .unset, .unset, .unset, .unset, .unset, .unset, .unset, .unset, .unset, .unset, .unset] [(.int (3 : Int32)), (.int p1)])) _
  refine OGo.step (fun _ kk => XS.iand X0.here hx rfl (hb hby at_2) rfl kk) ?_
  show OGo p e below (s₁.setTop (mkF m 3 #[.val (.int p1), .val (.int p2), .val (.int p3), .val (.int p4), .unset, .unset, .unset, .unset, .unset, .unset, .unset, .unset, .unset, .unset, .unset] [(.int (p1 &&& (3 : Int32)))])) _
  refine OGo.step (fun _ kk => XS.istore X0.here hx rfl (hb hby at_3) rfl (l' := #[.val (.int p1), .val (.int p2), .val (.int p3), .val (.int p4), .val (.int (p1 &&& (3 : Int32))), .unset, .unset, .unset, .unset, .unset, .unset, .unset, .unset, .unset, .unset]) rfl kk) ?_
  show OGo p e below (s₁.setTop (mkF m 5 #[.val (.int p1), .val (.int p2), .val (.int p3), .val (.int p4), .val (.int (p1 &&& (3 : Int32))), .unset, .unset, .unset, .unset, .unset, .unset, .unset, .unset, .unset, .unset] [])) _
  refine OGo.step (fun _ kk => XS.iloadN X0.here hx rfl (hb hby at_5) rfl kk) ?_
  show OGo p e below (s₁.setTop (mkF m 6 #[.val (.int p1), .val (.int p2), .val (.int p3), .val (.int p4), .val (.int (p1 &&& (3 : Int32))), .unset, .unset, .unset, .unset, .unset, .unset, .unset, .unset, .unset, .unset] [(.int p2)])) _
  refine OGo.step (fun _ kk => XS.bipush X0.here hx rfl (hb hby at_6) kk) ?_
  show OGo p e below (s₁.setTop (mkF m 8 #[.val (.int p1), .val (.int p2), .val (.int p3), .val (.int p4), .val (.int (p1 &&& (3 : Int32))), .unset, .unset, .unset, .unset, .unset, .unset, .unset, .unset, .unset, .unset] [(.int (7 : Int32)), (.int p2)])) _
  refine OGo.step (fun _ kk => XS.iand X0.here hx rfl (hb hby at_8) rfl kk) ?_
  show OGo p e below (s₁.setTop (mkF m 9 #[.val (.int p1), .val (.int p2), .val (.int p3), .val (.int p4), .val (.int (p1 &&& (3 : Int32))), .unset, .unset, .unset, .unset, .unset, .unset, .unset, .unset, .unset, .unset] [(.int (p2 &&& (7 : Int32)))])) _
  refine OGo.step (fun _ kk => XS.istore X0.here hx rfl (hb hby at_9) rfl (l' := #[.val (.int p1), .val (.int p2), .val (.int p3), .val (.int p4), .val (.int (p1 &&& (3 : Int32))), .val (.int (p2 &&& (7 : Int32))), .unset, .unset, .unset, .unset, .unset, .unset, .unset, .unset, .unset]) rfl kk) ?_
  show OGo p e below (s₁.setTop (mkF m 11 #[.val (.int p1), .val (.int p2), .val (.int p3), .val (.int p4), .val (.int (p1 &&& (3 : Int32))), .val (.int (p2 &&& (7 : Int32))), .unset, .unset, .unset, .unset, .unset, .unset, .unset, .unset, .unset] [])) _
  refine OGo.step (fun _ kk => XS.iload X0.here hx rfl (hb hby at_11) rfl kk) ?_
  show OGo p e below (s₁.setTop (mkF m 13 #[.val (.int p1), .val (.int p2), .val (.int p3), .val (.int p4), .val (.int (p1 &&& (3 : Int32))), .val (.int (p2 &&& (7 : Int32))), .unset, .unset, .unset, .unset, .unset, .unset, .unset, .unset, .unset] [(.int (p1 &&& (3 : Int32)))])) _
  refine own_callSW X0 hx hZ (y := (⟨"com/example/tenantd/tenantd/RoleTypeOfTextPinLaw", "lit", "(I)Ljava/lang/String;"⟩ : MethodName)) hown (hw _ (List.mem_of_getElem? (i := 0) rfl)) (hw _ (List.mem_of_getElem? (i := 1) rfl)) (hw _ (List.mem_of_getElem? (i := 2) rfl)) (hw _ (List.mem_of_getElem? (i := 3) rfl)) (by decide) hEL OW0 (W := 0) (own_litm l Z a0 hw [] (p1 &&& (3 : Int32)) h0 n0 Z0) e0  (pc := 13) (Ls := #[.val (.int p1), .val (.int p2), .val (.int p3), .val (.int p4), .val (.int (p1 &&& (3 : Int32))), .val (.int (p2 &&& (7 : Int32))), .unset, .unset, .unset, .unset, .unset, .unset, .unset, .unset, .unset]) (argsL := [(.int (p1 &&& (3 : Int32)))]) (rest := []) (by rw [hml]; rfl) (lenOf own_pd5 rfl) rfl (hb hby at_13) (by decide) (by decide) (by decide) (by decide) ?_
  intro v48 T48 L48 X48 hQ48 OW48 hZ hown CH48
  obtain ⟨x, rfl, N48, Xe48, Ox48⟩ := hQ48
  show OGo p e below (T48.setTop (mkF m 16 #[.val (.int p1), .val (.int p2), .val (.int p3), .val (.int p4), .val (.int (p1 &&& (3 : Int32))), .val (.int (p2 &&& (7 : Int32))), .unset, .unset, .unset, .unset, .unset, .unset, .unset, .unset, .unset] [(.ref x)])) _
  have Nc48 := Fr.app (Fr.nil n0) N48
  have sz48 : n0 ≤ T48.heap.size := Nat.le_trans Z0 Xe48.1
  have hsl := own_lit_ok (p1 &&& (3 : Int32))
  refine OGo.step (fun _ kk => XS.astore X48.here hx rfl (hb hby at_16) rfl rfl (l' := #[.val (.int p1), .val (.int p2), .val (.int p3), .val (.int p4), .val (.int (p1 &&& (3 : Int32))), .val (.int (p2 &&& (7 : Int32))), .val (.ref x), .unset, .unset, .unset, .unset, .unset, .unset, .unset, .unset]) rfl kk) ?_
  show OGo p e below (T48.setTop (mkF m 18 #[.val (.int p1), .val (.int p2), .val (.int p3), .val (.int p4), .val (.int (p1 &&& (3 : Int32))), .val (.int (p2 &&& (7 : Int32))), .val (.ref x), .unset, .unset, .unset, .unset, .unset, .unset, .unset, .unset] [])) _
  refine OGo.step (fun _ kk => XS.aload X48.here hx rfl (hb hby at_18) rfl rfl kk) ?_
  show OGo p e below (T48.setTop (mkF m 20 #[.val (.int p1), .val (.int p2), .val (.int p3), .val (.int p4), .val (.int (p1 &&& (3 : Int32))), .val (.int (p2 &&& (7 : Int32))), .val (.ref x), .unset, .unset, .unset, .unset, .unset, .unset, .unset, .unset] [(.ref x)])) _
  have fx49 := SC.ext Xe48
  refine own_virtualK X48 hx hZ (y := (⟨"java/lang/String", "length", "()I"⟩ : MethodName)) (z := (⟨"java/lang/String", "length", "()I"⟩ : MethodName)) hown (hw _ (List.mem_of_getElem? (i := 12) rfl)) (hw _ (List.mem_of_getElem? (i := 13) rfl)) (notFace_of_selects (args := #[]) (mvT hZ (hw _ (List.mem_of_getElem? (i := 15) rfl)))) (hw _ (List.mem_of_getElem? (i := 15) rfl)) (hw _ (List.mem_of_getElem? (i := 14) rfl)) (by decide) (b := x) (Ox48).exa (W := 0) (own_slen (W := 0) hZ (fun d hd => hw d ((by decide +kernel : ∀ d ∈ StrChars.Road.wordsLen, d ∈ tables_1) d hd)) (kI := 4) (hw _ (List.mem_of_getElem? (i := 6) rfl)) Ox48 fx49 hzc n0 (by decide) (by decide)) rfl (pc := 20) (Ls := #[.val (.int p1), .val (.int p2), .val (.int p3), .val (.int p4), .val (.int (p1 &&& (3 : Int32))), .val (.int (p2 &&& (7 : Int32))), .val (.ref x), .unset, .unset, .unset, .unset, .unset, .unset, .unset, .unset]) (argsL := []) (rest := []) (by rw [hml]; rfl) (lenOf own_pd6 rfl) rfl (hb hby at_20) (by decide) (by decide) ?_
  intro v50 T50 L50 X50 hQ50
  obtain ⟨rfl, N50, e50⟩ := hQ50
  show OGo p e below (T50.setTop (mkF m 23 #[.val (.int p1), .val (.int p2), .val (.int p3), .val (.int p4), .val (.int (p1 &&& (3 : Int32))), .val (.int (p2 &&& (7 : Int32))), .val (.ref x), .unset, .unset, .unset, .unset, .unset, .unset, .unset, .unset] [(.int (Int32.ofNat (own_lit (p1 &&& (3 : Int32))).length))])) _
  have Nc50 := Fr.app Nc48 N50
  refine OGo.step (fun _ kk => XS.istore X50.here hx rfl (hb hby at_23) rfl (l' := #[.val (.int p1), .val (.int p2), .val (.int p3), .val (.int p4), .val (.int (p1 &&& (3 : Int32))), .val (.int (p2 &&& (7 : Int32))), .val (.ref x), .val (.int (Int32.ofNat (own_lit (p1 &&& (3 : Int32))).length)), .unset, .unset, .unset, .unset, .unset, .unset, .unset]) rfl kk) ?_
  show OGo p e below (T50.setTop (mkF m 25 #[.val (.int p1), .val (.int p2), .val (.int p3), .val (.int p4), .val (.int (p1 &&& (3 : Int32))), .val (.int (p2 &&& (7 : Int32))), .val (.ref x), .val (.int (Int32.ofNat (own_lit (p1 &&& (3 : Int32))).length)), .unset, .unset, .unset, .unset, .unset, .unset, .unset] [])) _
  refine OGo.step (fun _ kk => XS.iloadN X50.here hx rfl (hb hby at_25) rfl kk) ?_
  show OGo p e below (T50.setTop (mkF m 26 #[.val (.int p1), .val (.int p2), .val (.int p3), .val (.int p4), .val (.int (p1 &&& (3 : Int32))), .val (.int (p2 &&& (7 : Int32))), .val (.ref x), .val (.int (Int32.ofNat (own_lit (p1 &&& (3 : Int32))).length)), .unset, .unset, .unset, .unset, .unset, .unset, .unset] [(.int p3)])) _
  refine OGo.step (fun _ kk => X50.ldcInt hx hown (mvT hZ (hw _ (List.mem_of_getElem? (i := 25) rfl))) (g := (mkF m 26 #[.val (.int p1), .val (.int p2), .val (.int p3), .val (.int p4), .val (.int (p1 &&& (3 : Int32))), .val (.int (p2 &&& (7 : Int32))), .val (.ref x), .val (.int (Int32.ofNat (own_lit (p1 &&& (3 : Int32))).length)), .unset, .unset, .unset, .unset, .unset, .unset, .unset] [(.int p3)])) rfl (hb hby at_26) _ kk) ?_
  show OGo p e below (T50.setTop (mkF m 28 #[.val (.int p1), .val (.int p2), .val (.int p3), .val (.int p4), .val (.int (p1 &&& (3 : Int32))), .val (.int (p2 &&& (7 : Int32))), .val (.ref x), .val (.int (Int32.ofNat (own_lit (p1 &&& (3 : Int32))).length)), .unset, .unset, .unset, .unset, .unset, .unset, .unset] [(.int (2147483647 : Int32)), (.int p3)])) _
  refine OGo.step (fun _ kk => XS.iand X50.here hx rfl (hb hby at_28) rfl kk) ?_
  show OGo p e below (T50.setTop (mkF m 29 #[.val (.int p1), .val (.int p2), .val (.int p3), .val (.int p4), .val (.int (p1 &&& (3 : Int32))), .val (.int (p2 &&& (7 : Int32))), .val (.ref x), .val (.int (Int32.ofNat (own_lit (p1 &&& (3 : Int32))).length)), .unset, .unset, .unset, .unset, .unset, .unset, .unset] [(.int (p3 &&& (2147483647 : Int32)))])) _
  refine OGo.step (fun _ kk => XS.iload X50.here hx rfl (hb hby at_29) rfl kk) ?_
  show OGo p e below (T50.setTop (mkF m 31 #[.val (.int p1), .val (.int p2), .val (.int p3), .val (.int p4), .val (.int (p1 &&& (3 : Int32))), .val (.int (p2 &&& (7 : Int32))), .val (.ref x), .val (.int (Int32.ofNat (own_lit (p1 &&& (3 : Int32))).length)), .unset, .unset, .unset, .unset, .unset, .unset, .unset] [(.int (Int32.ofNat (own_lit (p1 &&& (3 : Int32))).length)), (.int (p3 &&& (2147483647 : Int32)))])) _
  refine OGo.step (fun _ kk => Jvm.RoadKit.iremM X50 hx rfl (hb hby at_31) rfl (own_ne0 _ hsl.2.1 hsl.1) kk) ?_
  show OGo p e below (T50.setTop (mkF m 32 #[.val (.int p1), .val (.int p2), .val (.int p3), .val (.int p4), .val (.int (p1 &&& (3 : Int32))), .val (.int (p2 &&& (7 : Int32))), .val (.ref x), .val (.int (Int32.ofNat (own_lit (p1 &&& (3 : Int32))).length)), .unset, .unset, .unset, .unset, .unset, .unset, .unset] [(.int ((p3 &&& (2147483647 : Int32)) % (Int32.ofNat (own_lit (p1 &&& (3 : Int32))).length)))])) _
  obtain ⟨i0, hi0, ei0⟩ := own_i0 p3 (own_lit (p1 &&& (3 : Int32))).length hsl.1 hsl.2.1
  rw [ei0]
  show OGo p e below (T50.setTop (mkF m 32 #[.val (.int p1), .val (.int p2), .val (.int p3), .val (.int p4), .val (.int (p1 &&& (3 : Int32))), .val (.int (p2 &&& (7 : Int32))), .val (.ref x), .val (.int (Int32.ofNat (own_lit (p1 &&& (3 : Int32))).length)), .unset, .unset, .unset, .unset, .unset, .unset, .unset] [(.int (Int32.ofNat i0))])) _
  refine OGo.step (fun _ kk => XS.istore X50.here hx rfl (hb hby at_32) rfl (l' := #[.val (.int p1), .val (.int p2), .val (.int p3), .val (.int p4), .val (.int (p1 &&& (3 : Int32))), .val (.int (p2 &&& (7 : Int32))), .val (.ref x), .val (.int (Int32.ofNat (own_lit (p1 &&& (3 : Int32))).length)), .val (.int (Int32.ofNat i0)), .unset, .unset, .unset, .unset, .unset, .unset]) rfl kk) ?_
  show OGo p e below (T50.setTop (mkF m 34 #[.val (.int p1), .val (.int p2), .val (.int p3), .val (.int p4), .val (.int (p1 &&& (3 : Int32))), .val (.int (p2 &&& (7 : Int32))), .val (.ref x), .val (.int (Int32.ofNat (own_lit (p1 &&& (3 : Int32))).length)), .val (.int (Int32.ofNat i0)), .unset, .unset, .unset, .unset, .unset, .unset] [])) _
  refine OGo.step (fun _ kk => XS.iloadN X50.here hx rfl (hb hby at_34) rfl kk) ?_
  show OGo p e below (T50.setTop (mkF m 35 #[.val (.int p1), .val (.int p2), .val (.int p3), .val (.int p4), .val (.int (p1 &&& (3 : Int32))), .val (.int (p2 &&& (7 : Int32))), .val (.ref x), .val (.int (Int32.ofNat (own_lit (p1 &&& (3 : Int32))).length)), .val (.int (Int32.ofNat i0)), .unset, .unset, .unset, .unset, .unset, .unset] [(.int p4)])) _
  refine OGo.step (fun _ kk => XS.sipush X50.here hx rfl (hb hby at_35) kk) ?_
  show OGo p e below (T50.setTop (mkF m 38 #[.val (.int p1), .val (.int p2), .val (.int p3), .val (.int p4), .val (.int (p1 &&& (3 : Int32))), .val (.int (p2 &&& (7 : Int32))), .val (.ref x), .val (.int (Int32.ofNat (own_lit (p1 &&& (3 : Int32))).length)), .val (.int (Int32.ofNat i0)), .unset, .unset, .unset, .unset, .unset, .unset] [(.int (255 : Int32)), (.int p4)])) _
  refine OGo.step (fun _ kk => XS.iand X50.here hx rfl (hb hby at_38) rfl kk) ?_
  show OGo p e below (T50.setTop (mkF m 39 #[.val (.int p1), .val (.int p2), .val (.int p3), .val (.int p4), .val (.int (p1 &&& (3 : Int32))), .val (.int (p2 &&& (7 : Int32))), .val (.ref x), .val (.int (Int32.ofNat (own_lit (p1 &&& (3 : Int32))).length)), .val (.int (Int32.ofNat i0)), .unset, .unset, .unset, .unset, .unset, .unset] [(.int (p4 &&& (255 : Int32)))])) _
  refine OGo.step (fun _ kk => XS.i2c X50.here hx rfl (hb hby at_39) rfl kk) ?_
  show OGo p e below (T50.setTop (mkF m 40 #[.val (.int p1), .val (.int p2), .val (.int p3), .val (.int p4), .val (.int (p1 &&& (3 : Int32))), .val (.int (p2 &&& (7 : Int32))), .val (.ref x), .val (.int (Int32.ofNat (own_lit (p1 &&& (3 : Int32))).length)), .val (.int (Int32.ofNat i0)), .unset, .unset, .unset, .unset, .unset, .unset] [(.int ((p4 &&& (255 : Int32)).toUInt32.toUInt16.toUInt32.toInt32))])) _
  have hc := own_c255 p4
  obtain ⟨ch, hch⟩ : ∃ z, z = ((p4 &&& (255 : Int32)).toUInt32.toUInt16.toUInt32.toInt32) := ⟨_, rfl⟩
  rw [← hch] at hc
  rw [← hch]
  show OGo p e below (T50.setTop (mkF m 40 #[.val (.int p1), .val (.int p2), .val (.int p3), .val (.int p4), .val (.int (p1 &&& (3 : Int32))), .val (.int (p2 &&& (7 : Int32))), .val (.ref x), .val (.int (Int32.ofNat (own_lit (p1 &&& (3 : Int32))).length)), .val (.int (Int32.ofNat i0)), .unset, .unset, .unset, .unset, .unset, .unset] [(.int ch)])) _
  refine OGo.step (fun _ kk => XS.istore X50.here hx rfl (hb hby at_40) rfl (l' := #[.val (.int p1), .val (.int p2), .val (.int p3), .val (.int p4), .val (.int (p1 &&& (3 : Int32))), .val (.int (p2 &&& (7 : Int32))), .val (.ref x), .val (.int (Int32.ofNat (own_lit (p1 &&& (3 : Int32))).length)), .val (.int (Int32.ofNat i0)), .val (.int ch), .unset, .unset, .unset, .unset, .unset]) rfl kk) ?_
  show OGo p e below (T50.setTop (mkF m 42 #[.val (.int p1), .val (.int p2), .val (.int p3), .val (.int p4), .val (.int (p1 &&& (3 : Int32))), .val (.int (p2 &&& (7 : Int32))), .val (.ref x), .val (.int (Int32.ofNat (own_lit (p1 &&& (3 : Int32))).length)), .val (.int (Int32.ofNat i0)), .val (.int ch), .unset, .unset, .unset, .unset, .unset] [])) _
  refine OGo.step (fun _ kk => XS.iload X50.here hx rfl (hb hby at_42) rfl kk) ?_
  show OGo p e below (T50.setTop (mkF m 44 #[.val (.int p1), .val (.int p2), .val (.int p3), .val (.int p4), .val (.int (p1 &&& (3 : Int32))), .val (.int (p2 &&& (7 : Int32))), .val (.ref x), .val (.int (Int32.ofNat (own_lit (p1 &&& (3 : Int32))).length)), .val (.int (Int32.ofNat i0)), .val (.int ch), .unset, .unset, .unset, .unset, .unset] [(.int (p2 &&& (7 : Int32)))])) _
  obtain ⟨mm, hmm⟩ : ∃ z, z = (p2 &&& (7 : Int32)) := ⟨_, rfl⟩
  rw [← hmm]
  show OGo p e below (T50.setTop (mkF m 44 #[.val (.int p1), .val (.int p2), .val (.int p3), .val (.int p4), .val (.int (p1 &&& (3 : Int32))), .val (.int mm), .val (.ref x), .val (.int (Int32.ofNat (own_lit (p1 &&& (3 : Int32))).length)), .val (.int (Int32.ofNat i0)), .val (.int ch), .unset, .unset, .unset, .unset, .unset] [(.int mm)])) _
  have hT := own_T_ok (m := mm) (i0 := i0) hsl.2.2 hc hsl.1 hsl.2.1
  have K118 : ∀ N : Int32, N = Int32.ofNat (own_T (own_lit (p1 &&& (3 : Int32))) mm i0 ch).length → OGo p e below (T50.setTop (mkF m 118 #[.val (.int p1), .val (.int p2), .val (.int p3), .val (.int p4), .val (.int (p1 &&& (3 : Int32))), .val (.int mm), .val (.ref x), .val (.int (Int32.ofNat (own_lit (p1 &&& (3 : Int32))).length)), .val (.int (Int32.ofNat i0)), .val (.int ch), .val (.int N), .unset, .unset, .unset, .unset] [])) (OEndW s Z consts_1 (fun v h L => v = some (.int (1 : Int32)) ∧ Fr n0 L) room_1.cells room_1.slots) := by
    intro N hN
    show OGo p e below (T50.setTop (mkF m 118 #[.val (.int p1), .val (.int p2), .val (.int p3), .val (.int p4), .val (.int (p1 &&& (3 : Int32))), .val (.int mm), .val (.ref x), .val (.int (Int32.ofNat (own_lit (p1 &&& (3 : Int32))).length)), .val (.int (Int32.ofNat i0)), .val (.int ch), .val (.int N), .unset, .unset, .unset, .unset] [])) _
    refine OGo.step (fun _ kk => XS.iload X50.here hx rfl (hb hby at_118) rfl kk) ?_
    show OGo p e below (T50.setTop (mkF m 120 #[.val (.int p1), .val (.int p2), .val (.int p3), .val (.int p4), .val (.int (p1 &&& (3 : Int32))), .val (.int mm), .val (.ref x), .val (.int (Int32.ofNat (own_lit (p1 &&& (3 : Int32))).length)), .val (.int (Int32.ofNat i0)), .val (.int ch), .val (.int N), .unset, .unset, .unset, .unset] [(.int N)])) _
    obtain ⟨T51, h51, k51, X51, e51, E51, A51, st51⟩ := newP X50 hx hZ (hw _ (List.mem_of_getElem? (i := 26) rfl)) e50 (g := (mkF m 120 #[.val (.int p1), .val (.int p2), .val (.int p3), .val (.int p4), .val (.int (p1 &&& (3 : Int32))), .val (.int mm), .val (.ref x), .val (.int (Int32.ofNat (own_lit (p1 &&& (3 : Int32))).length)), .val (.int (Int32.ofNat i0)), .val (.int ch), .val (.int N), .unset, .unset, .unset, .unset] [(.int N)])) rfl (hb hby at_120) rfl (by rw [hN]; exact own_pos14 _ hT.1) (cap := 14) (by rw [hN]; exact own_cap14 _ hT.1) (by decide) (by decide) (by decide)
    obtain ⟨b, g51⟩ : ∃ z, z = T48.heap.size := ⟨_, rfl⟩
    rw [← g51] at A51 st51
    refine OGo.step st51 ?_
    show OGo p e below (T51.setTop (mkF m 122 #[.val (.int p1), .val (.int p2), .val (.int p3), .val (.int p4), .val (.int (p1 &&& (3 : Int32))), .val (.int mm), .val (.ref x), .val (.int (Int32.ofNat (own_lit (p1 &&& (3 : Int32))).length)), .val (.int (Int32.ofNat i0)), .val (.int ch), .val (.int N), .unset, .unset, .unset, .unset] [(.ref b)])) _
    have gf_b : n0 ≤ b := Nat.le_trans sz48 (Nat.le_of_eq g51.symm)
    have sz51 : n0 ≤ h51.size := Nat.le_trans sz48 E51.1
    have OW52 := OW48.ext E51
    have hNn : ¬ N < 0 := by rw [hN]; exact own_pos14 _ hT.1
    have V0_ : Arv Z h51 b k51 .char N (((own_T (own_lit (p1 &&& (3 : Int32))) mm i0 ch).take 0).map Value.int) (.int (0 : Int32)) := Arv.new A51 hNn
    refine OGo.step (fun _ kk => XS.astore X51.here hx rfl (hb hby at_122) rfl rfl (l' := #[.val (.int p1), .val (.int p2), .val (.int p3), .val (.int p4), .val (.int (p1 &&& (3 : Int32))), .val (.int mm), .val (.ref x), .val (.int (Int32.ofNat (own_lit (p1 &&& (3 : Int32))).length)), .val (.int (Int32.ofNat i0)), .val (.int ch), .val (.int N), .val (.ref b), .unset, .unset, .unset]) rfl kk) ?_
    show OGo p e below (T51.setTop (mkF m 124 #[.val (.int p1), .val (.int p2), .val (.int p3), .val (.int p4), .val (.int (p1 &&& (3 : Int32))), .val (.int mm), .val (.ref x), .val (.int (Int32.ofNat (own_lit (p1 &&& (3 : Int32))).length)), .val (.int (Int32.ofNat i0)), .val (.int ch), .val (.int N), .val (.ref b), .unset, .unset, .unset] [])) _
    have S_14 : ∀ (T : State) (locs : List Loc) (h : Heap), Stand p l e room_1 (s.setVm T48.vm) m #[(.int p1), (.int p2), (.int p3), (.int p4)] below meth c T locs 3 70 → T.heap = h → OW Z s consts_1 T48.vm h → Keep h51 h [b] → Arv Z h b k51 .char N ((own_T (own_lit (p1 &&& (3 : Int32))) mm i0 ch).map Value.int) (.int (0 : Int32)) → Fr n0 locs → n0 ≤ h.size → (own_T (own_lit (p1 &&& (3 : Int32))) mm i0 ch).length ≤ 14 → OGo p e below (T.setTop (mkF m 483 #[.val (.int p1), .val (.int p2), .val (.int p3), .val (.int p4), .val (.int (p1 &&& (3 : Int32))), .val (.int mm), .val (.ref x), .val (.int (Int32.ofNat (own_lit (p1 &&& (3 : Int32))).length)), .val (.int (Int32.ofNat i0)), .val (.int ch), .val (.int N), .val (.ref b), .unset, .unset, .unset] [])) (OEndW s Z consts_1 (fun v h L => v = some (.int (1 : Int32)) ∧ Fr n0 L) room_1.cells room_1.slots) := by
      intro T locs h XT eT OWT KT VT NT ZT hle
      show OGo p e below (T.setTop (mkF m 483 #[.val (.int p1), .val (.int p2), .val (.int p3), .val (.int p4), .val (.int (p1 &&& (3 : Int32))), .val (.int mm), .val (.ref x), .val (.int (Int32.ofNat (own_lit (p1 &&& (3 : Int32))).length)), .val (.int (Int32.ofNat i0)), .val (.int ch), .val (.int N), .val (.ref b), .unset, .unset, .unset] [])) _
      obtain ⟨T53, h53, X53, e53, E53, A53, D53, U53, st53⟩ := newO XT hx hZ hown (hw _ (List.mem_of_getElem? (i := 52) rfl)) (hw _ (List.mem_of_getElem? (i := 6) rfl)) (hw _ (List.mem_of_getElem? (i := 5) rfl)) eT (g := (mkF m 483 #[.val (.int p1), .val (.int p2), .val (.int p3), .val (.int p4), .val (.int (p1 &&& (3 : Int32))), .val (.int mm), .val (.ref x), .val (.int (Int32.ofNat (own_lit (p1 &&& (3 : Int32))).length)), .val (.int (Int32.ofNat i0)), .val (.int ch), .val (.int N), .val (.ref b), .unset, .unset, .unset] [])) rfl (hb hby at_483) (by decide) (by decide)
      obtain ⟨x2, g53⟩ : ∃ z, z = h.size := ⟨_, rfl⟩
      rw [← g53] at A53 D53 U53 st53
      refine OGo.step st53 ?_
      show OGo p e below (T53.setTop (mkF m 486 #[.val (.int p1), .val (.int p2), .val (.int p3), .val (.int p4), .val (.int (p1 &&& (3 : Int32))), .val (.int mm), .val (.ref x), .val (.int (Int32.ofNat (own_lit (p1 &&& (3 : Int32))).length)), .val (.int (Int32.ofNat i0)), .val (.int ch), .val (.int N), .val (.ref b), .unset, .unset, .unset] [(.ref x2)])) _
      have ne_b_x2 : b ≠ x2 := Nat.ne_of_lt (Nat.lt_of_lt_of_le VT.lt (Nat.le_of_eq g53.symm))
      have gf_x2 : n0 ≤ x2 := Nat.le_trans ZT (Nat.le_of_eq g53.symm)
      have sz53 : n0 ≤ h53.size := Nat.le_trans ZT E53.1
      have OW54 := OWT.ext E53
      have F53_value : Fld Z h53 x2 "java/lang/String" "value" "[B" .null := D53 (Or.inr (hw _ (List.mem_of_getElem? (i := 8) rfl))) (ty := (.array .byte)) (by decide)
      have F53_coder : Fld Z h53 x2 "java/lang/String" "coder" "B" (.int (0 : Int32)) := D53 (Or.inr (hw _ (List.mem_of_getElem? (i := 9) rfl))) (ty := .byte) (by decide)
      have sf55 := own_safe_null (EL := consts_1) OW54.2.1.alike A53 F53_value
      refine OGo.step (fun _ kk => XS.dup X53.here hx rfl (hb hby at_486) rfl rfl kk) ?_
      show OGo p e below (T53.setTop (mkF m 487 #[.val (.int p1), .val (.int p2), .val (.int p3), .val (.int p4), .val (.int (p1 &&& (3 : Int32))), .val (.int mm), .val (.ref x), .val (.int (Int32.ofNat (own_lit (p1 &&& (3 : Int32))).length)), .val (.int (Int32.ofNat i0)), .val (.int ch), .val (.int N), .val (.ref b), .unset, .unset, .unset] [(.ref x2), (.ref x2)])) _
      refine OGo.step (fun _ kk => XS.aload X53.here hx rfl (hb hby at_487) rfl rfl kk) ?_
      show OGo p e below (T53.setTop (mkF m 489 #[.val (.int p1), .val (.int p2), .val (.int p3), .val (.int p4), .val (.int (p1 &&& (3 : Int32))), .val (.int mm), .val (.ref x), .val (.int (Int32.ofNat (own_lit (p1 &&& (3 : Int32))).length)), .val (.int (Int32.ofNat i0)), .val (.int ch), .val (.int N), .val (.ref b), .unset, .unset, .unset] [(.ref b), (.ref x2), (.ref x2)])) _
      have fc56 := (VT.ext E53)
      have xt57 := (own_ext_trans Xe48 E51)
      have xt58 := (own_ext_keep xt57 KT (allS (Nat.le_trans Xe48.1 (Nat.le_of_eq g51.symm)) all0))
      have xt59 := (own_ext_trans xt58 E53)
      have fx60 := SC.ext xt59
      by_cases hz : (own_T (own_lit (p1 &&& (3 : Int32))) mm i0 ch) = []
      · have vb0 : Arv Z h53 b k51 .char (0 : Int32) [] (.int (0 : Int32)) := by have q := fc56; rw [hN, hz] at q; exact q
        refine own_specialW X53 hx hZ (y := (⟨"java/lang/String", "<init>", "([C)V"⟩ : MethodName)) rfl hown (hw _ (List.mem_of_getElem? (i := 53) rfl)) (hw _ (List.mem_of_getElem? (i := 54) rfl)) (hw _ (List.mem_of_getElem? (i := 55) rfl)) (hw _ (List.mem_of_getElem? (i := 5) rfl)) (by decide) hEL OW54 (a := x2) (W := 1) (own_new1E l Z a0 hw [] x2 b k51 h53 n0 sz53 A53 F53_value F53_coder gf_x2 vb0) e53  (pc := 489) (Ls := #[.val (.int p1), .val (.int p2), .val (.int p3), .val (.int p4), .val (.int (p1 &&& (3 : Int32))), .val (.int mm), .val (.ref x), .val (.int (Int32.ofNat (own_lit (p1 &&& (3 : Int32))).length)), .val (.int (Int32.ofNat i0)), .val (.int ch), .val (.int N), .val (.ref b), .unset, .unset, .unset]) (argsL := [(.ref b)]) (rest := [(.ref x2)]) (by rw [hml]; rfl) (lenOf own_pd7 rfl) rfl (hb hby at_489) (by decide) (by decide) (by decide) (by decide) ?_
        intro v61 T61 L61 X61 hQ61 OW61 hZ hown CH61
        obtain ⟨rfl, N61, K61, O61⟩ := hQ61
        have sf62 := CH61.safe (A53).lt sf55
        show OGo p e below (T61.setTop (mkF m 492 #[.val (.int p1), .val (.int p2), .val (.int p3), .val (.int p4), .val (.int (p1 &&& (3 : Int32))), .val (.int mm), .val (.ref x), .val (.int (Int32.ofNat (own_lit (p1 &&& (3 : Int32))).length)), .val (.int (Int32.ofNat i0)), .val (.int ch), .val (.int N), .val (.ref b), .unset, .unset, .unset] [(.ref x2)])) _
        have Nc61 := Fr.app NT N61
        have sz61 : n0 ≤ T61.heap.size := Nat.le_trans sz53 K61.1
        rw [← hz] at O61
        refine OGo.step (fun _ kk => XS.astore X61.here hx rfl (hb hby at_492) rfl rfl (l' := #[.val (.int p1), .val (.int p2), .val (.int p3), .val (.int p4), .val (.int (p1 &&& (3 : Int32))), .val (.int mm), .val (.ref x), .val (.int (Int32.ofNat (own_lit (p1 &&& (3 : Int32))).length)), .val (.int (Int32.ofNat i0)), .val (.int ch), .val (.int N), .val (.ref b), .val (.ref x2), .unset, .unset]) rfl kk) ?_
        show OGo p e below (T61.setTop (mkF m 494 #[.val (.int p1), .val (.int p2), .val (.int p3), .val (.int p4), .val (.int (p1 &&& (3 : Int32))), .val (.int mm), .val (.ref x), .val (.int (Int32.ofNat (own_lit (p1 &&& (3 : Int32))).length)), .val (.int (Int32.ofNat i0)), .val (.int ch), .val (.int N), .val (.ref b), .val (.ref x2), .unset, .unset] [])) _
        refine OGo.step (fun _ kk => XS.iload X61.here hx rfl (hb hby at_494) rfl kk) ?_
        show OGo p e below (T61.setTop (mkF m 496 #[.val (.int p1), .val (.int p2), .val (.int p3), .val (.int p4), .val (.int (p1 &&& (3 : Int32))), .val (.int mm), .val (.ref x), .val (.int (Int32.ofNat (own_lit (p1 &&& (3 : Int32))).length)), .val (.int (Int32.ofNat i0)), .val (.int ch), .val (.int N), .val (.ref b), .val (.ref x2), .unset, .unset] [(.int mm)])) _
        by_cases g0 : mm = (0 : Int32)
        · refine OGo.step (fun _ kk => XS.ifYes X61.here hx rfl (pc0 := 496) (pc' := 517) rfl (hb hby at_496) rfl ((if0 _ _).trans (teq g0).1) (by decide) (by decide) kk) ?_
          show OGo p e below (T61.setTop (mkF m 517 #[.val (.int p1), .val (.int p2), .val (.int p3), .val (.int p4), .val (.int (p1 &&& (3 : Int32))), .val (.int mm), .val (.ref x), .val (.int (Int32.ofNat (own_lit (p1 &&& (3 : Int32))).length)), .val (.int (Int32.ofNat i0)), .val (.int ch), .val (.int N), .val (.ref b), .val (.ref x2), .unset, .unset] [])) _
          refine OGo.step (fun _ kk => XS.iload X61.here hx rfl (hb hby at_517) rfl kk) ?_
          show OGo p e below (T61.setTop (mkF m 519 #[.val (.int p1), .val (.int p2), .val (.int p3), .val (.int p4), .val (.int (p1 &&& (3 : Int32))), .val (.int mm), .val (.ref x), .val (.int (Int32.ofNat (own_lit (p1 &&& (3 : Int32))).length)), .val (.int (Int32.ofNat i0)), .val (.int ch), .val (.int N), .val (.ref b), .val (.ref x2), .unset, .unset] [(.int (p1 &&& (3 : Int32)))])) _
          have xt63 := (own_ext_keep xt59 K61 (allS (Nat.le_trans xt58.1 (Nat.le_of_eq g53.symm)) all0))
          have fx64 := S0.ext xt63
          have fx65 := S1.ext xt63
          have fx66 := S2.ext xt63
          have fx67 := S3.ext xt63
          refine own_callS X61 hx hZ (y := (⟨"com/example/tenantd/tenantd/RoleTypeOfTextPinLaw", "type", "(I)Lcom/example/tenantd/tenantd/RoleType;"⟩ : MethodName)) hown (hw _ (List.mem_of_getElem? (i := 123) rfl)) (hw _ (List.mem_of_getElem? (i := 124) rfl)) (hw _ (List.mem_of_getElem? (i := 2) rfl)) (hw _ (List.mem_of_getElem? (i := 125) rfl)) (by decide) (W := 0) (own_type l Z a0 hw [] (p1 &&& (3 : Int32)) r0 r1 r2 r3 T61.heap n0 sz61 fx64 fx65 fx66 fx67) rfl  (pc := 519) (Ls := #[.val (.int p1), .val (.int p2), .val (.int p3), .val (.int p4), .val (.int (p1 &&& (3 : Int32))), .val (.int mm), .val (.ref x), .val (.int (Int32.ofNat (own_lit (p1 &&& (3 : Int32))).length)), .val (.int (Int32.ofNat i0)), .val (.int ch), .val (.int N), .val (.ref b), .val (.ref x2), .unset, .unset]) (argsL := [(.int (p1 &&& (3 : Int32)))]) (rest := []) (by rw [hml]; rfl) (lenOf own_pd8 rfl) rfl (hb hby at_519) (by decide) (by decide) (by decide) (by decide) ?_
          intro v68 T68 L68 X68 hQ68
          obtain ⟨rfl, N68, e68⟩ := hQ68
          show OGo p e below (T68.setTop (mkF m 522 #[.val (.int p1), .val (.int p2), .val (.int p3), .val (.int p4), .val (.int (p1 &&& (3 : Int32))), .val (.int mm), .val (.ref x), .val (.int (Int32.ofNat (own_lit (p1 &&& (3 : Int32))).length)), .val (.int (Int32.ofNat i0)), .val (.int ch), .val (.int N), .val (.ref b), .val (.ref x2), .unset, .unset] [(.ref (own_ty (p1 &&& (3 : Int32)) r0 r1 r2 r3))])) _
          have Nc68 := Fr.app Nc61 N68
          refine OGo.step (fun _ kk => XS.astore X68.here hx rfl (hb hby at_522) rfl rfl (l' := #[.val (.int p1), .val (.int p2), .val (.int p3), .val (.int p4), .val (.int (p1 &&& (3 : Int32))), .val (.int mm), .val (.ref x), .val (.int (Int32.ofNat (own_lit (p1 &&& (3 : Int32))).length)), .val (.int (Int32.ofNat i0)), .val (.int ch), .val (.int N), .val (.ref b), .val (.ref x2), .val (.ref (own_ty (p1 &&& (3 : Int32)) r0 r1 r2 r3)), .unset]) rfl kk) ?_
          show OGo p e below (T68.setTop (mkF m 524 #[.val (.int p1), .val (.int p2), .val (.int p3), .val (.int p4), .val (.int (p1 &&& (3 : Int32))), .val (.int mm), .val (.ref x), .val (.int (Int32.ofNat (own_lit (p1 &&& (3 : Int32))).length)), .val (.int (Int32.ofNat i0)), .val (.int ch), .val (.int N), .val (.ref b), .val (.ref x2), .val (.ref (own_ty (p1 &&& (3 : Int32)) r0 r1 r2 r3)), .unset] [])) _
          refine OGo.step (fun _ kk => XS.goto X68.here hx rfl (pc0 := 524) (pc' := 530) rfl (hb hby at_524) (by decide) (by decide) kk) ?_
          show OGo p e below (T68.setTop (mkF m 530 #[.val (.int p1), .val (.int p2), .val (.int p3), .val (.int p4), .val (.int (p1 &&& (3 : Int32))), .val (.int mm), .val (.ref x), .val (.int (Int32.ofNat (own_lit (p1 &&& (3 : Int32))).length)), .val (.int (Int32.ofNat i0)), .val (.int ch), .val (.int N), .val (.ref b), .val (.ref x2), .val (.ref (own_ty (p1 &&& (3 : Int32)) r0 r1 r2 r3)), .unset] [])) _
          refine OGo.step (fun _ kk => XS.aload X68.here hx rfl (hb hby at_530) rfl rfl kk) ?_
          show OGo p e below (T68.setTop (mkF m 532 #[.val (.int p1), .val (.int p2), .val (.int p3), .val (.int p4), .val (.int (p1 &&& (3 : Int32))), .val (.int mm), .val (.ref x), .val (.int (Int32.ofNat (own_lit (p1 &&& (3 : Int32))).length)), .val (.int (Int32.ofNat i0)), .val (.int ch), .val (.int N), .val (.ref b), .val (.ref x2), .val (.ref (own_ty (p1 &&& (3 : Int32)) r0 r1 r2 r3)), .unset] [(.ref x2)])) _
          have fx69 := SV.ext xt63
          have fx70 := AV.ext xt63
          have fx71 := EV.ext xt63
          have fx72 := Ft0.ext xt63
          have fx73 := O0.ext xt63
          have fx74 := Ft1.ext xt63
          have fx75 := O1.ext xt63
          have fx76 := Ft2.ext xt63
          have fx77 := O2.ext xt63
          have fx78 := Ft3.ext xt63
          have fx79 := O3.ext xt63
          have fx80 := SE.ext xt63
          have fx81 := EO.ext xt63
          have fx82 := FO.ext xt63
          have fx83 := SC.ext xt63
          refine own_callS X68 hx hZ (y := (⟨"com/example/tenantd/tenantd/RoleType", "ofText", "(Ljava/lang/String;)Ljava/util/Optional;"⟩ : MethodName)) hown (hw _ (List.mem_of_getElem? (i := 73) rfl)) (hw _ (List.mem_of_getElem? (i := 74) rfl)) (hw _ (List.mem_of_getElem? (i := 75) rfl)) (hw _ (List.mem_of_getElem? (i := 76) rfl)) (by decide) (W := 0) (own_ofS l Z a0 hw [] va vc r0 r1 r2 r3 t0 t1 t2 t3 eo zc x2 _ T61.heap n0 sz61 fx83 hzc fx69 fx70 fx71 FV VS V0 fx72 fx73 V1 fx74 fx75 V2 fx76 fx77 V3 fx78 fx79 fx80 fx81 fx82 O61) e68  (pc := 532) (Ls := #[.val (.int p1), .val (.int p2), .val (.int p3), .val (.int p4), .val (.int (p1 &&& (3 : Int32))), .val (.int mm), .val (.ref x), .val (.int (Int32.ofNat (own_lit (p1 &&& (3 : Int32))).length)), .val (.int (Int32.ofNat i0)), .val (.int ch), .val (.int N), .val (.ref b), .val (.ref x2), .val (.ref (own_ty (p1 &&& (3 : Int32)) r0 r1 r2 r3)), .unset]) (argsL := [(.ref x2)]) (rest := []) (by rw [hml]; rfl) (lenOf own_pd9 rfl) rfl (hb hby at_532) (by decide) (by decide) (by decide) (by decide) ?_
          intro v84 T84 L84 X84 hQ84
          obtain ⟨ob, u84, rfl, N84, Xe84, Eb84, Gv84, hu84⟩ := hQ84
          show OGo p e below (T84.setTop (mkF m 535 #[.val (.int p1), .val (.int p2), .val (.int p3), .val (.int p4), .val (.int (p1 &&& (3 : Int32))), .val (.int mm), .val (.ref x), .val (.int (Int32.ofNat (own_lit (p1 &&& (3 : Int32))).length)), .val (.int (Int32.ofNat i0)), .val (.int ch), .val (.int N), .val (.ref b), .val (.ref x2), .val (.ref (own_ty (p1 &&& (3 : Int32)) r0 r1 r2 r3)), .unset] [(.ref ob)])) _
          have Nc84 := Fr.app Nc68 N84
          have sz84 : n0 ≤ T84.heap.size := Nat.le_trans sz61 Xe84.1
          have sf85 := Safe.ext Xe84 OW61.chv sf62
          have OW86 := OW61.ext Xe84
          have hu : u84 = (.ref (own_ty (p1 &&& (3 : Int32)) r0 r1 r2 r3)) := hu84.trans (own_yes (p1 &&& (3 : Int32)) hi0 (Or.inl g0) r0 r1 r2 r3)
          rw [hu] at Gv84
          refine OGo.step (fun _ kk => XS.aconstNull X84.here hx rfl (hb hby at_535) kk) ?_
          show OGo p e below (T84.setTop (mkF m 536 #[.val (.int p1), .val (.int p2), .val (.int p3), .val (.int p4), .val (.int (p1 &&& (3 : Int32))), .val (.int mm), .val (.ref x), .val (.int (Int32.ofNat (own_lit (p1 &&& (3 : Int32))).length)), .val (.int (Int32.ofNat i0)), .val (.int ch), .val (.int N), .val (.ref b), .val (.ref x2), .val (.ref (own_ty (p1 &&& (3 : Int32)) r0 r1 r2 r3)), .unset] [.null, (.ref ob)])) _
          refine own_virtual X84 hx hZ (y := (⟨"java/util/Optional", "orElse", "(Ljava/lang/Object;)Ljava/lang/Object;"⟩ : MethodName)) (z := (⟨"java/util/Optional", "orElse", "(Ljava/lang/Object;)Ljava/lang/Object;"⟩ : MethodName)) hown (hw _ (List.mem_of_getElem? (i := 112) rfl)) (hw _ (List.mem_of_getElem? (i := 113) rfl)) (notFace_of_selects (args := #[]) (mvT hZ (hw _ (List.mem_of_getElem? (i := 115) rfl)))) (hw _ (List.mem_of_getElem? (i := 115) rfl)) (hw _ (List.mem_of_getElem? (i := 114) rfl)) (by decide) (hw _ (List.mem_of_getElem? (i := 116) rfl)) (hw _ (List.mem_of_getElem? (i := 109) rfl)) (b := ob) Eb84 (W := 0) (own_orElseR l Z a0 hw [] ob (own_ty (p1 &&& (3 : Int32)) r0 r1 r2 r3) T84.heap n0 sz84 Gv84) rfl  (pc := 536) (Ls := #[.val (.int p1), .val (.int p2), .val (.int p3), .val (.int p4), .val (.int (p1 &&& (3 : Int32))), .val (.int mm), .val (.ref x), .val (.int (Int32.ofNat (own_lit (p1 &&& (3 : Int32))).length)), .val (.int (Int32.ofNat i0)), .val (.int ch), .val (.int N), .val (.ref b), .val (.ref x2), .val (.ref (own_ty (p1 &&& (3 : Int32)) r0 r1 r2 r3)), .unset]) (argsL := [.null]) (rest := []) (by rw [hml]; rfl) (lenOf own_pd10 rfl) rfl (hb hby at_536) (by decide) (by decide) (by decide) (by decide) ?_
          intro v87 T87 L87 X87 hQ87
          obtain ⟨rfl, N87, e87⟩ := hQ87
          show OGo p e below (T87.setTop (mkF m 539 #[.val (.int p1), .val (.int p2), .val (.int p3), .val (.int p4), .val (.int (p1 &&& (3 : Int32))), .val (.int mm), .val (.ref x), .val (.int (Int32.ofNat (own_lit (p1 &&& (3 : Int32))).length)), .val (.int (Int32.ofNat i0)), .val (.int ch), .val (.int N), .val (.ref b), .val (.ref x2), .val (.ref (own_ty (p1 &&& (3 : Int32)) r0 r1 r2 r3)), .unset] [(.ref (own_ty (p1 &&& (3 : Int32)) r0 r1 r2 r3))])) _
          have Nc87 := Fr.app Nc84 N87
          have xt88 := (own_ext_trans xt63 Xe84)
          have fx89 := E0_.ext xt88
          have fx90 := E1_.ext xt88
          have fx91 := E2_.ext xt88
          have fx92 := E3_.ext xt88
          obtain ⟨T93, X93, e93, st93⟩ := castY X87 hx hZ hown (hw _ (List.mem_of_getElem? (i := 141) rfl)) e87 (Ins.self (own_tye (p1 &&& (3 : Int32)) fx89 fx90 fx91 fx92)) (g := (mkF m 539 #[.val (.int p1), .val (.int p2), .val (.int p3), .val (.int p4), .val (.int (p1 &&& (3 : Int32))), .val (.int mm), .val (.ref x), .val (.int (Int32.ofNat (own_lit (p1 &&& (3 : Int32))).length)), .val (.int (Int32.ofNat i0)), .val (.int ch), .val (.int N), .val (.ref b), .val (.ref x2), .val (.ref (own_ty (p1 &&& (3 : Int32)) r0 r1 r2 r3)), .unset] [(.ref (own_ty (p1 &&& (3 : Int32)) r0 r1 r2 r3))])) rfl rfl (hb hby at_539)
          refine OGo.step st93 ?_
          show OGo p e below (T93.setTop (mkF m 542 #[.val (.int p1), .val (.int p2), .val (.int p3), .val (.int p4), .val (.int (p1 &&& (3 : Int32))), .val (.int mm), .val (.ref x), .val (.int (Int32.ofNat (own_lit (p1 &&& (3 : Int32))).length)), .val (.int (Int32.ofNat i0)), .val (.int ch), .val (.int N), .val (.ref b), .val (.ref x2), .val (.ref (own_ty (p1 &&& (3 : Int32)) r0 r1 r2 r3)), .unset] [(.ref (own_ty (p1 &&& (3 : Int32)) r0 r1 r2 r3))])) _
          refine OGo.step (fun _ kk => XS.astore X93.here hx rfl (hb hby at_542) rfl rfl (l' := #[.val (.int p1), .val (.int p2), .val (.int p3), .val (.int p4), .val (.int (p1 &&& (3 : Int32))), .val (.int mm), .val (.ref x), .val (.int (Int32.ofNat (own_lit (p1 &&& (3 : Int32))).length)), .val (.int (Int32.ofNat i0)), .val (.int ch), .val (.int N), .val (.ref b), .val (.ref x2), .val (.ref (own_ty (p1 &&& (3 : Int32)) r0 r1 r2 r3)), .val (.ref (own_ty (p1 &&& (3 : Int32)) r0 r1 r2 r3))]) rfl kk) ?_
          show OGo p e below (T93.setTop (mkF m 544 #[.val (.int p1), .val (.int p2), .val (.int p3), .val (.int p4), .val (.int (p1 &&& (3 : Int32))), .val (.int mm), .val (.ref x), .val (.int (Int32.ofNat (own_lit (p1 &&& (3 : Int32))).length)), .val (.int (Int32.ofNat i0)), .val (.int ch), .val (.int N), .val (.ref b), .val (.ref x2), .val (.ref (own_ty (p1 &&& (3 : Int32)) r0 r1 r2 r3)), .val (.ref (own_ty (p1 &&& (3 : Int32)) r0 r1 r2 r3))] [])) _
          refine OGo.step (fun _ kk => XS.aload X93.here hx rfl (hb hby at_544) rfl rfl kk) ?_
          show OGo p e below (T93.setTop (mkF m 546 #[.val (.int p1), .val (.int p2), .val (.int p3), .val (.int p4), .val (.int (p1 &&& (3 : Int32))), .val (.int mm), .val (.ref x), .val (.int (Int32.ofNat (own_lit (p1 &&& (3 : Int32))).length)), .val (.int (Int32.ofNat i0)), .val (.int ch), .val (.int N), .val (.ref b), .val (.ref x2), .val (.ref (own_ty (p1 &&& (3 : Int32)) r0 r1 r2 r3)), .val (.ref (own_ty (p1 &&& (3 : Int32)) r0 r1 r2 r3))] [(.ref (own_ty (p1 &&& (3 : Int32)) r0 r1 r2 r3))])) _
          refine OGo.step (fun _ kk => XS.aload X93.here hx rfl (hb hby at_546) rfl rfl kk) ?_
          show OGo p e below (T93.setTop (mkF m 548 #[.val (.int p1), .val (.int p2), .val (.int p3), .val (.int p4), .val (.int (p1 &&& (3 : Int32))), .val (.int mm), .val (.ref x), .val (.int (Int32.ofNat (own_lit (p1 &&& (3 : Int32))).length)), .val (.int (Int32.ofNat i0)), .val (.int ch), .val (.int N), .val (.ref b), .val (.ref x2), .val (.ref (own_ty (p1 &&& (3 : Int32)) r0 r1 r2 r3)), .val (.ref (own_ty (p1 &&& (3 : Int32)) r0 r1 r2 r3))] [(.ref (own_ty (p1 &&& (3 : Int32)) r0 r1 r2 r3)), (.ref (own_ty (p1 &&& (3 : Int32)) r0 r1 r2 r3))])) _
          refine OGo.step (fun _ kk => Jvm.RoadKit.acmp (g := (mkF m 548 #[.val (.int p1), .val (.int p2), .val (.int p3), .val (.int p4), .val (.int (p1 &&& (3 : Int32))), .val (.int mm), .val (.ref x), .val (.int (Int32.ofNat (own_lit (p1 &&& (3 : Int32))).length)), .val (.int (Int32.ofNat i0)), .val (.int ch), .val (.int N), .val (.ref b), .val (.ref x2), .val (.ref (own_ty (p1 &&& (3 : Int32)) r0 r1 r2 r3)), .val (.ref (own_ty (p1 &&& (3 : Int32)) r0 r1 r2 r3))] [(.ref (own_ty (p1 &&& (3 : Int32)) r0 r1 r2 r3)), (.ref (own_ty (p1 &&& (3 : Int32)) r0 r1 r2 r3))])) X93 hx rfl rfl rfl (pc0 := 548) (pc' := 551) (same := true) rfl (hb hby at_548) rfl (decide_eq_true rfl) (by decide) (by decide) kk) ?_
          show OGo p e below (T93.setTop (mkF m 551 #[.val (.int p1), .val (.int p2), .val (.int p3), .val (.int p4), .val (.int (p1 &&& (3 : Int32))), .val (.int mm), .val (.ref x), .val (.int (Int32.ofNat (own_lit (p1 &&& (3 : Int32))).length)), .val (.int (Int32.ofNat i0)), .val (.int ch), .val (.int N), .val (.ref b), .val (.ref x2), .val (.ref (own_ty (p1 &&& (3 : Int32)) r0 r1 r2 r3)), .val (.ref (own_ty (p1 &&& (3 : Int32)) r0 r1 r2 r3))] [])) _
          refine OGo.step (fun _ kk => XS.iconst X93.here hx rfl (hb hby at_551) kk) ?_
          show OGo p e below (T93.setTop (mkF m 552 #[.val (.int p1), .val (.int p2), .val (.int p3), .val (.int p4), .val (.int (p1 &&& (3 : Int32))), .val (.int mm), .val (.ref x), .val (.int (Int32.ofNat (own_lit (p1 &&& (3 : Int32))).length)), .val (.int (Int32.ofNat i0)), .val (.int ch), .val (.int N), .val (.ref b), .val (.ref x2), .val (.ref (own_ty (p1 &&& (3 : Int32)) r0 r1 r2 r3)), .val (.ref (own_ty (p1 &&& (3 : Int32)) r0 r1 r2 r3))] [(.int (1 : Int32))])) _
          refine OGo.step (fun _ kk => XS.goto X93.here hx rfl (pc0 := 552) (pc' := 556) rfl (hb hby at_552) (by decide) (by decide) kk) ?_
          show OGo p e below (T93.setTop (mkF m 556 #[.val (.int p1), .val (.int p2), .val (.int p3), .val (.int p4), .val (.int (p1 &&& (3 : Int32))), .val (.int mm), .val (.ref x), .val (.int (Int32.ofNat (own_lit (p1 &&& (3 : Int32))).length)), .val (.int (Int32.ofNat i0)), .val (.int ch), .val (.int N), .val (.ref b), .val (.ref x2), .val (.ref (own_ty (p1 &&& (3 : Int32)) r0 r1 r2 r3)), .val (.ref (own_ty (p1 &&& (3 : Int32)) r0 r1 r2 r3))] [(.int (1 : Int32))])) _
          exact own_retNW X93 hx hlk hEL OW86 e93 hret (by simp) (hb hby at_556) ⟨by rw [own_nar1], Nc87⟩ (by decide) (by decide)
        · refine OGo.step (fun _ kk => XS.ifNo X61.here hx rfl (hb hby at_496) rfl ((if0 _ _).trans (feq g0).1) kk) ?_
          show OGo p e below (T61.setTop (mkF m 499 #[.val (.int p1), .val (.int p2), .val (.int p3), .val (.int p4), .val (.int (p1 &&& (3 : Int32))), .val (.int mm), .val (.ref x), .val (.int (Int32.ofNat (own_lit (p1 &&& (3 : Int32))).length)), .val (.int (Int32.ofNat i0)), .val (.int ch), .val (.int N), .val (.ref b), .val (.ref x2), .unset, .unset] [])) _
          refine OGo.step (fun _ kk => XS.iload X61.here hx rfl (hb hby at_499) rfl kk) ?_
          show OGo p e below (T61.setTop (mkF m 501 #[.val (.int p1), .val (.int p2), .val (.int p3), .val (.int p4), .val (.int (p1 &&& (3 : Int32))), .val (.int mm), .val (.ref x), .val (.int (Int32.ofNat (own_lit (p1 &&& (3 : Int32))).length)), .val (.int (Int32.ofNat i0)), .val (.int ch), .val (.int N), .val (.ref b), .val (.ref x2), .unset, .unset] [(.int mm)])) _
          refine OGo.step (fun _ kk => XS.iconst X61.here hx rfl (hb hby at_501) kk) ?_
          show OGo p e below (T61.setTop (mkF m 502 #[.val (.int p1), .val (.int p2), .val (.int p3), .val (.int p4), .val (.int (p1 &&& (3 : Int32))), .val (.int mm), .val (.ref x), .val (.int (Int32.ofNat (own_lit (p1 &&& (3 : Int32))).length)), .val (.int (Int32.ofNat i0)), .val (.int ch), .val (.int N), .val (.ref b), .val (.ref x2), .unset, .unset] [(.int (1 : Int32)), (.int mm)])) _
          by_cases g1 : mm = (1 : Int32)
          · refine OGo.step (fun _ kk => XS.icmpNo X61.here hx rfl (hb hby at_502) rfl (teq g1).2 kk) ?_
            show OGo p e below (T61.setTop (mkF m 505 #[.val (.int p1), .val (.int p2), .val (.int p3), .val (.int p4), .val (.int (p1 &&& (3 : Int32))), .val (.int mm), .val (.ref x), .val (.int (Int32.ofNat (own_lit (p1 &&& (3 : Int32))).length)), .val (.int (Int32.ofNat i0)), .val (.int ch), .val (.int N), .val (.ref b), .val (.ref x2), .unset, .unset] [])) _
            refine OGo.step (fun _ kk => XS.iload X61.here hx rfl (hb hby at_505) rfl kk) ?_
            show OGo p e below (T61.setTop (mkF m 507 #[.val (.int p1), .val (.int p2), .val (.int p3), .val (.int p4), .val (.int (p1 &&& (3 : Int32))), .val (.int mm), .val (.ref x), .val (.int (Int32.ofNat (own_lit (p1 &&& (3 : Int32))).length)), .val (.int (Int32.ofNat i0)), .val (.int ch), .val (.int N), .val (.ref b), .val (.ref x2), .unset, .unset] [(.int ch)])) _
            refine OGo.step (fun _ kk => XS.aload X61.here hx rfl (hb hby at_507) rfl rfl kk) ?_
            show OGo p e below (T61.setTop (mkF m 509 #[.val (.int p1), .val (.int p2), .val (.int p3), .val (.int p4), .val (.int (p1 &&& (3 : Int32))), .val (.int mm), .val (.ref x), .val (.int (Int32.ofNat (own_lit (p1 &&& (3 : Int32))).length)), .val (.int (Int32.ofNat i0)), .val (.int ch), .val (.int N), .val (.ref b), .val (.ref x2), .unset, .unset] [(.ref x), (.int ch)])) _
            refine OGo.step (fun _ kk => XS.iload X61.here hx rfl (hb hby at_509) rfl kk) ?_
            show OGo p e below (T61.setTop (mkF m 511 #[.val (.int p1), .val (.int p2), .val (.int p3), .val (.int p4), .val (.int (p1 &&& (3 : Int32))), .val (.int mm), .val (.ref x), .val (.int (Int32.ofNat (own_lit (p1 &&& (3 : Int32))).length)), .val (.int (Int32.ofNat i0)), .val (.int ch), .val (.int N), .val (.ref b), .val (.ref x2), .unset, .unset] [(.int (Int32.ofNat i0)), (.ref x), (.int ch)])) _
            have xt94 := (own_ext_keep E51 KT (allS (Nat.le_of_eq g51.symm) all0))
            have xt95 := (own_ext_trans xt94 E53)
            have xt96 := (own_ext_keep xt95 K61 (allS (Nat.le_trans xt94.1 (Nat.le_of_eq g53.symm)) all0))
            have fx97 := Ox48.ext xt96
            have xt98 := (own_ext_keep xt59 K61 (allS (Nat.le_trans xt58.1 (Nat.le_of_eq g53.symm)) all0))
            have fx99 := SC.ext xt98
            have fx100 := SF.ext xt98
            refine own_virtualK X61 hx hZ (y := (⟨"java/lang/String", "charAt", "(I)C"⟩ : MethodName)) (z := (⟨"java/lang/String", "charAt", "(I)C"⟩ : MethodName)) hown (hw _ (List.mem_of_getElem? (i := 30) rfl)) (hw _ (List.mem_of_getElem? (i := 31) rfl)) (notFace_of_selects (args := #[]) (mvT hZ (hw _ (List.mem_of_getElem? (i := 33) rfl)))) (hw _ (List.mem_of_getElem? (i := 33) rfl)) (hw _ (List.mem_of_getElem? (i := 32) rfl)) (by decide) (b := x) (fx97).exa (W := 1) (own_chS (W := 1) hZ (fun d hd => hw d ((by decide +kernel : ∀ d ∈ StrChars.Road.wordsChN, d ∈ tables_1) d hd)) (kI := 4) (hw _ (List.mem_of_getElem? (i := 6) rfl)) (i := i0) fx97 hsl.2.2 fx99 hzc fx100 hfm hi0 n0 (by decide) (by decide)) rfl (pc := 511) (Ls := #[.val (.int p1), .val (.int p2), .val (.int p3), .val (.int p4), .val (.int (p1 &&& (3 : Int32))), .val (.int mm), .val (.ref x), .val (.int (Int32.ofNat (own_lit (p1 &&& (3 : Int32))).length)), .val (.int (Int32.ofNat i0)), .val (.int ch), .val (.int N), .val (.ref b), .val (.ref x2), .unset, .unset]) (argsL := [(.int (Int32.ofNat i0))]) (rest := [(.int ch)]) (by rw [hml]; rfl) (lenOf own_pd0 rfl) rfl (hb hby at_511) (by decide) (by decide) ?_
            intro v101 T101 L101 X101 hQ101
            obtain ⟨rfl, N101, e101⟩ := hQ101
            show OGo p e below (T101.setTop (mkF m 514 #[.val (.int p1), .val (.int p2), .val (.int p3), .val (.int p4), .val (.int (p1 &&& (3 : Int32))), .val (.int mm), .val (.ref x), .val (.int (Int32.ofNat (own_lit (p1 &&& (3 : Int32))).length)), .val (.int (Int32.ofNat i0)), .val (.int ch), .val (.int N), .val (.ref b), .val (.ref x2), .unset, .unset] [(.int ((own_lit (p1 &&& (3 : Int32))).getD i0 0)), (.int ch)])) _
            have Nc101 := Fr.app Nc61 N101
            by_cases gc : ch = ((own_lit (p1 &&& (3 : Int32))).getD i0 0)
            · refine OGo.step (fun _ kk => XS.icmpNo X101.here hx rfl (hb hby at_514) rfl (teq gc).2 kk) ?_
              show OGo p e below (T101.setTop (mkF m 517 #[.val (.int p1), .val (.int p2), .val (.int p3), .val (.int p4), .val (.int (p1 &&& (3 : Int32))), .val (.int mm), .val (.ref x), .val (.int (Int32.ofNat (own_lit (p1 &&& (3 : Int32))).length)), .val (.int (Int32.ofNat i0)), .val (.int ch), .val (.int N), .val (.ref b), .val (.ref x2), .unset, .unset] [])) _
              refine OGo.step (fun _ kk => XS.iload X101.here hx rfl (hb hby at_517) rfl kk) ?_
              show OGo p e below (T101.setTop (mkF m 519 #[.val (.int p1), .val (.int p2), .val (.int p3), .val (.int p4), .val (.int (p1 &&& (3 : Int32))), .val (.int mm), .val (.ref x), .val (.int (Int32.ofNat (own_lit (p1 &&& (3 : Int32))).length)), .val (.int (Int32.ofNat i0)), .val (.int ch), .val (.int N), .val (.ref b), .val (.ref x2), .unset, .unset] [(.int (p1 &&& (3 : Int32)))])) _
              have fx102 := S0.ext xt98
              have fx103 := S1.ext xt98
              have fx104 := S2.ext xt98
              have fx105 := S3.ext xt98
              refine own_callS X101 hx hZ (y := (⟨"com/example/tenantd/tenantd/RoleTypeOfTextPinLaw", "type", "(I)Lcom/example/tenantd/tenantd/RoleType;"⟩ : MethodName)) hown (hw _ (List.mem_of_getElem? (i := 123) rfl)) (hw _ (List.mem_of_getElem? (i := 124) rfl)) (hw _ (List.mem_of_getElem? (i := 2) rfl)) (hw _ (List.mem_of_getElem? (i := 125) rfl)) (by decide) (W := 0) (own_type l Z a0 hw [] (p1 &&& (3 : Int32)) r0 r1 r2 r3 T61.heap n0 sz61 fx102 fx103 fx104 fx105) e101  (pc := 519) (Ls := #[.val (.int p1), .val (.int p2), .val (.int p3), .val (.int p4), .val (.int (p1 &&& (3 : Int32))), .val (.int mm), .val (.ref x), .val (.int (Int32.ofNat (own_lit (p1 &&& (3 : Int32))).length)), .val (.int (Int32.ofNat i0)), .val (.int ch), .val (.int N), .val (.ref b), .val (.ref x2), .unset, .unset]) (argsL := [(.int (p1 &&& (3 : Int32)))]) (rest := []) (by rw [hml]; rfl) (lenOf own_pd8 rfl) rfl (hb hby at_519) (by decide) (by decide) (by decide) (by decide) ?_
              intro v106 T106 L106 X106 hQ106
              obtain ⟨rfl, N106, e106⟩ := hQ106
              show OGo p e below (T106.setTop (mkF m 522 #[.val (.int p1), .val (.int p2), .val (.int p3), .val (.int p4), .val (.int (p1 &&& (3 : Int32))), .val (.int mm), .val (.ref x), .val (.int (Int32.ofNat (own_lit (p1 &&& (3 : Int32))).length)), .val (.int (Int32.ofNat i0)), .val (.int ch), .val (.int N), .val (.ref b), .val (.ref x2), .unset, .unset] [(.ref (own_ty (p1 &&& (3 : Int32)) r0 r1 r2 r3))])) _
              have Nc106 := Fr.app Nc101 N106
              refine OGo.step (fun _ kk => XS.astore X106.here hx rfl (hb hby at_522) rfl rfl (l' := #[.val (.int p1), .val (.int p2), .val (.int p3), .val (.int p4), .val (.int (p1 &&& (3 : Int32))), .val (.int mm), .val (.ref x), .val (.int (Int32.ofNat (own_lit (p1 &&& (3 : Int32))).length)), .val (.int (Int32.ofNat i0)), .val (.int ch), .val (.int N), .val (.ref b), .val (.ref x2), .val (.ref (own_ty (p1 &&& (3 : Int32)) r0 r1 r2 r3)), .unset]) rfl kk) ?_
              show OGo p e below (T106.setTop (mkF m 524 #[.val (.int p1), .val (.int p2), .val (.int p3), .val (.int p4), .val (.int (p1 &&& (3 : Int32))), .val (.int mm), .val (.ref x), .val (.int (Int32.ofNat (own_lit (p1 &&& (3 : Int32))).length)), .val (.int (Int32.ofNat i0)), .val (.int ch), .val (.int N), .val (.ref b), .val (.ref x2), .val (.ref (own_ty (p1 &&& (3 : Int32)) r0 r1 r2 r3)), .unset] [])) _
              refine OGo.step (fun _ kk => XS.goto X106.here hx rfl (pc0 := 524) (pc' := 530) rfl (hb hby at_524) (by decide) (by decide) kk) ?_
              show OGo p e below (T106.setTop (mkF m 530 #[.val (.int p1), .val (.int p2), .val (.int p3), .val (.int p4), .val (.int (p1 &&& (3 : Int32))), .val (.int mm), .val (.ref x), .val (.int (Int32.ofNat (own_lit (p1 &&& (3 : Int32))).length)), .val (.int (Int32.ofNat i0)), .val (.int ch), .val (.int N), .val (.ref b), .val (.ref x2), .val (.ref (own_ty (p1 &&& (3 : Int32)) r0 r1 r2 r3)), .unset] [])) _
              refine OGo.step (fun _ kk => XS.aload X106.here hx rfl (hb hby at_530) rfl rfl kk) ?_
              show OGo p e below (T106.setTop (mkF m 532 #[.val (.int p1), .val (.int p2), .val (.int p3), .val (.int p4), .val (.int (p1 &&& (3 : Int32))), .val (.int mm), .val (.ref x), .val (.int (Int32.ofNat (own_lit (p1 &&& (3 : Int32))).length)), .val (.int (Int32.ofNat i0)), .val (.int ch), .val (.int N), .val (.ref b), .val (.ref x2), .val (.ref (own_ty (p1 &&& (3 : Int32)) r0 r1 r2 r3)), .unset] [(.ref x2)])) _
              have fx107 := SV.ext xt98
              have fx108 := AV.ext xt98
              have fx109 := EV.ext xt98
              have fx110 := Ft0.ext xt98
              have fx111 := O0.ext xt98
              have fx112 := Ft1.ext xt98
              have fx113 := O1.ext xt98
              have fx114 := Ft2.ext xt98
              have fx115 := O2.ext xt98
              have fx116 := Ft3.ext xt98
              have fx117 := O3.ext xt98
              have fx118 := SE.ext xt98
              have fx119 := EO.ext xt98
              have fx120 := FO.ext xt98
              refine own_callS X106 hx hZ (y := (⟨"com/example/tenantd/tenantd/RoleType", "ofText", "(Ljava/lang/String;)Ljava/util/Optional;"⟩ : MethodName)) hown (hw _ (List.mem_of_getElem? (i := 73) rfl)) (hw _ (List.mem_of_getElem? (i := 74) rfl)) (hw _ (List.mem_of_getElem? (i := 75) rfl)) (hw _ (List.mem_of_getElem? (i := 76) rfl)) (by decide) (W := 0) (own_ofS l Z a0 hw [] va vc r0 r1 r2 r3 t0 t1 t2 t3 eo zc x2 _ T61.heap n0 sz61 fx99 hzc fx107 fx108 fx109 FV VS V0 fx110 fx111 V1 fx112 fx113 V2 fx114 fx115 V3 fx116 fx117 fx118 fx119 fx120 O61) e106  (pc := 532) (Ls := #[.val (.int p1), .val (.int p2), .val (.int p3), .val (.int p4), .val (.int (p1 &&& (3 : Int32))), .val (.int mm), .val (.ref x), .val (.int (Int32.ofNat (own_lit (p1 &&& (3 : Int32))).length)), .val (.int (Int32.ofNat i0)), .val (.int ch), .val (.int N), .val (.ref b), .val (.ref x2), .val (.ref (own_ty (p1 &&& (3 : Int32)) r0 r1 r2 r3)), .unset]) (argsL := [(.ref x2)]) (rest := []) (by rw [hml]; rfl) (lenOf own_pd9 rfl) rfl (hb hby at_532) (by decide) (by decide) (by decide) (by decide) ?_
              intro v121 T121 L121 X121 hQ121
              obtain ⟨ob, u121, rfl, N121, Xe121, Eb121, Gv121, hu121⟩ := hQ121
              show OGo p e below (T121.setTop (mkF m 535 #[.val (.int p1), .val (.int p2), .val (.int p3), .val (.int p4), .val (.int (p1 &&& (3 : Int32))), .val (.int mm), .val (.ref x), .val (.int (Int32.ofNat (own_lit (p1 &&& (3 : Int32))).length)), .val (.int (Int32.ofNat i0)), .val (.int ch), .val (.int N), .val (.ref b), .val (.ref x2), .val (.ref (own_ty (p1 &&& (3 : Int32)) r0 r1 r2 r3)), .unset] [(.ref ob)])) _
              have Nc121 := Fr.app Nc106 N121
              have sz121 : n0 ≤ T121.heap.size := Nat.le_trans sz61 Xe121.1
              have sf122 := Safe.ext Xe121 OW61.chv sf62
              have OW123 := OW61.ext Xe121
              have hu : u121 = (.ref (own_ty (p1 &&& (3 : Int32)) r0 r1 r2 r3)) := hu121.trans (own_yes (p1 &&& (3 : Int32)) hi0 (Or.inr ⟨g1, gc⟩) r0 r1 r2 r3)
              rw [hu] at Gv121
              refine OGo.step (fun _ kk => XS.aconstNull X121.here hx rfl (hb hby at_535) kk) ?_
              show OGo p e below (T121.setTop (mkF m 536 #[.val (.int p1), .val (.int p2), .val (.int p3), .val (.int p4), .val (.int (p1 &&& (3 : Int32))), .val (.int mm), .val (.ref x), .val (.int (Int32.ofNat (own_lit (p1 &&& (3 : Int32))).length)), .val (.int (Int32.ofNat i0)), .val (.int ch), .val (.int N), .val (.ref b), .val (.ref x2), .val (.ref (own_ty (p1 &&& (3 : Int32)) r0 r1 r2 r3)), .unset] [.null, (.ref ob)])) _
              refine own_virtual X121 hx hZ (y := (⟨"java/util/Optional", "orElse", "(Ljava/lang/Object;)Ljava/lang/Object;"⟩ : MethodName)) (z := (⟨"java/util/Optional", "orElse", "(Ljava/lang/Object;)Ljava/lang/Object;"⟩ : MethodName)) hown (hw _ (List.mem_of_getElem? (i := 112) rfl)) (hw _ (List.mem_of_getElem? (i := 113) rfl)) (notFace_of_selects (args := #[]) (mvT hZ (hw _ (List.mem_of_getElem? (i := 115) rfl)))) (hw _ (List.mem_of_getElem? (i := 115) rfl)) (hw _ (List.mem_of_getElem? (i := 114) rfl)) (by decide) (hw _ (List.mem_of_getElem? (i := 116) rfl)) (hw _ (List.mem_of_getElem? (i := 109) rfl)) (b := ob) Eb121 (W := 0) (own_orElseR l Z a0 hw [] ob (own_ty (p1 &&& (3 : Int32)) r0 r1 r2 r3) T121.heap n0 sz121 Gv121) rfl  (pc := 536) (Ls := #[.val (.int p1), .val (.int p2), .val (.int p3), .val (.int p4), .val (.int (p1 &&& (3 : Int32))), .val (.int mm), .val (.ref x), .val (.int (Int32.ofNat (own_lit (p1 &&& (3 : Int32))).length)), .val (.int (Int32.ofNat i0)), .val (.int ch), .val (.int N), .val (.ref b), .val (.ref x2), .val (.ref (own_ty (p1 &&& (3 : Int32)) r0 r1 r2 r3)), .unset]) (argsL := [.null]) (rest := []) (by rw [hml]; rfl) (lenOf own_pd10 rfl) rfl (hb hby at_536) (by decide) (by decide) (by decide) (by decide) ?_
              intro v124 T124 L124 X124 hQ124
              obtain ⟨rfl, N124, e124⟩ := hQ124
              show OGo p e below (T124.setTop (mkF m 539 #[.val (.int p1), .val (.int p2), .val (.int p3), .val (.int p4), .val (.int (p1 &&& (3 : Int32))), .val (.int mm), .val (.ref x), .val (.int (Int32.ofNat (own_lit (p1 &&& (3 : Int32))).length)), .val (.int (Int32.ofNat i0)), .val (.int ch), .val (.int N), .val (.ref b), .val (.ref x2), .val (.ref (own_ty (p1 &&& (3 : Int32)) r0 r1 r2 r3)), .unset] [(.ref (own_ty (p1 &&& (3 : Int32)) r0 r1 r2 r3))])) _
              have Nc124 := Fr.app Nc121 N124
              have xt125 := (own_ext_trans xt98 Xe121)
              have fx126 := E0_.ext xt125
              have fx127 := E1_.ext xt125
              have fx128 := E2_.ext xt125
              have fx129 := E3_.ext xt125
              obtain ⟨T130, X130, e130, st130⟩ := castY X124 hx hZ hown (hw _ (List.mem_of_getElem? (i := 141) rfl)) e124 (Ins.self (own_tye (p1 &&& (3 : Int32)) fx126 fx127 fx128 fx129)) (g := (mkF m 539 #[.val (.int p1), .val (.int p2), .val (.int p3), .val (.int p4), .val (.int (p1 &&& (3 : Int32))), .val (.int mm), .val (.ref x), .val (.int (Int32.ofNat (own_lit (p1 &&& (3 : Int32))).length)), .val (.int (Int32.ofNat i0)), .val (.int ch), .val (.int N), .val (.ref b), .val (.ref x2), .val (.ref (own_ty (p1 &&& (3 : Int32)) r0 r1 r2 r3)), .unset] [(.ref (own_ty (p1 &&& (3 : Int32)) r0 r1 r2 r3))])) rfl rfl (hb hby at_539)
              refine OGo.step st130 ?_
              show OGo p e below (T130.setTop (mkF m 542 #[.val (.int p1), .val (.int p2), .val (.int p3), .val (.int p4), .val (.int (p1 &&& (3 : Int32))), .val (.int mm), .val (.ref x), .val (.int (Int32.ofNat (own_lit (p1 &&& (3 : Int32))).length)), .val (.int (Int32.ofNat i0)), .val (.int ch), .val (.int N), .val (.ref b), .val (.ref x2), .val (.ref (own_ty (p1 &&& (3 : Int32)) r0 r1 r2 r3)), .unset] [(.ref (own_ty (p1 &&& (3 : Int32)) r0 r1 r2 r3))])) _
              refine OGo.step (fun _ kk => XS.astore X130.here hx rfl (hb hby at_542) rfl rfl (l' := #[.val (.int p1), .val (.int p2), .val (.int p3), .val (.int p4), .val (.int (p1 &&& (3 : Int32))), .val (.int mm), .val (.ref x), .val (.int (Int32.ofNat (own_lit (p1 &&& (3 : Int32))).length)), .val (.int (Int32.ofNat i0)), .val (.int ch), .val (.int N), .val (.ref b), .val (.ref x2), .val (.ref (own_ty (p1 &&& (3 : Int32)) r0 r1 r2 r3)), .val (.ref (own_ty (p1 &&& (3 : Int32)) r0 r1 r2 r3))]) rfl kk) ?_
              show OGo p e below (T130.setTop (mkF m 544 #[.val (.int p1), .val (.int p2), .val (.int p3), .val (.int p4), .val (.int (p1 &&& (3 : Int32))), .val (.int mm), .val (.ref x), .val (.int (Int32.ofNat (own_lit (p1 &&& (3 : Int32))).length)), .val (.int (Int32.ofNat i0)), .val (.int ch), .val (.int N), .val (.ref b), .val (.ref x2), .val (.ref (own_ty (p1 &&& (3 : Int32)) r0 r1 r2 r3)), .val (.ref (own_ty (p1 &&& (3 : Int32)) r0 r1 r2 r3))] [])) _
              refine OGo.step (fun _ kk => XS.aload X130.here hx rfl (hb hby at_544) rfl rfl kk) ?_
              show OGo p e below (T130.setTop (mkF m 546 #[.val (.int p1), .val (.int p2), .val (.int p3), .val (.int p4), .val (.int (p1 &&& (3 : Int32))), .val (.int mm), .val (.ref x), .val (.int (Int32.ofNat (own_lit (p1 &&& (3 : Int32))).length)), .val (.int (Int32.ofNat i0)), .val (.int ch), .val (.int N), .val (.ref b), .val (.ref x2), .val (.ref (own_ty (p1 &&& (3 : Int32)) r0 r1 r2 r3)), .val (.ref (own_ty (p1 &&& (3 : Int32)) r0 r1 r2 r3))] [(.ref (own_ty (p1 &&& (3 : Int32)) r0 r1 r2 r3))])) _
              refine OGo.step (fun _ kk => XS.aload X130.here hx rfl (hb hby at_546) rfl rfl kk) ?_
              show OGo p e below (T130.setTop (mkF m 548 #[.val (.int p1), .val (.int p2), .val (.int p3), .val (.int p4), .val (.int (p1 &&& (3 : Int32))), .val (.int mm), .val (.ref x), .val (.int (Int32.ofNat (own_lit (p1 &&& (3 : Int32))).length)), .val (.int (Int32.ofNat i0)), .val (.int ch), .val (.int N), .val (.ref b), .val (.ref x2), .val (.ref (own_ty (p1 &&& (3 : Int32)) r0 r1 r2 r3)), .val (.ref (own_ty (p1 &&& (3 : Int32)) r0 r1 r2 r3))] [(.ref (own_ty (p1 &&& (3 : Int32)) r0 r1 r2 r3)), (.ref (own_ty (p1 &&& (3 : Int32)) r0 r1 r2 r3))])) _
              refine OGo.step (fun _ kk => Jvm.RoadKit.acmp (g := (mkF m 548 #[.val (.int p1), .val (.int p2), .val (.int p3), .val (.int p4), .val (.int (p1 &&& (3 : Int32))), .val (.int mm), .val (.ref x), .val (.int (Int32.ofNat (own_lit (p1 &&& (3 : Int32))).length)), .val (.int (Int32.ofNat i0)), .val (.int ch), .val (.int N), .val (.ref b), .val (.ref x2), .val (.ref (own_ty (p1 &&& (3 : Int32)) r0 r1 r2 r3)), .val (.ref (own_ty (p1 &&& (3 : Int32)) r0 r1 r2 r3))] [(.ref (own_ty (p1 &&& (3 : Int32)) r0 r1 r2 r3)), (.ref (own_ty (p1 &&& (3 : Int32)) r0 r1 r2 r3))])) X130 hx rfl rfl rfl (pc0 := 548) (pc' := 551) (same := true) rfl (hb hby at_548) rfl (decide_eq_true rfl) (by decide) (by decide) kk) ?_
              show OGo p e below (T130.setTop (mkF m 551 #[.val (.int p1), .val (.int p2), .val (.int p3), .val (.int p4), .val (.int (p1 &&& (3 : Int32))), .val (.int mm), .val (.ref x), .val (.int (Int32.ofNat (own_lit (p1 &&& (3 : Int32))).length)), .val (.int (Int32.ofNat i0)), .val (.int ch), .val (.int N), .val (.ref b), .val (.ref x2), .val (.ref (own_ty (p1 &&& (3 : Int32)) r0 r1 r2 r3)), .val (.ref (own_ty (p1 &&& (3 : Int32)) r0 r1 r2 r3))] [])) _
              refine OGo.step (fun _ kk => XS.iconst X130.here hx rfl (hb hby at_551) kk) ?_
              show OGo p e below (T130.setTop (mkF m 552 #[.val (.int p1), .val (.int p2), .val (.int p3), .val (.int p4), .val (.int (p1 &&& (3 : Int32))), .val (.int mm), .val (.ref x), .val (.int (Int32.ofNat (own_lit (p1 &&& (3 : Int32))).length)), .val (.int (Int32.ofNat i0)), .val (.int ch), .val (.int N), .val (.ref b), .val (.ref x2), .val (.ref (own_ty (p1 &&& (3 : Int32)) r0 r1 r2 r3)), .val (.ref (own_ty (p1 &&& (3 : Int32)) r0 r1 r2 r3))] [(.int (1 : Int32))])) _
              refine OGo.step (fun _ kk => XS.goto X130.here hx rfl (pc0 := 552) (pc' := 556) rfl (hb hby at_552) (by decide) (by decide) kk) ?_
              show OGo p e below (T130.setTop (mkF m 556 #[.val (.int p1), .val (.int p2), .val (.int p3), .val (.int p4), .val (.int (p1 &&& (3 : Int32))), .val (.int mm), .val (.ref x), .val (.int (Int32.ofNat (own_lit (p1 &&& (3 : Int32))).length)), .val (.int (Int32.ofNat i0)), .val (.int ch), .val (.int N), .val (.ref b), .val (.ref x2), .val (.ref (own_ty (p1 &&& (3 : Int32)) r0 r1 r2 r3)), .val (.ref (own_ty (p1 &&& (3 : Int32)) r0 r1 r2 r3))] [(.int (1 : Int32))])) _
              exact own_retNW X130 hx hlk hEL OW123 e130 hret (by simp) (hb hby at_556) ⟨by rw [own_nar1], Nc124⟩ (by decide) (by decide)
            · refine OGo.step (fun _ kk => XS.icmpYes X101.here hx rfl (pc0 := 514) (pc' := 527) rfl (hb hby at_514) rfl (feq gc).2 (by decide) (by decide) kk) ?_
              show OGo p e below (T101.setTop (mkF m 527 #[.val (.int p1), .val (.int p2), .val (.int p3), .val (.int p4), .val (.int (p1 &&& (3 : Int32))), .val (.int mm), .val (.ref x), .val (.int (Int32.ofNat (own_lit (p1 &&& (3 : Int32))).length)), .val (.int (Int32.ofNat i0)), .val (.int ch), .val (.int N), .val (.ref b), .val (.ref x2), .unset, .unset] [])) _
              refine OGo.step (fun _ kk => XS.aconstNull X101.here hx rfl (hb hby at_527) kk) ?_
              show OGo p e below (T101.setTop (mkF m 528 #[.val (.int p1), .val (.int p2), .val (.int p3), .val (.int p4), .val (.int (p1 &&& (3 : Int32))), .val (.int mm), .val (.ref x), .val (.int (Int32.ofNat (own_lit (p1 &&& (3 : Int32))).length)), .val (.int (Int32.ofNat i0)), .val (.int ch), .val (.int N), .val (.ref b), .val (.ref x2), .unset, .unset] [.null])) _
              refine OGo.step (fun _ kk => XS.astore X101.here hx rfl (hb hby at_528) rfl rfl (l' := #[.val (.int p1), .val (.int p2), .val (.int p3), .val (.int p4), .val (.int (p1 &&& (3 : Int32))), .val (.int mm), .val (.ref x), .val (.int (Int32.ofNat (own_lit (p1 &&& (3 : Int32))).length)), .val (.int (Int32.ofNat i0)), .val (.int ch), .val (.int N), .val (.ref b), .val (.ref x2), .val .null, .unset]) rfl kk) ?_
              show OGo p e below (T101.setTop (mkF m 530 #[.val (.int p1), .val (.int p2), .val (.int p3), .val (.int p4), .val (.int (p1 &&& (3 : Int32))), .val (.int mm), .val (.ref x), .val (.int (Int32.ofNat (own_lit (p1 &&& (3 : Int32))).length)), .val (.int (Int32.ofNat i0)), .val (.int ch), .val (.int N), .val (.ref b), .val (.ref x2), .val .null, .unset] [])) _
              refine OGo.step (fun _ kk => XS.aload X101.here hx rfl (hb hby at_530) rfl rfl kk) ?_
              show OGo p e below (T101.setTop (mkF m 532 #[.val (.int p1), .val (.int p2), .val (.int p3), .val (.int p4), .val (.int (p1 &&& (3 : Int32))), .val (.int mm), .val (.ref x), .val (.int (Int32.ofNat (own_lit (p1 &&& (3 : Int32))).length)), .val (.int (Int32.ofNat i0)), .val (.int ch), .val (.int N), .val (.ref b), .val (.ref x2), .val .null, .unset] [(.ref x2)])) _
              have fx131 := SV.ext xt98
              have fx132 := AV.ext xt98
              have fx133 := EV.ext xt98
              have fx134 := Ft0.ext xt98
              have fx135 := O0.ext xt98
              have fx136 := Ft1.ext xt98
              have fx137 := O1.ext xt98
              have fx138 := Ft2.ext xt98
              have fx139 := O2.ext xt98
              have fx140 := Ft3.ext xt98
              have fx141 := O3.ext xt98
              have fx142 := SE.ext xt98
              have fx143 := EO.ext xt98
              have fx144 := FO.ext xt98
              refine own_callS X101 hx hZ (y := (⟨"com/example/tenantd/tenantd/RoleType", "ofText", "(Ljava/lang/String;)Ljava/util/Optional;"⟩ : MethodName)) hown (hw _ (List.mem_of_getElem? (i := 73) rfl)) (hw _ (List.mem_of_getElem? (i := 74) rfl)) (hw _ (List.mem_of_getElem? (i := 75) rfl)) (hw _ (List.mem_of_getElem? (i := 76) rfl)) (by decide) (W := 0) (own_ofS l Z a0 hw [] va vc r0 r1 r2 r3 t0 t1 t2 t3 eo zc x2 _ T61.heap n0 sz61 fx99 hzc fx131 fx132 fx133 FV VS V0 fx134 fx135 V1 fx136 fx137 V2 fx138 fx139 V3 fx140 fx141 fx142 fx143 fx144 O61) e101  (pc := 532) (Ls := #[.val (.int p1), .val (.int p2), .val (.int p3), .val (.int p4), .val (.int (p1 &&& (3 : Int32))), .val (.int mm), .val (.ref x), .val (.int (Int32.ofNat (own_lit (p1 &&& (3 : Int32))).length)), .val (.int (Int32.ofNat i0)), .val (.int ch), .val (.int N), .val (.ref b), .val (.ref x2), .val .null, .unset]) (argsL := [(.ref x2)]) (rest := []) (by rw [hml]; rfl) (lenOf own_pd9 rfl) rfl (hb hby at_532) (by decide) (by decide) (by decide) (by decide) ?_
              intro v145 T145 L145 X145 hQ145
              obtain ⟨ob, u145, rfl, N145, Xe145, Eb145, Gv145, hu145⟩ := hQ145
              show OGo p e below (T145.setTop (mkF m 535 #[.val (.int p1), .val (.int p2), .val (.int p3), .val (.int p4), .val (.int (p1 &&& (3 : Int32))), .val (.int mm), .val (.ref x), .val (.int (Int32.ofNat (own_lit (p1 &&& (3 : Int32))).length)), .val (.int (Int32.ofNat i0)), .val (.int ch), .val (.int N), .val (.ref b), .val (.ref x2), .val .null, .unset] [(.ref ob)])) _
              have Nc145 := Fr.app Nc101 N145
              have sz145 : n0 ≤ T145.heap.size := Nat.le_trans sz61 Xe145.1
              have sf146 := Safe.ext Xe145 OW61.chv sf62
              have OW147 := OW61.ext Xe145
              have hu : u145 = .null := hu145.trans (own_no (p1 &&& (3 : Int32)) hi0 g0 (fun _ => gc) r0 r1 r2 r3)
              rw [hu] at Gv145
              refine OGo.step (fun _ kk => XS.aconstNull X145.here hx rfl (hb hby at_535) kk) ?_
              show OGo p e below (T145.setTop (mkF m 536 #[.val (.int p1), .val (.int p2), .val (.int p3), .val (.int p4), .val (.int (p1 &&& (3 : Int32))), .val (.int mm), .val (.ref x), .val (.int (Int32.ofNat (own_lit (p1 &&& (3 : Int32))).length)), .val (.int (Int32.ofNat i0)), .val (.int ch), .val (.int N), .val (.ref b), .val (.ref x2), .val .null, .unset] [.null, (.ref ob)])) _
              refine own_virtual X145 hx hZ (y := (⟨"java/util/Optional", "orElse", "(Ljava/lang/Object;)Ljava/lang/Object;"⟩ : MethodName)) (z := (⟨"java/util/Optional", "orElse", "(Ljava/lang/Object;)Ljava/lang/Object;"⟩ : MethodName)) hown (hw _ (List.mem_of_getElem? (i := 112) rfl)) (hw _ (List.mem_of_getElem? (i := 113) rfl)) (notFace_of_selects (args := #[]) (mvT hZ (hw _ (List.mem_of_getElem? (i := 115) rfl)))) (hw _ (List.mem_of_getElem? (i := 115) rfl)) (hw _ (List.mem_of_getElem? (i := 114) rfl)) (by decide) (hw _ (List.mem_of_getElem? (i := 116) rfl)) (hw _ (List.mem_of_getElem? (i := 109) rfl)) (b := ob) Eb145 (W := 0) (own_orElseN l Z a0 hw [] ob T145.heap n0 sz145 Gv145) rfl  (pc := 536) (Ls := #[.val (.int p1), .val (.int p2), .val (.int p3), .val (.int p4), .val (.int (p1 &&& (3 : Int32))), .val (.int mm), .val (.ref x), .val (.int (Int32.ofNat (own_lit (p1 &&& (3 : Int32))).length)), .val (.int (Int32.ofNat i0)), .val (.int ch), .val (.int N), .val (.ref b), .val (.ref x2), .val .null, .unset]) (argsL := [.null]) (rest := []) (by rw [hml]; rfl) (lenOf own_pd10 rfl) rfl (hb hby at_536) (by decide) (by decide) (by decide) (by decide) ?_
              intro v148 T148 L148 X148 hQ148
              obtain ⟨rfl, N148, e148⟩ := hQ148
              show OGo p e below (T148.setTop (mkF m 539 #[.val (.int p1), .val (.int p2), .val (.int p3), .val (.int p4), .val (.int (p1 &&& (3 : Int32))), .val (.int mm), .val (.ref x), .val (.int (Int32.ofNat (own_lit (p1 &&& (3 : Int32))).length)), .val (.int (Int32.ofNat i0)), .val (.int ch), .val (.int N), .val (.ref b), .val (.ref x2), .val .null, .unset] [.null])) _
              have Nc148 := Fr.app Nc145 N148
              refine OGo.step (fun _ kk => X148.checkcastNull hx (g := (mkF m 539 #[.val (.int p1), .val (.int p2), .val (.int p3), .val (.int p4), .val (.int (p1 &&& (3 : Int32))), .val (.int mm), .val (.ref x), .val (.int (Int32.ofNat (own_lit (p1 &&& (3 : Int32))).length)), .val (.int (Int32.ofNat i0)), .val (.int ch), .val (.int N), .val (.ref b), .val (.ref x2), .val .null, .unset] [.null])) rfl rfl (hb hby at_539) _ kk) ?_
              show OGo p e below (T148.setTop (mkF m 542 #[.val (.int p1), .val (.int p2), .val (.int p3), .val (.int p4), .val (.int (p1 &&& (3 : Int32))), .val (.int mm), .val (.ref x), .val (.int (Int32.ofNat (own_lit (p1 &&& (3 : Int32))).length)), .val (.int (Int32.ofNat i0)), .val (.int ch), .val (.int N), .val (.ref b), .val (.ref x2), .val .null, .unset] [.null])) _
              refine OGo.step (fun _ kk => XS.astore X148.here hx rfl (hb hby at_542) rfl rfl (l' := #[.val (.int p1), .val (.int p2), .val (.int p3), .val (.int p4), .val (.int (p1 &&& (3 : Int32))), .val (.int mm), .val (.ref x), .val (.int (Int32.ofNat (own_lit (p1 &&& (3 : Int32))).length)), .val (.int (Int32.ofNat i0)), .val (.int ch), .val (.int N), .val (.ref b), .val (.ref x2), .val .null, .val .null]) rfl kk) ?_
              show OGo p e below (T148.setTop (mkF m 544 #[.val (.int p1), .val (.int p2), .val (.int p3), .val (.int p4), .val (.int (p1 &&& (3 : Int32))), .val (.int mm), .val (.ref x), .val (.int (Int32.ofNat (own_lit (p1 &&& (3 : Int32))).length)), .val (.int (Int32.ofNat i0)), .val (.int ch), .val (.int N), .val (.ref b), .val (.ref x2), .val .null, .val .null] [])) _
              refine OGo.step (fun _ kk => XS.aload X148.here hx rfl (hb hby at_544) rfl rfl kk) ?_
              show OGo p e below (T148.setTop (mkF m 546 #[.val (.int p1), .val (.int p2), .val (.int p3), .val (.int p4), .val (.int (p1 &&& (3 : Int32))), .val (.int mm), .val (.ref x), .val (.int (Int32.ofNat (own_lit (p1 &&& (3 : Int32))).length)), .val (.int (Int32.ofNat i0)), .val (.int ch), .val (.int N), .val (.ref b), .val (.ref x2), .val .null, .val .null] [.null])) _
              refine OGo.step (fun _ kk => XS.aload X148.here hx rfl (hb hby at_546) rfl rfl kk) ?_
              show OGo p e below (T148.setTop (mkF m 548 #[.val (.int p1), .val (.int p2), .val (.int p3), .val (.int p4), .val (.int (p1 &&& (3 : Int32))), .val (.int mm), .val (.ref x), .val (.int (Int32.ofNat (own_lit (p1 &&& (3 : Int32))).length)), .val (.int (Int32.ofNat i0)), .val (.int ch), .val (.int N), .val (.ref b), .val (.ref x2), .val .null, .val .null] [.null, .null])) _
              refine OGo.step (fun _ kk => Jvm.RoadKit.acmp (g := (mkF m 548 #[.val (.int p1), .val (.int p2), .val (.int p3), .val (.int p4), .val (.int (p1 &&& (3 : Int32))), .val (.int mm), .val (.ref x), .val (.int (Int32.ofNat (own_lit (p1 &&& (3 : Int32))).length)), .val (.int (Int32.ofNat i0)), .val (.int ch), .val (.int N), .val (.ref b), .val (.ref x2), .val .null, .val .null] [.null, .null])) X148 hx rfl rfl rfl (pc0 := 548) (pc' := 551) (same := true) rfl (hb hby at_548) rfl (decide_eq_true rfl) (by decide) (by decide) kk) ?_
              show OGo p e below (T148.setTop (mkF m 551 #[.val (.int p1), .val (.int p2), .val (.int p3), .val (.int p4), .val (.int (p1 &&& (3 : Int32))), .val (.int mm), .val (.ref x), .val (.int (Int32.ofNat (own_lit (p1 &&& (3 : Int32))).length)), .val (.int (Int32.ofNat i0)), .val (.int ch), .val (.int N), .val (.ref b), .val (.ref x2), .val .null, .val .null] [])) _
              refine OGo.step (fun _ kk => XS.iconst X148.here hx rfl (hb hby at_551) kk) ?_
              show OGo p e below (T148.setTop (mkF m 552 #[.val (.int p1), .val (.int p2), .val (.int p3), .val (.int p4), .val (.int (p1 &&& (3 : Int32))), .val (.int mm), .val (.ref x), .val (.int (Int32.ofNat (own_lit (p1 &&& (3 : Int32))).length)), .val (.int (Int32.ofNat i0)), .val (.int ch), .val (.int N), .val (.ref b), .val (.ref x2), .val .null, .val .null] [(.int (1 : Int32))])) _
              refine OGo.step (fun _ kk => XS.goto X148.here hx rfl (pc0 := 552) (pc' := 556) rfl (hb hby at_552) (by decide) (by decide) kk) ?_
              show OGo p e below (T148.setTop (mkF m 556 #[.val (.int p1), .val (.int p2), .val (.int p3), .val (.int p4), .val (.int (p1 &&& (3 : Int32))), .val (.int mm), .val (.ref x), .val (.int (Int32.ofNat (own_lit (p1 &&& (3 : Int32))).length)), .val (.int (Int32.ofNat i0)), .val (.int ch), .val (.int N), .val (.ref b), .val (.ref x2), .val .null, .val .null] [(.int (1 : Int32))])) _
              exact own_retNW X148 hx hlk hEL OW147 e148 hret (by simp) (hb hby at_556) ⟨by rw [own_nar1], Nc148⟩ (by decide) (by decide)
          · refine OGo.step (fun _ kk => XS.icmpYes X61.here hx rfl (pc0 := 502) (pc' := 527) rfl (hb hby at_502) rfl (feq g1).2 (by decide) (by decide) kk) ?_
            show OGo p e below (T61.setTop (mkF m 527 #[.val (.int p1), .val (.int p2), .val (.int p3), .val (.int p4), .val (.int (p1 &&& (3 : Int32))), .val (.int mm), .val (.ref x), .val (.int (Int32.ofNat (own_lit (p1 &&& (3 : Int32))).length)), .val (.int (Int32.ofNat i0)), .val (.int ch), .val (.int N), .val (.ref b), .val (.ref x2), .unset, .unset] [])) _
            refine OGo.step (fun _ kk => XS.aconstNull X61.here hx rfl (hb hby at_527) kk) ?_
            show OGo p e below (T61.setTop (mkF m 528 #[.val (.int p1), .val (.int p2), .val (.int p3), .val (.int p4), .val (.int (p1 &&& (3 : Int32))), .val (.int mm), .val (.ref x), .val (.int (Int32.ofNat (own_lit (p1 &&& (3 : Int32))).length)), .val (.int (Int32.ofNat i0)), .val (.int ch), .val (.int N), .val (.ref b), .val (.ref x2), .unset, .unset] [.null])) _
            refine OGo.step (fun _ kk => XS.astore X61.here hx rfl (hb hby at_528) rfl rfl (l' := #[.val (.int p1), .val (.int p2), .val (.int p3), .val (.int p4), .val (.int (p1 &&& (3 : Int32))), .val (.int mm), .val (.ref x), .val (.int (Int32.ofNat (own_lit (p1 &&& (3 : Int32))).length)), .val (.int (Int32.ofNat i0)), .val (.int ch), .val (.int N), .val (.ref b), .val (.ref x2), .val .null, .unset]) rfl kk) ?_
            show OGo p e below (T61.setTop (mkF m 530 #[.val (.int p1), .val (.int p2), .val (.int p3), .val (.int p4), .val (.int (p1 &&& (3 : Int32))), .val (.int mm), .val (.ref x), .val (.int (Int32.ofNat (own_lit (p1 &&& (3 : Int32))).length)), .val (.int (Int32.ofNat i0)), .val (.int ch), .val (.int N), .val (.ref b), .val (.ref x2), .val .null, .unset] [])) _
            refine OGo.step (fun _ kk => XS.aload X61.here hx rfl (hb hby at_530) rfl rfl kk) ?_
            show OGo p e below (T61.setTop (mkF m 532 #[.val (.int p1), .val (.int p2), .val (.int p3), .val (.int p4), .val (.int (p1 &&& (3 : Int32))), .val (.int mm), .val (.ref x), .val (.int (Int32.ofNat (own_lit (p1 &&& (3 : Int32))).length)), .val (.int (Int32.ofNat i0)), .val (.int ch), .val (.int N), .val (.ref b), .val (.ref x2), .val .null, .unset] [(.ref x2)])) _
            have xt149 := (own_ext_keep xt59 K61 (allS (Nat.le_trans xt58.1 (Nat.le_of_eq g53.symm)) all0))
            have fx150 := SV.ext xt149
            have fx151 := AV.ext xt149
            have fx152 := EV.ext xt149
            have fx153 := Ft0.ext xt149
            have fx154 := O0.ext xt149
            have fx155 := Ft1.ext xt149
            have fx156 := O1.ext xt149
            have fx157 := Ft2.ext xt149
            have fx158 := O2.ext xt149
            have fx159 := Ft3.ext xt149
            have fx160 := O3.ext xt149
            have fx161 := SE.ext xt149
            have fx162 := EO.ext xt149
            have fx163 := FO.ext xt149
            have fx164 := SC.ext xt149
            refine own_callS X61 hx hZ (y := (⟨"com/example/tenantd/tenantd/RoleType", "ofText", "(Ljava/lang/String;)Ljava/util/Optional;"⟩ : MethodName)) hown (hw _ (List.mem_of_getElem? (i := 73) rfl)) (hw _ (List.mem_of_getElem? (i := 74) rfl)) (hw _ (List.mem_of_getElem? (i := 75) rfl)) (hw _ (List.mem_of_getElem? (i := 76) rfl)) (by decide) (W := 0) (own_ofS l Z a0 hw [] va vc r0 r1 r2 r3 t0 t1 t2 t3 eo zc x2 _ T61.heap n0 sz61 fx164 hzc fx150 fx151 fx152 FV VS V0 fx153 fx154 V1 fx155 fx156 V2 fx157 fx158 V3 fx159 fx160 fx161 fx162 fx163 O61) rfl  (pc := 532) (Ls := #[.val (.int p1), .val (.int p2), .val (.int p3), .val (.int p4), .val (.int (p1 &&& (3 : Int32))), .val (.int mm), .val (.ref x), .val (.int (Int32.ofNat (own_lit (p1 &&& (3 : Int32))).length)), .val (.int (Int32.ofNat i0)), .val (.int ch), .val (.int N), .val (.ref b), .val (.ref x2), .val .null, .unset]) (argsL := [(.ref x2)]) (rest := []) (by rw [hml]; rfl) (lenOf own_pd9 rfl) rfl (hb hby at_532) (by decide) (by decide) (by decide) (by decide) ?_
            intro v165 T165 L165 X165 hQ165
            obtain ⟨ob, u165, rfl, N165, Xe165, Eb165, Gv165, hu165⟩ := hQ165
            show OGo p e below (T165.setTop (mkF m 535 #[.val (.int p1), .val (.int p2), .val (.int p3), .val (.int p4), .val (.int (p1 &&& (3 : Int32))), .val (.int mm), .val (.ref x), .val (.int (Int32.ofNat (own_lit (p1 &&& (3 : Int32))).length)), .val (.int (Int32.ofNat i0)), .val (.int ch), .val (.int N), .val (.ref b), .val (.ref x2), .val .null, .unset] [(.ref ob)])) _
            have Nc165 := Fr.app Nc61 N165
            have sz165 : n0 ≤ T165.heap.size := Nat.le_trans sz61 Xe165.1
            have sf166 := Safe.ext Xe165 OW61.chv sf62
            have OW167 := OW61.ext Xe165
            have hu : u165 = .null := hu165.trans (own_no (p1 &&& (3 : Int32)) hi0 g0 (fun z => absurd z g1) r0 r1 r2 r3)
            rw [hu] at Gv165
            refine OGo.step (fun _ kk => XS.aconstNull X165.here hx rfl (hb hby at_535) kk) ?_
            show OGo p e below (T165.setTop (mkF m 536 #[.val (.int p1), .val (.int p2), .val (.int p3), .val (.int p4), .val (.int (p1 &&& (3 : Int32))), .val (.int mm), .val (.ref x), .val (.int (Int32.ofNat (own_lit (p1 &&& (3 : Int32))).length)), .val (.int (Int32.ofNat i0)), .val (.int ch), .val (.int N), .val (.ref b), .val (.ref x2), .val .null, .unset] [.null, (.ref ob)])) _
            refine own_virtual X165 hx hZ (y := (⟨"java/util/Optional", "orElse", "(Ljava/lang/Object;)Ljava/lang/Object;"⟩ : MethodName)) (z := (⟨"java/util/Optional", "orElse", "(Ljava/lang/Object;)Ljava/lang/Object;"⟩ : MethodName)) hown (hw _ (List.mem_of_getElem? (i := 112) rfl)) (hw _ (List.mem_of_getElem? (i := 113) rfl)) (notFace_of_selects (args := #[]) (mvT hZ (hw _ (List.mem_of_getElem? (i := 115) rfl)))) (hw _ (List.mem_of_getElem? (i := 115) rfl)) (hw _ (List.mem_of_getElem? (i := 114) rfl)) (by decide) (hw _ (List.mem_of_getElem? (i := 116) rfl)) (hw _ (List.mem_of_getElem? (i := 109) rfl)) (b := ob) Eb165 (W := 0) (own_orElseN l Z a0 hw [] ob T165.heap n0 sz165 Gv165) rfl  (pc := 536) (Ls := #[.val (.int p1), .val (.int p2), .val (.int p3), .val (.int p4), .val (.int (p1 &&& (3 : Int32))), .val (.int mm), .val (.ref x), .val (.int (Int32.ofNat (own_lit (p1 &&& (3 : Int32))).length)), .val (.int (Int32.ofNat i0)), .val (.int ch), .val (.int N), .val (.ref b), .val (.ref x2), .val .null, .unset]) (argsL := [.null]) (rest := []) (by rw [hml]; rfl) (lenOf own_pd10 rfl) rfl (hb hby at_536) (by decide) (by decide) (by decide) (by decide) ?_
            intro v168 T168 L168 X168 hQ168
            obtain ⟨rfl, N168, e168⟩ := hQ168
            show OGo p e below (T168.setTop (mkF m 539 #[.val (.int p1), .val (.int p2), .val (.int p3), .val (.int p4), .val (.int (p1 &&& (3 : Int32))), .val (.int mm), .val (.ref x), .val (.int (Int32.ofNat (own_lit (p1 &&& (3 : Int32))).length)), .val (.int (Int32.ofNat i0)), .val (.int ch), .val (.int N), .val (.ref b), .val (.ref x2), .val .null, .unset] [.null])) _
            have Nc168 := Fr.app Nc165 N168
            refine OGo.step (fun _ kk => X168.checkcastNull hx (g := (mkF m 539 #[.val (.int p1), .val (.int p2), .val (.int p3), .val (.int p4), .val (.int (p1 &&& (3 : Int32))), .val (.int mm), .val (.ref x), .val (.int (Int32.ofNat (own_lit (p1 &&& (3 : Int32))).length)), .val (.int (Int32.ofNat i0)), .val (.int ch), .val (.int N), .val (.ref b), .val (.ref x2), .val .null, .unset] [.null])) rfl rfl (hb hby at_539) _ kk) ?_
            show OGo p e below (T168.setTop (mkF m 542 #[.val (.int p1), .val (.int p2), .val (.int p3), .val (.int p4), .val (.int (p1 &&& (3 : Int32))), .val (.int mm), .val (.ref x), .val (.int (Int32.ofNat (own_lit (p1 &&& (3 : Int32))).length)), .val (.int (Int32.ofNat i0)), .val (.int ch), .val (.int N), .val (.ref b), .val (.ref x2), .val .null, .unset] [.null])) _
            refine OGo.step (fun _ kk => XS.astore X168.here hx rfl (hb hby at_542) rfl rfl (l' := #[.val (.int p1), .val (.int p2), .val (.int p3), .val (.int p4), .val (.int (p1 &&& (3 : Int32))), .val (.int mm), .val (.ref x), .val (.int (Int32.ofNat (own_lit (p1 &&& (3 : Int32))).length)), .val (.int (Int32.ofNat i0)), .val (.int ch), .val (.int N), .val (.ref b), .val (.ref x2), .val .null, .val .null]) rfl kk) ?_
            show OGo p e below (T168.setTop (mkF m 544 #[.val (.int p1), .val (.int p2), .val (.int p3), .val (.int p4), .val (.int (p1 &&& (3 : Int32))), .val (.int mm), .val (.ref x), .val (.int (Int32.ofNat (own_lit (p1 &&& (3 : Int32))).length)), .val (.int (Int32.ofNat i0)), .val (.int ch), .val (.int N), .val (.ref b), .val (.ref x2), .val .null, .val .null] [])) _
            refine OGo.step (fun _ kk => XS.aload X168.here hx rfl (hb hby at_544) rfl rfl kk) ?_
            show OGo p e below (T168.setTop (mkF m 546 #[.val (.int p1), .val (.int p2), .val (.int p3), .val (.int p4), .val (.int (p1 &&& (3 : Int32))), .val (.int mm), .val (.ref x), .val (.int (Int32.ofNat (own_lit (p1 &&& (3 : Int32))).length)), .val (.int (Int32.ofNat i0)), .val (.int ch), .val (.int N), .val (.ref b), .val (.ref x2), .val .null, .val .null] [.null])) _
            refine OGo.step (fun _ kk => XS.aload X168.here hx rfl (hb hby at_546) rfl rfl kk) ?_
            show OGo p e below (T168.setTop (mkF m 548 #[.val (.int p1), .val (.int p2), .val (.int p3), .val (.int p4), .val (.int (p1 &&& (3 : Int32))), .val (.int mm), .val (.ref x), .val (.int (Int32.ofNat (own_lit (p1 &&& (3 : Int32))).length)), .val (.int (Int32.ofNat i0)), .val (.int ch), .val (.int N), .val (.ref b), .val (.ref x2), .val .null, .val .null] [.null, .null])) _
            refine OGo.step (fun _ kk => Jvm.RoadKit.acmp (g := (mkF m 548 #[.val (.int p1), .val (.int p2), .val (.int p3), .val (.int p4), .val (.int (p1 &&& (3 : Int32))), .val (.int mm), .val (.ref x), .val (.int (Int32.ofNat (own_lit (p1 &&& (3 : Int32))).length)), .val (.int (Int32.ofNat i0)), .val (.int ch), .val (.int N), .val (.ref b), .val (.ref x2), .val .null, .val .null] [.null, .null])) X168 hx rfl rfl rfl (pc0 := 548) (pc' := 551) (same := true) rfl (hb hby at_548) rfl (decide_eq_true rfl) (by decide) (by decide) kk) ?_
            show OGo p e below (T168.setTop (mkF m 551 #[.val (.int p1), .val (.int p2), .val (.int p3), .val (.int p4), .val (.int (p1 &&& (3 : Int32))), .val (.int mm), .val (.ref x), .val (.int (Int32.ofNat (own_lit (p1 &&& (3 : Int32))).length)), .val (.int (Int32.ofNat i0)), .val (.int ch), .val (.int N), .val (.ref b), .val (.ref x2), .val .null, .val .null] [])) _
            refine OGo.step (fun _ kk => XS.iconst X168.here hx rfl (hb hby at_551) kk) ?_
            show OGo p e below (T168.setTop (mkF m 552 #[.val (.int p1), .val (.int p2), .val (.int p3), .val (.int p4), .val (.int (p1 &&& (3 : Int32))), .val (.int mm), .val (.ref x), .val (.int (Int32.ofNat (own_lit (p1 &&& (3 : Int32))).length)), .val (.int (Int32.ofNat i0)), .val (.int ch), .val (.int N), .val (.ref b), .val (.ref x2), .val .null, .val .null] [(.int (1 : Int32))])) _
            refine OGo.step (fun _ kk => XS.goto X168.here hx rfl (pc0 := 552) (pc' := 556) rfl (hb hby at_552) (by decide) (by decide) kk) ?_
            show OGo p e below (T168.setTop (mkF m 556 #[.val (.int p1), .val (.int p2), .val (.int p3), .val (.int p4), .val (.int (p1 &&& (3 : Int32))), .val (.int mm), .val (.ref x), .val (.int (Int32.ofNat (own_lit (p1 &&& (3 : Int32))).length)), .val (.int (Int32.ofNat i0)), .val (.int ch), .val (.int N), .val (.ref b), .val (.ref x2), .val .null, .val .null] [(.int (1 : Int32))])) _
            exact own_retNW X168 hx hlk hEL OW167 e168 hret (by simp) (hb hby at_556) ⟨by rw [own_nar1], Nc168⟩ (by decide) (by decide)
      · refine own_specialK X53 hx hZ (y := (⟨"java/lang/String", "<init>", "([C)V"⟩ : MethodName)) rfl hown (hw _ (List.mem_of_getElem? (i := 53) rfl)) (hw _ (List.mem_of_getElem? (i := 54) rfl)) (hw _ (List.mem_of_getElem? (i := 55) rfl)) (by decide) (a := x2) (W := 1) (own_backV14 (W := 1) hZ (fun d hd => hw d ((by decide +kernel : ∀ d ∈ StrChars.Road.words, d ∈ tables_1) d hd)) (kI := 4) (hw _ (List.mem_of_getElem? (i := 6) rfl)) gf_x2 sz53 A53 F53_value F53_coder fc56 fx60 hzc hN (List.length_pos_iff.mpr hz) hT.1 hT.2 (by decide) (by decide)) e53 (pc := 489) (Ls := #[.val (.int p1), .val (.int p2), .val (.int p3), .val (.int p4), .val (.int (p1 &&& (3 : Int32))), .val (.int mm), .val (.ref x), .val (.int (Int32.ofNat (own_lit (p1 &&& (3 : Int32))).length)), .val (.int (Int32.ofNat i0)), .val (.int ch), .val (.int N), .val (.ref b), .unset, .unset, .unset]) (argsL := [(.ref b)]) (rest := [(.ref x2)]) (by rw [hml]; rfl) (lenOf own_pd7 rfl) rfl (hb hby at_489) (by decide) (by decide) ?_
        intro v169 T169 L169 X169 hQ169
        obtain ⟨rfl, N169, K169, O169⟩ := hQ169
        show OGo p e below (T169.setTop (mkF m 492 #[.val (.int p1), .val (.int p2), .val (.int p3), .val (.int p4), .val (.int (p1 &&& (3 : Int32))), .val (.int mm), .val (.ref x), .val (.int (Int32.ofNat (own_lit (p1 &&& (3 : Int32))).length)), .val (.int (Int32.ofNat i0)), .val (.int ch), .val (.int N), .val (.ref b), .unset, .unset, .unset] [(.ref x2)])) _
        have Nc169 := Fr.app NT N169
        have sz169 : n0 ≤ T169.heap.size := Nat.le_trans sz53 K169.1
        have sf170 := Safe.keep K169 (sfS sf55 sf0) OW54.chv sf55
        have OW171 := OW54.keep K169 (sfS sf55 sf0)
        refine OGo.step (fun _ kk => XS.astore X169.here hx rfl (hb hby at_492) rfl rfl (l' := #[.val (.int p1), .val (.int p2), .val (.int p3), .val (.int p4), .val (.int (p1 &&& (3 : Int32))), .val (.int mm), .val (.ref x), .val (.int (Int32.ofNat (own_lit (p1 &&& (3 : Int32))).length)), .val (.int (Int32.ofNat i0)), .val (.int ch), .val (.int N), .val (.ref b), .val (.ref x2), .unset, .unset]) rfl kk) ?_
        show OGo p e below (T169.setTop (mkF m 494 #[.val (.int p1), .val (.int p2), .val (.int p3), .val (.int p4), .val (.int (p1 &&& (3 : Int32))), .val (.int mm), .val (.ref x), .val (.int (Int32.ofNat (own_lit (p1 &&& (3 : Int32))).length)), .val (.int (Int32.ofNat i0)), .val (.int ch), .val (.int N), .val (.ref b), .val (.ref x2), .unset, .unset] [])) _
        refine OGo.step (fun _ kk => XS.iload X169.here hx rfl (hb hby at_494) rfl kk) ?_
        show OGo p e below (T169.setTop (mkF m 496 #[.val (.int p1), .val (.int p2), .val (.int p3), .val (.int p4), .val (.int (p1 &&& (3 : Int32))), .val (.int mm), .val (.ref x), .val (.int (Int32.ofNat (own_lit (p1 &&& (3 : Int32))).length)), .val (.int (Int32.ofNat i0)), .val (.int ch), .val (.int N), .val (.ref b), .val (.ref x2), .unset, .unset] [(.int mm)])) _
        by_cases g0 : mm = (0 : Int32)
        · refine OGo.step (fun _ kk => XS.ifYes X169.here hx rfl (pc0 := 496) (pc' := 517) rfl (hb hby at_496) rfl ((if0 _ _).trans (teq g0).1) (by decide) (by decide) kk) ?_
          show OGo p e below (T169.setTop (mkF m 517 #[.val (.int p1), .val (.int p2), .val (.int p3), .val (.int p4), .val (.int (p1 &&& (3 : Int32))), .val (.int mm), .val (.ref x), .val (.int (Int32.ofNat (own_lit (p1 &&& (3 : Int32))).length)), .val (.int (Int32.ofNat i0)), .val (.int ch), .val (.int N), .val (.ref b), .val (.ref x2), .unset, .unset] [])) _
          refine OGo.step (fun _ kk => XS.iload X169.here hx rfl (hb hby at_517) rfl kk) ?_
          show OGo p e below (T169.setTop (mkF m 519 #[.val (.int p1), .val (.int p2), .val (.int p3), .val (.int p4), .val (.int (p1 &&& (3 : Int32))), .val (.int mm), .val (.ref x), .val (.int (Int32.ofNat (own_lit (p1 &&& (3 : Int32))).length)), .val (.int (Int32.ofNat i0)), .val (.int ch), .val (.int N), .val (.ref b), .val (.ref x2), .unset, .unset] [(.int (p1 &&& (3 : Int32)))])) _
          have xt172 := (own_ext_keep xt59 K169 (allS (Nat.le_trans xt58.1 (Nat.le_of_eq g53.symm)) all0))
          have fx173 := S0.ext xt172
          have fx174 := S1.ext xt172
          have fx175 := S2.ext xt172
          have fx176 := S3.ext xt172
          refine own_callS X169 hx hZ (y := (⟨"com/example/tenantd/tenantd/RoleTypeOfTextPinLaw", "type", "(I)Lcom/example/tenantd/tenantd/RoleType;"⟩ : MethodName)) hown (hw _ (List.mem_of_getElem? (i := 123) rfl)) (hw _ (List.mem_of_getElem? (i := 124) rfl)) (hw _ (List.mem_of_getElem? (i := 2) rfl)) (hw _ (List.mem_of_getElem? (i := 125) rfl)) (by decide) (W := 0) (own_type l Z a0 hw [] (p1 &&& (3 : Int32)) r0 r1 r2 r3 T169.heap n0 sz169 fx173 fx174 fx175 fx176) rfl  (pc := 519) (Ls := #[.val (.int p1), .val (.int p2), .val (.int p3), .val (.int p4), .val (.int (p1 &&& (3 : Int32))), .val (.int mm), .val (.ref x), .val (.int (Int32.ofNat (own_lit (p1 &&& (3 : Int32))).length)), .val (.int (Int32.ofNat i0)), .val (.int ch), .val (.int N), .val (.ref b), .val (.ref x2), .unset, .unset]) (argsL := [(.int (p1 &&& (3 : Int32)))]) (rest := []) (by rw [hml]; rfl) (lenOf own_pd8 rfl) rfl (hb hby at_519) (by decide) (by decide) (by decide) (by decide) ?_
          intro v177 T177 L177 X177 hQ177
          obtain ⟨rfl, N177, e177⟩ := hQ177
          show OGo p e below (T177.setTop (mkF m 522 #[.val (.int p1), .val (.int p2), .val (.int p3), .val (.int p4), .val (.int (p1 &&& (3 : Int32))), .val (.int mm), .val (.ref x), .val (.int (Int32.ofNat (own_lit (p1 &&& (3 : Int32))).length)), .val (.int (Int32.ofNat i0)), .val (.int ch), .val (.int N), .val (.ref b), .val (.ref x2), .unset, .unset] [(.ref (own_ty (p1 &&& (3 : Int32)) r0 r1 r2 r3))])) _
          have Nc177 := Fr.app Nc169 N177
          refine OGo.step (fun _ kk => XS.astore X177.here hx rfl (hb hby at_522) rfl rfl (l' := #[.val (.int p1), .val (.int p2), .val (.int p3), .val (.int p4), .val (.int (p1 &&& (3 : Int32))), .val (.int mm), .val (.ref x), .val (.int (Int32.ofNat (own_lit (p1 &&& (3 : Int32))).length)), .val (.int (Int32.ofNat i0)), .val (.int ch), .val (.int N), .val (.ref b), .val (.ref x2), .val (.ref (own_ty (p1 &&& (3 : Int32)) r0 r1 r2 r3)), .unset]) rfl kk) ?_
          show OGo p e below (T177.setTop (mkF m 524 #[.val (.int p1), .val (.int p2), .val (.int p3), .val (.int p4), .val (.int (p1 &&& (3 : Int32))), .val (.int mm), .val (.ref x), .val (.int (Int32.ofNat (own_lit (p1 &&& (3 : Int32))).length)), .val (.int (Int32.ofNat i0)), .val (.int ch), .val (.int N), .val (.ref b), .val (.ref x2), .val (.ref (own_ty (p1 &&& (3 : Int32)) r0 r1 r2 r3)), .unset] [])) _
          refine OGo.step (fun _ kk => XS.goto X177.here hx rfl (pc0 := 524) (pc' := 530) rfl (hb hby at_524) (by decide) (by decide) kk) ?_
          show OGo p e below (T177.setTop (mkF m 530 #[.val (.int p1), .val (.int p2), .val (.int p3), .val (.int p4), .val (.int (p1 &&& (3 : Int32))), .val (.int mm), .val (.ref x), .val (.int (Int32.ofNat (own_lit (p1 &&& (3 : Int32))).length)), .val (.int (Int32.ofNat i0)), .val (.int ch), .val (.int N), .val (.ref b), .val (.ref x2), .val (.ref (own_ty (p1 &&& (3 : Int32)) r0 r1 r2 r3)), .unset] [])) _
          refine OGo.step (fun _ kk => XS.aload X177.here hx rfl (hb hby at_530) rfl rfl kk) ?_
          show OGo p e below (T177.setTop (mkF m 532 #[.val (.int p1), .val (.int p2), .val (.int p3), .val (.int p4), .val (.int (p1 &&& (3 : Int32))), .val (.int mm), .val (.ref x), .val (.int (Int32.ofNat (own_lit (p1 &&& (3 : Int32))).length)), .val (.int (Int32.ofNat i0)), .val (.int ch), .val (.int N), .val (.ref b), .val (.ref x2), .val (.ref (own_ty (p1 &&& (3 : Int32)) r0 r1 r2 r3)), .unset] [(.ref x2)])) _
          have fx178 := SV.ext xt172
          have fx179 := AV.ext xt172
          have fx180 := EV.ext xt172
          have fx181 := Ft0.ext xt172
          have fx182 := O0.ext xt172
          have fx183 := Ft1.ext xt172
          have fx184 := O1.ext xt172
          have fx185 := Ft2.ext xt172
          have fx186 := O2.ext xt172
          have fx187 := Ft3.ext xt172
          have fx188 := O3.ext xt172
          have fx189 := SE.ext xt172
          have fx190 := EO.ext xt172
          have fx191 := FO.ext xt172
          have fx192 := SC.ext xt172
          refine own_callS X177 hx hZ (y := (⟨"com/example/tenantd/tenantd/RoleType", "ofText", "(Ljava/lang/String;)Ljava/util/Optional;"⟩ : MethodName)) hown (hw _ (List.mem_of_getElem? (i := 73) rfl)) (hw _ (List.mem_of_getElem? (i := 74) rfl)) (hw _ (List.mem_of_getElem? (i := 75) rfl)) (hw _ (List.mem_of_getElem? (i := 76) rfl)) (by decide) (W := 0) (own_ofS l Z a0 hw [] va vc r0 r1 r2 r3 t0 t1 t2 t3 eo zc x2 _ T169.heap n0 sz169 fx192 hzc fx178 fx179 fx180 FV VS V0 fx181 fx182 V1 fx183 fx184 V2 fx185 fx186 V3 fx187 fx188 fx189 fx190 fx191 O169) e177  (pc := 532) (Ls := #[.val (.int p1), .val (.int p2), .val (.int p3), .val (.int p4), .val (.int (p1 &&& (3 : Int32))), .val (.int mm), .val (.ref x), .val (.int (Int32.ofNat (own_lit (p1 &&& (3 : Int32))).length)), .val (.int (Int32.ofNat i0)), .val (.int ch), .val (.int N), .val (.ref b), .val (.ref x2), .val (.ref (own_ty (p1 &&& (3 : Int32)) r0 r1 r2 r3)), .unset]) (argsL := [(.ref x2)]) (rest := []) (by rw [hml]; rfl) (lenOf own_pd9 rfl) rfl (hb hby at_532) (by decide) (by decide) (by decide) (by decide) ?_
          intro v193 T193 L193 X193 hQ193
          obtain ⟨ob, u193, rfl, N193, Xe193, Eb193, Gv193, hu193⟩ := hQ193
          show OGo p e below (T193.setTop (mkF m 535 #[.val (.int p1), .val (.int p2), .val (.int p3), .val (.int p4), .val (.int (p1 &&& (3 : Int32))), .val (.int mm), .val (.ref x), .val (.int (Int32.ofNat (own_lit (p1 &&& (3 : Int32))).length)), .val (.int (Int32.ofNat i0)), .val (.int ch), .val (.int N), .val (.ref b), .val (.ref x2), .val (.ref (own_ty (p1 &&& (3 : Int32)) r0 r1 r2 r3)), .unset] [(.ref ob)])) _
          have Nc193 := Fr.app Nc177 N193
          have sz193 : n0 ≤ T193.heap.size := Nat.le_trans sz169 Xe193.1
          have sf194 := Safe.ext Xe193 OW171.chv sf170
          have OW195 := OW171.ext Xe193
          have hu : u193 = (.ref (own_ty (p1 &&& (3 : Int32)) r0 r1 r2 r3)) := hu193.trans (own_yes (p1 &&& (3 : Int32)) hi0 (Or.inl g0) r0 r1 r2 r3)
          rw [hu] at Gv193
          refine OGo.step (fun _ kk => XS.aconstNull X193.here hx rfl (hb hby at_535) kk) ?_
          show OGo p e below (T193.setTop (mkF m 536 #[.val (.int p1), .val (.int p2), .val (.int p3), .val (.int p4), .val (.int (p1 &&& (3 : Int32))), .val (.int mm), .val (.ref x), .val (.int (Int32.ofNat (own_lit (p1 &&& (3 : Int32))).length)), .val (.int (Int32.ofNat i0)), .val (.int ch), .val (.int N), .val (.ref b), .val (.ref x2), .val (.ref (own_ty (p1 &&& (3 : Int32)) r0 r1 r2 r3)), .unset] [.null, (.ref ob)])) _
          refine own_virtual X193 hx hZ (y := (⟨"java/util/Optional", "orElse", "(Ljava/lang/Object;)Ljava/lang/Object;"⟩ : MethodName)) (z := (⟨"java/util/Optional", "orElse", "(Ljava/lang/Object;)Ljava/lang/Object;"⟩ : MethodName)) hown (hw _ (List.mem_of_getElem? (i := 112) rfl)) (hw _ (List.mem_of_getElem? (i := 113) rfl)) (notFace_of_selects (args := #[]) (mvT hZ (hw _ (List.mem_of_getElem? (i := 115) rfl)))) (hw _ (List.mem_of_getElem? (i := 115) rfl)) (hw _ (List.mem_of_getElem? (i := 114) rfl)) (by decide) (hw _ (List.mem_of_getElem? (i := 116) rfl)) (hw _ (List.mem_of_getElem? (i := 109) rfl)) (b := ob) Eb193 (W := 0) (own_orElseR l Z a0 hw [] ob (own_ty (p1 &&& (3 : Int32)) r0 r1 r2 r3) T193.heap n0 sz193 Gv193) rfl  (pc := 536) (Ls := #[.val (.int p1), .val (.int p2), .val (.int p3), .val (.int p4), .val (.int (p1 &&& (3 : Int32))), .val (.int mm), .val (.ref x), .val (.int (Int32.ofNat (own_lit (p1 &&& (3 : Int32))).length)), .val (.int (Int32.ofNat i0)), .val (.int ch), .val (.int N), .val (.ref b), .val (.ref x2), .val (.ref (own_ty (p1 &&& (3 : Int32)) r0 r1 r2 r3)), .unset]) (argsL := [.null]) (rest := []) (by rw [hml]; rfl) (lenOf own_pd10 rfl) rfl (hb hby at_536) (by decide) (by decide) (by decide) (by decide) ?_
          intro v196 T196 L196 X196 hQ196
          obtain ⟨rfl, N196, e196⟩ := hQ196
          show OGo p e below (T196.setTop (mkF m 539 #[.val (.int p1), .val (.int p2), .val (.int p3), .val (.int p4), .val (.int (p1 &&& (3 : Int32))), .val (.int mm), .val (.ref x), .val (.int (Int32.ofNat (own_lit (p1 &&& (3 : Int32))).length)), .val (.int (Int32.ofNat i0)), .val (.int ch), .val (.int N), .val (.ref b), .val (.ref x2), .val (.ref (own_ty (p1 &&& (3 : Int32)) r0 r1 r2 r3)), .unset] [(.ref (own_ty (p1 &&& (3 : Int32)) r0 r1 r2 r3))])) _
          have Nc196 := Fr.app Nc193 N196
          have xt197 := (own_ext_trans xt172 Xe193)
          have fx198 := E0_.ext xt197
          have fx199 := E1_.ext xt197
          have fx200 := E2_.ext xt197
          have fx201 := E3_.ext xt197
          obtain ⟨T202, X202, e202, st202⟩ := castY X196 hx hZ hown (hw _ (List.mem_of_getElem? (i := 141) rfl)) e196 (Ins.self (own_tye (p1 &&& (3 : Int32)) fx198 fx199 fx200 fx201)) (g := (mkF m 539 #[.val (.int p1), .val (.int p2), .val (.int p3), .val (.int p4), .val (.int (p1 &&& (3 : Int32))), .val (.int mm), .val (.ref x), .val (.int (Int32.ofNat (own_lit (p1 &&& (3 : Int32))).length)), .val (.int (Int32.ofNat i0)), .val (.int ch), .val (.int N), .val (.ref b), .val (.ref x2), .val (.ref (own_ty (p1 &&& (3 : Int32)) r0 r1 r2 r3)), .unset] [(.ref (own_ty (p1 &&& (3 : Int32)) r0 r1 r2 r3))])) rfl rfl (hb hby at_539)
          refine OGo.step st202 ?_
          show OGo p e below (T202.setTop (mkF m 542 #[.val (.int p1), .val (.int p2), .val (.int p3), .val (.int p4), .val (.int (p1 &&& (3 : Int32))), .val (.int mm), .val (.ref x), .val (.int (Int32.ofNat (own_lit (p1 &&& (3 : Int32))).length)), .val (.int (Int32.ofNat i0)), .val (.int ch), .val (.int N), .val (.ref b), .val (.ref x2), .val (.ref (own_ty (p1 &&& (3 : Int32)) r0 r1 r2 r3)), .unset] [(.ref (own_ty (p1 &&& (3 : Int32)) r0 r1 r2 r3))])) _
          refine OGo.step (fun _ kk => XS.astore X202.here hx rfl (hb hby at_542) rfl rfl (l' := #[.val (.int p1), .val (.int p2), .val (.int p3), .val (.int p4), .val (.int (p1 &&& (3 : Int32))), .val (.int mm), .val (.ref x), .val (.int (Int32.ofNat (own_lit (p1 &&& (3 : Int32))).length)), .val (.int (Int32.ofNat i0)), .val (.int ch), .val (.int N), .val (.ref b), .val (.ref x2), .val (.ref (own_ty (p1 &&& (3 : Int32)) r0 r1 r2 r3)), .val (.ref (own_ty (p1 &&& (3 : Int32)) r0 r1 r2 r3))]) rfl kk) ?_
          show OGo p e below (T202.setTop (mkF m 544 #[.val (.int p1), .val (.int p2), .val (.int p3), .val (.int p4), .val (.int (p1 &&& (3 : Int32))), .val (.int mm), .val (.ref x), .val (.int (Int32.ofNat (own_lit (p1 &&& (3 : Int32))).length)), .val (.int (Int32.ofNat i0)), .val (.int ch), .val (.int N), .val (.ref b), .val (.ref x2), .val (.ref (own_ty (p1 &&& (3 : Int32)) r0 r1 r2 r3)), .val (.ref (own_ty (p1 &&& (3 : Int32)) r0 r1 r2 r3))] [])) _
          refine OGo.step (fun _ kk => XS.aload X202.here hx rfl (hb hby at_544) rfl rfl kk) ?_
          show OGo p e below (T202.setTop (mkF m 546 #[.val (.int p1), .val (.int p2), .val (.int p3), .val (.int p4), .val (.int (p1 &&& (3 : Int32))), .val (.int mm), .val (.ref x), .val (.int (Int32.ofNat (own_lit (p1 &&& (3 : Int32))).length)), .val (.int (Int32.ofNat i0)), .val (.int ch), .val (.int N), .val (.ref b), .val (.ref x2), .val (.ref (own_ty (p1 &&& (3 : Int32)) r0 r1 r2 r3)), .val (.ref (own_ty (p1 &&& (3 : Int32)) r0 r1 r2 r3))] [(.ref (own_ty (p1 &&& (3 : Int32)) r0 r1 r2 r3))])) _
          refine OGo.step (fun _ kk => XS.aload X202.here hx rfl (hb hby at_546) rfl rfl kk) ?_
          show OGo p e below (T202.setTop (mkF m 548 #[.val (.int p1), .val (.int p2), .val (.int p3), .val (.int p4), .val (.int (p1 &&& (3 : Int32))), .val (.int mm), .val (.ref x), .val (.int (Int32.ofNat (own_lit (p1 &&& (3 : Int32))).length)), .val (.int (Int32.ofNat i0)), .val (.int ch), .val (.int N), .val (.ref b), .val (.ref x2), .val (.ref (own_ty (p1 &&& (3 : Int32)) r0 r1 r2 r3)), .val (.ref (own_ty (p1 &&& (3 : Int32)) r0 r1 r2 r3))] [(.ref (own_ty (p1 &&& (3 : Int32)) r0 r1 r2 r3)), (.ref (own_ty (p1 &&& (3 : Int32)) r0 r1 r2 r3))])) _
          refine OGo.step (fun _ kk => Jvm.RoadKit.acmp (g := (mkF m 548 #[.val (.int p1), .val (.int p2), .val (.int p3), .val (.int p4), .val (.int (p1 &&& (3 : Int32))), .val (.int mm), .val (.ref x), .val (.int (Int32.ofNat (own_lit (p1 &&& (3 : Int32))).length)), .val (.int (Int32.ofNat i0)), .val (.int ch), .val (.int N), .val (.ref b), .val (.ref x2), .val (.ref (own_ty (p1 &&& (3 : Int32)) r0 r1 r2 r3)), .val (.ref (own_ty (p1 &&& (3 : Int32)) r0 r1 r2 r3))] [(.ref (own_ty (p1 &&& (3 : Int32)) r0 r1 r2 r3)), (.ref (own_ty (p1 &&& (3 : Int32)) r0 r1 r2 r3))])) X202 hx rfl rfl rfl (pc0 := 548) (pc' := 551) (same := true) rfl (hb hby at_548) rfl (decide_eq_true rfl) (by decide) (by decide) kk) ?_
          show OGo p e below (T202.setTop (mkF m 551 #[.val (.int p1), .val (.int p2), .val (.int p3), .val (.int p4), .val (.int (p1 &&& (3 : Int32))), .val (.int mm), .val (.ref x), .val (.int (Int32.ofNat (own_lit (p1 &&& (3 : Int32))).length)), .val (.int (Int32.ofNat i0)), .val (.int ch), .val (.int N), .val (.ref b), .val (.ref x2), .val (.ref (own_ty (p1 &&& (3 : Int32)) r0 r1 r2 r3)), .val (.ref (own_ty (p1 &&& (3 : Int32)) r0 r1 r2 r3))] [])) _
          refine OGo.step (fun _ kk => XS.iconst X202.here hx rfl (hb hby at_551) kk) ?_
          show OGo p e below (T202.setTop (mkF m 552 #[.val (.int p1), .val (.int p2), .val (.int p3), .val (.int p4), .val (.int (p1 &&& (3 : Int32))), .val (.int mm), .val (.ref x), .val (.int (Int32.ofNat (own_lit (p1 &&& (3 : Int32))).length)), .val (.int (Int32.ofNat i0)), .val (.int ch), .val (.int N), .val (.ref b), .val (.ref x2), .val (.ref (own_ty (p1 &&& (3 : Int32)) r0 r1 r2 r3)), .val (.ref (own_ty (p1 &&& (3 : Int32)) r0 r1 r2 r3))] [(.int (1 : Int32))])) _
          refine OGo.step (fun _ kk => XS.goto X202.here hx rfl (pc0 := 552) (pc' := 556) rfl (hb hby at_552) (by decide) (by decide) kk) ?_
          show OGo p e below (T202.setTop (mkF m 556 #[.val (.int p1), .val (.int p2), .val (.int p3), .val (.int p4), .val (.int (p1 &&& (3 : Int32))), .val (.int mm), .val (.ref x), .val (.int (Int32.ofNat (own_lit (p1 &&& (3 : Int32))).length)), .val (.int (Int32.ofNat i0)), .val (.int ch), .val (.int N), .val (.ref b), .val (.ref x2), .val (.ref (own_ty (p1 &&& (3 : Int32)) r0 r1 r2 r3)), .val (.ref (own_ty (p1 &&& (3 : Int32)) r0 r1 r2 r3))] [(.int (1 : Int32))])) _
          exact own_retNW X202 hx hlk hEL OW195 e202 hret (by simp) (hb hby at_556) ⟨by rw [own_nar1], Nc196⟩ (by decide) (by decide)
        · refine OGo.step (fun _ kk => XS.ifNo X169.here hx rfl (hb hby at_496) rfl ((if0 _ _).trans (feq g0).1) kk) ?_
          show OGo p e below (T169.setTop (mkF m 499 #[.val (.int p1), .val (.int p2), .val (.int p3), .val (.int p4), .val (.int (p1 &&& (3 : Int32))), .val (.int mm), .val (.ref x), .val (.int (Int32.ofNat (own_lit (p1 &&& (3 : Int32))).length)), .val (.int (Int32.ofNat i0)), .val (.int ch), .val (.int N), .val (.ref b), .val (.ref x2), .unset, .unset] [])) _
          refine OGo.step (fun _ kk => XS.iload X169.here hx rfl (hb hby at_499) rfl kk) ?_
          show OGo p e below (T169.setTop (mkF m 501 #[.val (.int p1), .val (.int p2), .val (.int p3), .val (.int p4), .val (.int (p1 &&& (3 : Int32))), .val (.int mm), .val (.ref x), .val (.int (Int32.ofNat (own_lit (p1 &&& (3 : Int32))).length)), .val (.int (Int32.ofNat i0)), .val (.int ch), .val (.int N), .val (.ref b), .val (.ref x2), .unset, .unset] [(.int mm)])) _
          refine OGo.step (fun _ kk => XS.iconst X169.here hx rfl (hb hby at_501) kk) ?_
          show OGo p e below (T169.setTop (mkF m 502 #[.val (.int p1), .val (.int p2), .val (.int p3), .val (.int p4), .val (.int (p1 &&& (3 : Int32))), .val (.int mm), .val (.ref x), .val (.int (Int32.ofNat (own_lit (p1 &&& (3 : Int32))).length)), .val (.int (Int32.ofNat i0)), .val (.int ch), .val (.int N), .val (.ref b), .val (.ref x2), .unset, .unset] [(.int (1 : Int32)), (.int mm)])) _
          by_cases g1 : mm = (1 : Int32)
          · refine OGo.step (fun _ kk => XS.icmpNo X169.here hx rfl (hb hby at_502) rfl (teq g1).2 kk) ?_
            show OGo p e below (T169.setTop (mkF m 505 #[.val (.int p1), .val (.int p2), .val (.int p3), .val (.int p4), .val (.int (p1 &&& (3 : Int32))), .val (.int mm), .val (.ref x), .val (.int (Int32.ofNat (own_lit (p1 &&& (3 : Int32))).length)), .val (.int (Int32.ofNat i0)), .val (.int ch), .val (.int N), .val (.ref b), .val (.ref x2), .unset, .unset] [])) _
            refine OGo.step (fun _ kk => XS.iload X169.here hx rfl (hb hby at_505) rfl kk) ?_
            show OGo p e below (T169.setTop (mkF m 507 #[.val (.int p1), .val (.int p2), .val (.int p3), .val (.int p4), .val (.int (p1 &&& (3 : Int32))), .val (.int mm), .val (.ref x), .val (.int (Int32.ofNat (own_lit (p1 &&& (3 : Int32))).length)), .val (.int (Int32.ofNat i0)), .val (.int ch), .val (.int N), .val (.ref b), .val (.ref x2), .unset, .unset] [(.int ch)])) _
            refine OGo.step (fun _ kk => XS.aload X169.here hx rfl (hb hby at_507) rfl rfl kk) ?_
            show OGo p e below (T169.setTop (mkF m 509 #[.val (.int p1), .val (.int p2), .val (.int p3), .val (.int p4), .val (.int (p1 &&& (3 : Int32))), .val (.int mm), .val (.ref x), .val (.int (Int32.ofNat (own_lit (p1 &&& (3 : Int32))).length)), .val (.int (Int32.ofNat i0)), .val (.int ch), .val (.int N), .val (.ref b), .val (.ref x2), .unset, .unset] [(.ref x), (.int ch)])) _
            refine OGo.step (fun _ kk => XS.iload X169.here hx rfl (hb hby at_509) rfl kk) ?_
            show OGo p e below (T169.setTop (mkF m 511 #[.val (.int p1), .val (.int p2), .val (.int p3), .val (.int p4), .val (.int (p1 &&& (3 : Int32))), .val (.int mm), .val (.ref x), .val (.int (Int32.ofNat (own_lit (p1 &&& (3 : Int32))).length)), .val (.int (Int32.ofNat i0)), .val (.int ch), .val (.int N), .val (.ref b), .val (.ref x2), .unset, .unset] [(.int (Int32.ofNat i0)), (.ref x), (.int ch)])) _
            have xt203 := (own_ext_keep E51 KT (allS (Nat.le_of_eq g51.symm) all0))
            have xt204 := (own_ext_trans xt203 E53)
            have xt205 := (own_ext_keep xt204 K169 (allS (Nat.le_trans xt203.1 (Nat.le_of_eq g53.symm)) all0))
            have fx206 := Ox48.ext xt205
            have xt207 := (own_ext_keep xt59 K169 (allS (Nat.le_trans xt58.1 (Nat.le_of_eq g53.symm)) all0))
            have fx208 := SC.ext xt207
            have fx209 := SF.ext xt207
            refine own_virtualK X169 hx hZ (y := (⟨"java/lang/String", "charAt", "(I)C"⟩ : MethodName)) (z := (⟨"java/lang/String", "charAt", "(I)C"⟩ : MethodName)) hown (hw _ (List.mem_of_getElem? (i := 30) rfl)) (hw _ (List.mem_of_getElem? (i := 31) rfl)) (notFace_of_selects (args := #[]) (mvT hZ (hw _ (List.mem_of_getElem? (i := 33) rfl)))) (hw _ (List.mem_of_getElem? (i := 33) rfl)) (hw _ (List.mem_of_getElem? (i := 32) rfl)) (by decide) (b := x) (fx206).exa (W := 1) (own_chS (W := 1) hZ (fun d hd => hw d ((by decide +kernel : ∀ d ∈ StrChars.Road.wordsChN, d ∈ tables_1) d hd)) (kI := 4) (hw _ (List.mem_of_getElem? (i := 6) rfl)) (i := i0) fx206 hsl.2.2 fx208 hzc fx209 hfm hi0 n0 (by decide) (by decide)) rfl (pc := 511) (Ls := #[.val (.int p1), .val (.int p2), .val (.int p3), .val (.int p4), .val (.int (p1 &&& (3 : Int32))), .val (.int mm), .val (.ref x), .val (.int (Int32.ofNat (own_lit (p1 &&& (3 : Int32))).length)), .val (.int (Int32.ofNat i0)), .val (.int ch), .val (.int N), .val (.ref b), .val (.ref x2), .unset, .unset]) (argsL := [(.int (Int32.ofNat i0))]) (rest := [(.int ch)]) (by rw [hml]; rfl) (lenOf own_pd0 rfl) rfl (hb hby at_511) (by decide) (by decide) ?_
            intro v210 T210 L210 X210 hQ210
            obtain ⟨rfl, N210, e210⟩ := hQ210
            show OGo p e below (T210.setTop (mkF m 514 #[.val (.int p1), .val (.int p2), .val (.int p3), .val (.int p4), .val (.int (p1 &&& (3 : Int32))), .val (.int mm), .val (.ref x), .val (.int (Int32.ofNat (own_lit (p1 &&& (3 : Int32))).length)), .val (.int (Int32.ofNat i0)), .val (.int ch), .val (.int N), .val (.ref b), .val (.ref x2), .unset, .unset] [(.int ((own_lit (p1 &&& (3 : Int32))).getD i0 0)), (.int ch)])) _
            have Nc210 := Fr.app Nc169 N210
            by_cases gc : ch = ((own_lit (p1 &&& (3 : Int32))).getD i0 0)
            · refine OGo.step (fun _ kk => XS.icmpNo X210.here hx rfl (hb hby at_514) rfl (teq gc).2 kk) ?_
              show OGo p e below (T210.setTop (mkF m 517 #[.val (.int p1), .val (.int p2), .val (.int p3), .val (.int p4), .val (.int (p1 &&& (3 : Int32))), .val (.int mm), .val (.ref x), .val (.int (Int32.ofNat (own_lit (p1 &&& (3 : Int32))).length)), .val (.int (Int32.ofNat i0)), .val (.int ch), .val (.int N), .val (.ref b), .val (.ref x2), .unset, .unset] [])) _
              refine OGo.step (fun _ kk => XS.iload X210.here hx rfl (hb hby at_517) rfl kk) ?_
              show OGo p e below (T210.setTop (mkF m 519 #[.val (.int p1), .val (.int p2), .val (.int p3), .val (.int p4), .val (.int (p1 &&& (3 : Int32))), .val (.int mm), .val (.ref x), .val (.int (Int32.ofNat (own_lit (p1 &&& (3 : Int32))).length)), .val (.int (Int32.ofNat i0)), .val (.int ch), .val (.int N), .val (.ref b), .val (.ref x2), .unset, .unset] [(.int (p1 &&& (3 : Int32)))])) _
              have fx211 := S0.ext xt207
              have fx212 := S1.ext xt207
              have fx213 := S2.ext xt207
              have fx214 := S3.ext xt207
              refine own_callS X210 hx hZ (y := (⟨"com/example/tenantd/tenantd/RoleTypeOfTextPinLaw", "type", "(I)Lcom/example/tenantd/tenantd/RoleType;"⟩ : MethodName)) hown (hw _ (List.mem_of_getElem? (i := 123) rfl)) (hw _ (List.mem_of_getElem? (i := 124) rfl)) (hw _ (List.mem_of_getElem? (i := 2) rfl)) (hw _ (List.mem_of_getElem? (i := 125) rfl)) (by decide) (W := 0) (own_type l Z a0 hw [] (p1 &&& (3 : Int32)) r0 r1 r2 r3 T169.heap n0 sz169 fx211 fx212 fx213 fx214) e210  (pc := 519) (Ls := #[.val (.int p1), .val (.int p2), .val (.int p3), .val (.int p4), .val (.int (p1 &&& (3 : Int32))), .val (.int mm), .val (.ref x), .val (.int (Int32.ofNat (own_lit (p1 &&& (3 : Int32))).length)), .val (.int (Int32.ofNat i0)), .val (.int ch), .val (.int N), .val (.ref b), .val (.ref x2), .unset, .unset]) (argsL := [(.int (p1 &&& (3 : Int32)))]) (rest := []) (by rw [hml]; rfl) (lenOf own_pd8 rfl) rfl (hb hby at_519) (by decide) (by decide) (by decide) (by decide) ?_
              intro v215 T215 L215 X215 hQ215
              obtain ⟨rfl, N215, e215⟩ := hQ215
              show OGo p e below (T215.setTop (mkF m 522 #[.val (.int p1), .val (.int p2), .val (.int p3), .val (.int p4), .val (.int (p1 &&& (3 : Int32))), .val (.int mm), .val (.ref x), .val (.int (Int32.ofNat (own_lit (p1 &&& (3 : Int32))).length)), .val (.int (Int32.ofNat i0)), .val (.int ch), .val (.int N), .val (.ref b), .val (.ref x2), .unset, .unset] [(.ref (own_ty (p1 &&& (3 : Int32)) r0 r1 r2 r3))])) _
              have Nc215 := Fr.app Nc210 N215
              refine OGo.step (fun _ kk => XS.astore X215.here hx rfl (hb hby at_522) rfl rfl (l' := #[.val (.int p1), .val (.int p2), .val (.int p3), .val (.int p4), .val (.int (p1 &&& (3 : Int32))), .val (.int mm), .val (.ref x), .val (.int (Int32.ofNat (own_lit (p1 &&& (3 : Int32))).length)), .val (.int (Int32.ofNat i0)), .val (.int ch), .val (.int N), .val (.ref b), .val (.ref x2), .val (.ref (own_ty (p1 &&& (3 : Int32)) r0 r1 r2 r3)), .unset]) rfl kk) ?_
              show OGo p e below (T215.setTop (mkF m 524 #[.val (.int p1), .val (.int p2), .val (.int p3), .val (.int p4), .val (.int (p1 &&& (3 : Int32))), .val (.int mm), .val (.ref x), .val (.int (Int32.ofNat (own_lit (p1 &&& (3 : Int32))).length)), .val (.int (Int32.ofNat i0)), .val (.int ch), .val (.int N), .val (.ref b), .val (.ref x2), .val (.ref (own_ty (p1 &&& (3 : Int32)) r0 r1 r2 r3)), .unset] [])) _
              refine OGo.step (fun _ kk => XS.goto X215.here hx rfl (pc0 := 524) (pc' := 530) rfl (hb hby at_524) (by decide) (by decide) kk) ?_
              show OGo p e below (T215.setTop (mkF m 530 #[.val (.int p1), .val (.int p2), .val (.int p3), .val (.int p4), .val (.int (p1 &&& (3 : Int32))), .val (.int mm), .val (.ref x), .val (.int (Int32.ofNat (own_lit (p1 &&& (3 : Int32))).length)), .val (.int (Int32.ofNat i0)), .val (.int ch), .val (.int N), .val (.ref b), .val (.ref x2), .val (.ref (own_ty (p1 &&& (3 : Int32)) r0 r1 r2 r3)), .unset] [])) _
              refine OGo.step (fun _ kk => XS.aload X215.here hx rfl (hb hby at_530) rfl rfl kk) ?_
              show OGo p e below (T215.setTop (mkF m 532 #[.val (.int p1), .val (.int p2), .val (.int p3), .val (.int p4), .val (.int (p1 &&& (3 : Int32))), .val (.int mm), .val (.ref x), .val (.int (Int32.ofNat (own_lit (p1 &&& (3 : Int32))).length)), .val (.int (Int32.ofNat i0)), .val (.int ch), .val (.int N), .val (.ref b), .val (.ref x2), .val (.ref (own_ty (p1 &&& (3 : Int32)) r0 r1 r2 r3)), .unset] [(.ref x2)])) _
              have fx216 := SV.ext xt207
              have fx217 := AV.ext xt207
              have fx218 := EV.ext xt207
              have fx219 := Ft0.ext xt207
              have fx220 := O0.ext xt207
              have fx221 := Ft1.ext xt207
              have fx222 := O1.ext xt207
              have fx223 := Ft2.ext xt207
              have fx224 := O2.ext xt207
              have fx225 := Ft3.ext xt207
              have fx226 := O3.ext xt207
              have fx227 := SE.ext xt207
              have fx228 := EO.ext xt207
              have fx229 := FO.ext xt207
              refine own_callS X215 hx hZ (y := (⟨"com/example/tenantd/tenantd/RoleType", "ofText", "(Ljava/lang/String;)Ljava/util/Optional;"⟩ : MethodName)) hown (hw _ (List.mem_of_getElem? (i := 73) rfl)) (hw _ (List.mem_of_getElem? (i := 74) rfl)) (hw _ (List.mem_of_getElem? (i := 75) rfl)) (hw _ (List.mem_of_getElem? (i := 76) rfl)) (by decide) (W := 0) (own_ofS l Z a0 hw [] va vc r0 r1 r2 r3 t0 t1 t2 t3 eo zc x2 _ T169.heap n0 sz169 fx208 hzc fx216 fx217 fx218 FV VS V0 fx219 fx220 V1 fx221 fx222 V2 fx223 fx224 V3 fx225 fx226 fx227 fx228 fx229 O169) e215  (pc := 532) (Ls := #[.val (.int p1), .val (.int p2), .val (.int p3), .val (.int p4), .val (.int (p1 &&& (3 : Int32))), .val (.int mm), .val (.ref x), .val (.int (Int32.ofNat (own_lit (p1 &&& (3 : Int32))).length)), .val (.int (Int32.ofNat i0)), .val (.int ch), .val (.int N), .val (.ref b), .val (.ref x2), .val (.ref (own_ty (p1 &&& (3 : Int32)) r0 r1 r2 r3)), .unset]) (argsL := [(.ref x2)]) (rest := []) (by rw [hml]; rfl) (lenOf own_pd9 rfl) rfl (hb hby at_532) (by decide) (by decide) (by decide) (by decide) ?_
              intro v230 T230 L230 X230 hQ230
              obtain ⟨ob, u230, rfl, N230, Xe230, Eb230, Gv230, hu230⟩ := hQ230
              show OGo p e below (T230.setTop (mkF m 535 #[.val (.int p1), .val (.int p2), .val (.int p3), .val (.int p4), .val (.int (p1 &&& (3 : Int32))), .val (.int mm), .val (.ref x), .val (.int (Int32.ofNat (own_lit (p1 &&& (3 : Int32))).length)), .val (.int (Int32.ofNat i0)), .val (.int ch), .val (.int N), .val (.ref b), .val (.ref x2), .val (.ref (own_ty (p1 &&& (3 : Int32)) r0 r1 r2 r3)), .unset] [(.ref ob)])) _
              have Nc230 := Fr.app Nc215 N230
              have sz230 : n0 ≤ T230.heap.size := Nat.le_trans sz169 Xe230.1
              have sf231 := Safe.ext Xe230 OW171.chv sf170
              have OW232 := OW171.ext Xe230
              have hu : u230 = (.ref (own_ty (p1 &&& (3 : Int32)) r0 r1 r2 r3)) := hu230.trans (own_yes (p1 &&& (3 : Int32)) hi0 (Or.inr ⟨g1, gc⟩) r0 r1 r2 r3)
              rw [hu] at Gv230
              refine OGo.step (fun _ kk => XS.aconstNull X230.here hx rfl (hb hby at_535) kk) ?_
              show OGo p e below (T230.setTop (mkF m 536 #[.val (.int p1), .val (.int p2), .val (.int p3), .val (.int p4), .val (.int (p1 &&& (3 : Int32))), .val (.int mm), .val (.ref x), .val (.int (Int32.ofNat (own_lit (p1 &&& (3 : Int32))).length)), .val (.int (Int32.ofNat i0)), .val (.int ch), .val (.int N), .val (.ref b), .val (.ref x2), .val (.ref (own_ty (p1 &&& (3 : Int32)) r0 r1 r2 r3)), .unset] [.null, (.ref ob)])) _
              refine own_virtual X230 hx hZ (y := (⟨"java/util/Optional", "orElse", "(Ljava/lang/Object;)Ljava/lang/Object;"⟩ : MethodName)) (z := (⟨"java/util/Optional", "orElse", "(Ljava/lang/Object;)Ljava/lang/Object;"⟩ : MethodName)) hown (hw _ (List.mem_of_getElem? (i := 112) rfl)) (hw _ (List.mem_of_getElem? (i := 113) rfl)) (notFace_of_selects (args := #[]) (mvT hZ (hw _ (List.mem_of_getElem? (i := 115) rfl)))) (hw _ (List.mem_of_getElem? (i := 115) rfl)) (hw _ (List.mem_of_getElem? (i := 114) rfl)) (by decide) (hw _ (List.mem_of_getElem? (i := 116) rfl)) (hw _ (List.mem_of_getElem? (i := 109) rfl)) (b := ob) Eb230 (W := 0) (own_orElseR l Z a0 hw [] ob (own_ty (p1 &&& (3 : Int32)) r0 r1 r2 r3) T230.heap n0 sz230 Gv230) rfl  (pc := 536) (Ls := #[.val (.int p1), .val (.int p2), .val (.int p3), .val (.int p4), .val (.int (p1 &&& (3 : Int32))), .val (.int mm), .val (.ref x), .val (.int (Int32.ofNat (own_lit (p1 &&& (3 : Int32))).length)), .val (.int (Int32.ofNat i0)), .val (.int ch), .val (.int N), .val (.ref b), .val (.ref x2), .val (.ref (own_ty (p1 &&& (3 : Int32)) r0 r1 r2 r3)), .unset]) (argsL := [.null]) (rest := []) (by rw [hml]; rfl) (lenOf own_pd10 rfl) rfl (hb hby at_536) (by decide) (by decide) (by decide) (by decide) ?_
              intro v233 T233 L233 X233 hQ233
              obtain ⟨rfl, N233, e233⟩ := hQ233
              show OGo p e below (T233.setTop (mkF m 539 #[.val (.int p1), .val (.int p2), .val (.int p3), .val (.int p4), .val (.int (p1 &&& (3 : Int32))), .val (.int mm), .val (.ref x), .val (.int (Int32.ofNat (own_lit (p1 &&& (3 : Int32))).length)), .val (.int (Int32.ofNat i0)), .val (.int ch), .val (.int N), .val (.ref b), .val (.ref x2), .val (.ref (own_ty (p1 &&& (3 : Int32)) r0 r1 r2 r3)), .unset] [(.ref (own_ty (p1 &&& (3 : Int32)) r0 r1 r2 r3))])) _
              have Nc233 := Fr.app Nc230 N233
              have xt234 := (own_ext_trans xt207 Xe230)
              have fx235 := E0_.ext xt234
              have fx236 := E1_.ext xt234
              have fx237 := E2_.ext xt234
              have fx238 := E3_.ext xt234
              obtain ⟨T239, X239, e239, st239⟩ := castY X233 hx hZ hown (hw _ (List.mem_of_getElem? (i := 141) rfl)) e233 (Ins.self (own_tye (p1 &&& (3 : Int32)) fx235 fx236 fx237 fx238)) (g := (mkF m 539 #[.val (.int p1), .val (.int p2), .val (.int p3), .val (.int p4), .val (.int (p1 &&& (3 : Int32))), .val (.int mm), .val (.ref x), .val (.int (Int32.ofNat (own_lit (p1 &&& (3 : Int32))).length)), .val (.int (Int32.ofNat i0)), .val (.int ch), .val (.int N), .val (.ref b), .val (.ref x2), .val (.ref (own_ty (p1 &&& (3 : Int32)) r0 r1 r2 r3)), .unset] [(.ref (own_ty (p1 &&& (3 : Int32)) r0 r1 r2 r3))])) rfl rfl (hb hby at_539)
              refine OGo.step st239 ?_
              show OGo p e below (T239.setTop (mkF m 542 #[.val (.int p1), .val (.int p2), .val (.int p3), .val (.int p4), .val (.int (p1 &&& (3 : Int32))), .val (.int mm), .val (.ref x), .val (.int (Int32.ofNat (own_lit (p1 &&& (3 : Int32))).length)), .val (.int (Int32.ofNat i0)), .val (.int ch), .val (.int N), .val (.ref b), .val (.ref x2), .val (.ref (own_ty (p1 &&& (3 : Int32)) r0 r1 r2 r3)), .unset] [(.ref (own_ty (p1 &&& (3 : Int32)) r0 r1 r2 r3))])) _
              refine OGo.step (fun _ kk => XS.astore X239.here hx rfl (hb hby at_542) rfl rfl (l' := #[.val (.int p1), .val (.int p2), .val (.int p3), .val (.int p4), .val (.int (p1 &&& (3 : Int32))), .val (.int mm), .val (.ref x), .val (.int (Int32.ofNat (own_lit (p1 &&& (3 : Int32))).length)), .val (.int (Int32.ofNat i0)), .val (.int ch), .val (.int N), .val (.ref b), .val (.ref x2), .val (.ref (own_ty (p1 &&& (3 : Int32)) r0 r1 r2 r3)), .val (.ref (own_ty (p1 &&& (3 : Int32)) r0 r1 r2 r3))]) rfl kk) ?_
              show OGo p e below (T239.setTop (mkF m 544 #[.val (.int p1), .val (.int p2), .val (.int p3), .val (.int p4), .val (.int (p1 &&& (3 : Int32))), .val (.int mm), .val (.ref x), .val (.int (Int32.ofNat (own_lit (p1 &&& (3 : Int32))).length)), .val (.int (Int32.ofNat i0)), .val (.int ch), .val (.int N), .val (.ref b), .val (.ref x2), .val (.ref (own_ty (p1 &&& (3 : Int32)) r0 r1 r2 r3)), .val (.ref (own_ty (p1 &&& (3 : Int32)) r0 r1 r2 r3))] [])) _
              refine OGo.step (fun _ kk => XS.aload X239.here hx rfl (hb hby at_544) rfl rfl kk) ?_
              show OGo p e below (T239.setTop (mkF m 546 #[.val (.int p1), .val (.int p2), .val (.int p3), .val (.int p4), .val (.int (p1 &&& (3 : Int32))), .val (.int mm), .val (.ref x), .val (.int (Int32.ofNat (own_lit (p1 &&& (3 : Int32))).length)), .val (.int (Int32.ofNat i0)), .val (.int ch), .val (.int N), .val (.ref b), .val (.ref x2), .val (.ref (own_ty (p1 &&& (3 : Int32)) r0 r1 r2 r3)), .val (.ref (own_ty (p1 &&& (3 : Int32)) r0 r1 r2 r3))] [(.ref (own_ty (p1 &&& (3 : Int32)) r0 r1 r2 r3))])) _
              refine OGo.step (fun _ kk => XS.aload X239.here hx rfl (hb hby at_546) rfl rfl kk) ?_
              show OGo p e below (T239.setTop (mkF m 548 #[.val (.int p1), .val (.int p2), .val (.int p3), .val (.int p4), .val (.int (p1 &&& (3 : Int32))), .val (.int mm), .val (.ref x), .val (.int (Int32.ofNat (own_lit (p1 &&& (3 : Int32))).length)), .val (.int (Int32.ofNat i0)), .val (.int ch), .val (.int N), .val (.ref b), .val (.ref x2), .val (.ref (own_ty (p1 &&& (3 : Int32)) r0 r1 r2 r3)), .val (.ref (own_ty (p1 &&& (3 : Int32)) r0 r1 r2 r3))] [(.ref (own_ty (p1 &&& (3 : Int32)) r0 r1 r2 r3)), (.ref (own_ty (p1 &&& (3 : Int32)) r0 r1 r2 r3))])) _
              refine OGo.step (fun _ kk => Jvm.RoadKit.acmp (g := (mkF m 548 #[.val (.int p1), .val (.int p2), .val (.int p3), .val (.int p4), .val (.int (p1 &&& (3 : Int32))), .val (.int mm), .val (.ref x), .val (.int (Int32.ofNat (own_lit (p1 &&& (3 : Int32))).length)), .val (.int (Int32.ofNat i0)), .val (.int ch), .val (.int N), .val (.ref b), .val (.ref x2), .val (.ref (own_ty (p1 &&& (3 : Int32)) r0 r1 r2 r3)), .val (.ref (own_ty (p1 &&& (3 : Int32)) r0 r1 r2 r3))] [(.ref (own_ty (p1 &&& (3 : Int32)) r0 r1 r2 r3)), (.ref (own_ty (p1 &&& (3 : Int32)) r0 r1 r2 r3))])) X239 hx rfl rfl rfl (pc0 := 548) (pc' := 551) (same := true) rfl (hb hby at_548) rfl (decide_eq_true rfl) (by decide) (by decide) kk) ?_
              show OGo p e below (T239.setTop (mkF m 551 #[.val (.int p1), .val (.int p2), .val (.int p3), .val (.int p4), .val (.int (p1 &&& (3 : Int32))), .val (.int mm), .val (.ref x), .val (.int (Int32.ofNat (own_lit (p1 &&& (3 : Int32))).length)), .val (.int (Int32.ofNat i0)), .val (.int ch), .val (.int N), .val (.ref b), .val (.ref x2), .val (.ref (own_ty (p1 &&& (3 : Int32)) r0 r1 r2 r3)), .val (.ref (own_ty (p1 &&& (3 : Int32)) r0 r1 r2 r3))] [])) _
              refine OGo.step (fun _ kk => XS.iconst X239.here hx rfl (hb hby at_551) kk) ?_
              show OGo p e below (T239.setTop (mkF m 552 #[.val (.int p1), .val (.int p2), .val (.int p3), .val (.int p4), .val (.int (p1 &&& (3 : Int32))), .val (.int mm), .val (.ref x), .val (.int (Int32.ofNat (own_lit (p1 &&& (3 : Int32))).length)), .val (.int (Int32.ofNat i0)), .val (.int ch), .val (.int N), .val (.ref b), .val (.ref x2), .val (.ref (own_ty (p1 &&& (3 : Int32)) r0 r1 r2 r3)), .val (.ref (own_ty (p1 &&& (3 : Int32)) r0 r1 r2 r3))] [(.int (1 : Int32))])) _
              refine OGo.step (fun _ kk => XS.goto X239.here hx rfl (pc0 := 552) (pc' := 556) rfl (hb hby at_552) (by decide) (by decide) kk) ?_
              show OGo p e below (T239.setTop (mkF m 556 #[.val (.int p1), .val (.int p2), .val (.int p3), .val (.int p4), .val (.int (p1 &&& (3 : Int32))), .val (.int mm), .val (.ref x), .val (.int (Int32.ofNat (own_lit (p1 &&& (3 : Int32))).length)), .val (.int (Int32.ofNat i0)), .val (.int ch), .val (.int N), .val (.ref b), .val (.ref x2), .val (.ref (own_ty (p1 &&& (3 : Int32)) r0 r1 r2 r3)), .val (.ref (own_ty (p1 &&& (3 : Int32)) r0 r1 r2 r3))] [(.int (1 : Int32))])) _
              exact own_retNW X239 hx hlk hEL OW232 e239 hret (by simp) (hb hby at_556) ⟨by rw [own_nar1], Nc233⟩ (by decide) (by decide)
            · refine OGo.step (fun _ kk => XS.icmpYes X210.here hx rfl (pc0 := 514) (pc' := 527) rfl (hb hby at_514) rfl (feq gc).2 (by decide) (by decide) kk) ?_
              show OGo p e below (T210.setTop (mkF m 527 #[.val (.int p1), .val (.int p2), .val (.int p3), .val (.int p4), .val (.int (p1 &&& (3 : Int32))), .val (.int mm), .val (.ref x), .val (.int (Int32.ofNat (own_lit (p1 &&& (3 : Int32))).length)), .val (.int (Int32.ofNat i0)), .val (.int ch), .val (.int N), .val (.ref b), .val (.ref x2), .unset, .unset] [])) _
              refine OGo.step (fun _ kk => XS.aconstNull X210.here hx rfl (hb hby at_527) kk) ?_
              show OGo p e below (T210.setTop (mkF m 528 #[.val (.int p1), .val (.int p2), .val (.int p3), .val (.int p4), .val (.int (p1 &&& (3 : Int32))), .val (.int mm), .val (.ref x), .val (.int (Int32.ofNat (own_lit (p1 &&& (3 : Int32))).length)), .val (.int (Int32.ofNat i0)), .val (.int ch), .val (.int N), .val (.ref b), .val (.ref x2), .unset, .unset] [.null])) _
              refine OGo.step (fun _ kk => XS.astore X210.here hx rfl (hb hby at_528) rfl rfl (l' := #[.val (.int p1), .val (.int p2), .val (.int p3), .val (.int p4), .val (.int (p1 &&& (3 : Int32))), .val (.int mm), .val (.ref x), .val (.int (Int32.ofNat (own_lit (p1 &&& (3 : Int32))).length)), .val (.int (Int32.ofNat i0)), .val (.int ch), .val (.int N), .val (.ref b), .val (.ref x2), .val .null, .unset]) rfl kk) ?_
              show OGo p e below (T210.setTop (mkF m 530 #[.val (.int p1), .val (.int p2), .val (.int p3), .val (.int p4), .val (.int (p1 &&& (3 : Int32))), .val (.int mm), .val (.ref x), .val (.int (Int32.ofNat (own_lit (p1 &&& (3 : Int32))).length)), .val (.int (Int32.ofNat i0)), .val (.int ch), .val (.int N), .val (.ref b), .val (.ref x2), .val .null, .unset] [])) _
              refine OGo.step (fun _ kk => XS.aload X210.here hx rfl (hb hby at_530) rfl rfl kk) ?_
              show OGo p e below (T210.setTop (mkF m 532 #[.val (.int p1), .val (.int p2), .val (.int p3), .val (.int p4), .val (.int (p1 &&& (3 : Int32))), .val (.int mm), .val (.ref x), .val (.int (Int32.ofNat (own_lit (p1 &&& (3 : Int32))).length)), .val (.int (Int32.ofNat i0)), .val (.int ch), .val (.int N), .val (.ref b), .val (.ref x2), .val .null, .unset] [(.ref x2)])) _
              have fx240 := SV.ext xt207
              have fx241 := AV.ext xt207
              have fx242 := EV.ext xt207
              have fx243 := Ft0.ext xt207
              have fx244 := O0.ext xt207
              have fx245 := Ft1.ext xt207
              have fx246 := O1.ext xt207
              have fx247 := Ft2.ext xt207
              have fx248 := O2.ext xt207
              have fx249 := Ft3.ext xt207
              have fx250 := O3.ext xt207
              have fx251 := SE.ext xt207
              have fx252 := EO.ext xt207
              have fx253 := FO.ext xt207
              refine own_callS X210 hx hZ (y := (⟨"com/example/tenantd/tenantd/RoleType", "ofText", "(Ljava/lang/String;)Ljava/util/Optional;"⟩ : MethodName)) hown (hw _ (List.mem_of_getElem? (i := 73) rfl)) (hw _ (List.mem_of_getElem? (i := 74) rfl)) (hw _ (List.mem_of_getElem? (i := 75) rfl)) (hw _ (List.mem_of_getElem? (i := 76) rfl)) (by decide) (W := 0) (own_ofS l Z a0 hw [] va vc r0 r1 r2 r3 t0 t1 t2 t3 eo zc x2 _ T169.heap n0 sz169 fx208 hzc fx240 fx241 fx242 FV VS V0 fx243 fx244 V1 fx245 fx246 V2 fx247 fx248 V3 fx249 fx250 fx251 fx252 fx253 O169) e210  (pc := 532) (Ls := #[.val (.int p1), .val (.int p2), .val (.int p3), .val (.int p4), .val (.int (p1 &&& (3 : Int32))), .val (.int mm), .val (.ref x), .val (.int (Int32.ofNat (own_lit (p1 &&& (3 : Int32))).length)), .val (.int (Int32.ofNat i0)), .val (.int ch), .val (.int N), .val (.ref b), .val (.ref x2), .val .null, .unset]) (argsL := [(.ref x2)]) (rest := []) (by rw [hml]; rfl) (lenOf own_pd9 rfl) rfl (hb hby at_532) (by decide) (by decide) (by decide) (by decide) ?_
              intro v254 T254 L254 X254 hQ254
              obtain ⟨ob, u254, rfl, N254, Xe254, Eb254, Gv254, hu254⟩ := hQ254
              show OGo p e below (T254.setTop (mkF m 535 #[.val (.int p1), .val (.int p2), .val (.int p3), .val (.int p4), .val (.int (p1 &&& (3 : Int32))), .val (.int mm), .val (.ref x), .val (.int (Int32.ofNat (own_lit (p1 &&& (3 : Int32))).length)), .val (.int (Int32.ofNat i0)), .val (.int ch), .val (.int N), .val (.ref b), .val (.ref x2), .val .null, .unset] [(.ref ob)])) _
              have Nc254 := Fr.app Nc210 N254
              have sz254 : n0 ≤ T254.heap.size := Nat.le_trans sz169 Xe254.1
              have sf255 := Safe.ext Xe254 OW171.chv sf170
              have OW256 := OW171.ext Xe254
              have hu : u254 = .null := hu254.trans (own_no (p1 &&& (3 : Int32)) hi0 g0 (fun _ => gc) r0 r1 r2 r3)
              rw [hu] at Gv254
              refine OGo.step (fun _ kk => XS.aconstNull X254.here hx rfl (hb hby at_535) kk) ?_
              show OGo p e below (T254.setTop (mkF m 536 #[.val (.int p1), .val (.int p2), .val (.int p3), .val (.int p4), .val (.int (p1 &&& (3 : Int32))), .val (.int mm), .val (.ref x), .val (.int (Int32.ofNat (own_lit (p1 &&& (3 : Int32))).length)), .val (.int (Int32.ofNat i0)), .val (.int ch), .val (.int N), .val (.ref b), .val (.ref x2), .val .null, .unset] [.null, (.ref ob)])) _
              refine own_virtual X254 hx hZ (y := (⟨"java/util/Optional", "orElse", "(Ljava/lang/Object;)Ljava/lang/Object;"⟩ : MethodName)) (z := (⟨"java/util/Optional", "orElse", "(Ljava/lang/Object;)Ljava/lang/Object;"⟩ : MethodName)) hown (hw _ (List.mem_of_getElem? (i := 112) rfl)) (hw _ (List.mem_of_getElem? (i := 113) rfl)) (notFace_of_selects (args := #[]) (mvT hZ (hw _ (List.mem_of_getElem? (i := 115) rfl)))) (hw _ (List.mem_of_getElem? (i := 115) rfl)) (hw _ (List.mem_of_getElem? (i := 114) rfl)) (by decide) (hw _ (List.mem_of_getElem? (i := 116) rfl)) (hw _ (List.mem_of_getElem? (i := 109) rfl)) (b := ob) Eb254 (W := 0) (own_orElseN l Z a0 hw [] ob T254.heap n0 sz254 Gv254) rfl  (pc := 536) (Ls := #[.val (.int p1), .val (.int p2), .val (.int p3), .val (.int p4), .val (.int (p1 &&& (3 : Int32))), .val (.int mm), .val (.ref x), .val (.int (Int32.ofNat (own_lit (p1 &&& (3 : Int32))).length)), .val (.int (Int32.ofNat i0)), .val (.int ch), .val (.int N), .val (.ref b), .val (.ref x2), .val .null, .unset]) (argsL := [.null]) (rest := []) (by rw [hml]; rfl) (lenOf own_pd10 rfl) rfl (hb hby at_536) (by decide) (by decide) (by decide) (by decide) ?_
              intro v257 T257 L257 X257 hQ257
              obtain ⟨rfl, N257, e257⟩ := hQ257
              show OGo p e below (T257.setTop (mkF m 539 #[.val (.int p1), .val (.int p2), .val (.int p3), .val (.int p4), .val (.int (p1 &&& (3 : Int32))), .val (.int mm), .val (.ref x), .val (.int (Int32.ofNat (own_lit (p1 &&& (3 : Int32))).length)), .val (.int (Int32.ofNat i0)), .val (.int ch), .val (.int N), .val (.ref b), .val (.ref x2), .val .null, .unset] [.null])) _
              have Nc257 := Fr.app Nc254 N257
              refine OGo.step (fun _ kk => X257.checkcastNull hx (g := (mkF m 539 #[.val (.int p1), .val (.int p2), .val (.int p3), .val (.int p4), .val (.int (p1 &&& (3 : Int32))), .val (.int mm), .val (.ref x), .val (.int (Int32.ofNat (own_lit (p1 &&& (3 : Int32))).length)), .val (.int (Int32.ofNat i0)), .val (.int ch), .val (.int N), .val (.ref b), .val (.ref x2), .val .null, .unset] [.null])) rfl rfl (hb hby at_539) _ kk) ?_
              show OGo p e below (T257.setTop (mkF m 542 #[.val (.int p1), .val (.int p2), .val (.int p3), .val (.int p4), .val (.int (p1 &&& (3 : Int32))), .val (.int mm), .val (.ref x), .val (.int (Int32.ofNat (own_lit (p1 &&& (3 : Int32))).length)), .val (.int (Int32.ofNat i0)), .val (.int ch), .val (.int N), .val (.ref b), .val (.ref x2), .val .null, .unset] [.null])) _
              refine OGo.step (fun _ kk => XS.astore X257.here hx rfl (hb hby at_542) rfl rfl (l' := #[.val (.int p1), .val (.int p2), .val (.int p3), .val (.int p4), .val (.int (p1 &&& (3 : Int32))), .val (.int mm), .val (.ref x), .val (.int (Int32.ofNat (own_lit (p1 &&& (3 : Int32))).length)), .val (.int (Int32.ofNat i0)), .val (.int ch), .val (.int N), .val (.ref b), .val (.ref x2), .val .null, .val .null]) rfl kk) ?_
              show OGo p e below (T257.setTop (mkF m 544 #[.val (.int p1), .val (.int p2), .val (.int p3), .val (.int p4), .val (.int (p1 &&& (3 : Int32))), .val (.int mm), .val (.ref x), .val (.int (Int32.ofNat (own_lit (p1 &&& (3 : Int32))).length)), .val (.int (Int32.ofNat i0)), .val (.int ch), .val (.int N), .val (.ref b), .val (.ref x2), .val .null, .val .null] [])) _
              refine OGo.step (fun _ kk => XS.aload X257.here hx rfl (hb hby at_544) rfl rfl kk) ?_
              show OGo p e below (T257.setTop (mkF m 546 #[.val (.int p1), .val (.int p2), .val (.int p3), .val (.int p4), .val (.int (p1 &&& (3 : Int32))), .val (.int mm), .val (.ref x), .val (.int (Int32.ofNat (own_lit (p1 &&& (3 : Int32))).length)), .val (.int (Int32.ofNat i0)), .val (.int ch), .val (.int N), .val (.ref b), .val (.ref x2), .val .null, .val .null] [.null])) _
              refine OGo.step (fun _ kk => XS.aload X257.here hx rfl (hb hby at_546) rfl rfl kk) ?_
              show OGo p e below (T257.setTop (mkF m 548 #[.val (.int p1), .val (.int p2), .val (.int p3), .val (.int p4), .val (.int (p1 &&& (3 : Int32))), .val (.int mm), .val (.ref x), .val (.int (Int32.ofNat (own_lit (p1 &&& (3 : Int32))).length)), .val (.int (Int32.ofNat i0)), .val (.int ch), .val (.int N), .val (.ref b), .val (.ref x2), .val .null, .val .null] [.null, .null])) _
              refine OGo.step (fun _ kk => Jvm.RoadKit.acmp (g := (mkF m 548 #[.val (.int p1), .val (.int p2), .val (.int p3), .val (.int p4), .val (.int (p1 &&& (3 : Int32))), .val (.int mm), .val (.ref x), .val (.int (Int32.ofNat (own_lit (p1 &&& (3 : Int32))).length)), .val (.int (Int32.ofNat i0)), .val (.int ch), .val (.int N), .val (.ref b), .val (.ref x2), .val .null, .val .null] [.null, .null])) X257 hx rfl rfl rfl (pc0 := 548) (pc' := 551) (same := true) rfl (hb hby at_548) rfl (decide_eq_true rfl) (by decide) (by decide) kk) ?_
              show OGo p e below (T257.setTop (mkF m 551 #[.val (.int p1), .val (.int p2), .val (.int p3), .val (.int p4), .val (.int (p1 &&& (3 : Int32))), .val (.int mm), .val (.ref x), .val (.int (Int32.ofNat (own_lit (p1 &&& (3 : Int32))).length)), .val (.int (Int32.ofNat i0)), .val (.int ch), .val (.int N), .val (.ref b), .val (.ref x2), .val .null, .val .null] [])) _
              refine OGo.step (fun _ kk => XS.iconst X257.here hx rfl (hb hby at_551) kk) ?_
              show OGo p e below (T257.setTop (mkF m 552 #[.val (.int p1), .val (.int p2), .val (.int p3), .val (.int p4), .val (.int (p1 &&& (3 : Int32))), .val (.int mm), .val (.ref x), .val (.int (Int32.ofNat (own_lit (p1 &&& (3 : Int32))).length)), .val (.int (Int32.ofNat i0)), .val (.int ch), .val (.int N), .val (.ref b), .val (.ref x2), .val .null, .val .null] [(.int (1 : Int32))])) _
              refine OGo.step (fun _ kk => XS.goto X257.here hx rfl (pc0 := 552) (pc' := 556) rfl (hb hby at_552) (by decide) (by decide) kk) ?_
              show OGo p e below (T257.setTop (mkF m 556 #[.val (.int p1), .val (.int p2), .val (.int p3), .val (.int p4), .val (.int (p1 &&& (3 : Int32))), .val (.int mm), .val (.ref x), .val (.int (Int32.ofNat (own_lit (p1 &&& (3 : Int32))).length)), .val (.int (Int32.ofNat i0)), .val (.int ch), .val (.int N), .val (.ref b), .val (.ref x2), .val .null, .val .null] [(.int (1 : Int32))])) _
              exact own_retNW X257 hx hlk hEL OW256 e257 hret (by simp) (hb hby at_556) ⟨by rw [own_nar1], Nc257⟩ (by decide) (by decide)
          · refine OGo.step (fun _ kk => XS.icmpYes X169.here hx rfl (pc0 := 502) (pc' := 527) rfl (hb hby at_502) rfl (feq g1).2 (by decide) (by decide) kk) ?_
            show OGo p e below (T169.setTop (mkF m 527 #[.val (.int p1), .val (.int p2), .val (.int p3), .val (.int p4), .val (.int (p1 &&& (3 : Int32))), .val (.int mm), .val (.ref x), .val (.int (Int32.ofNat (own_lit (p1 &&& (3 : Int32))).length)), .val (.int (Int32.ofNat i0)), .val (.int ch), .val (.int N), .val (.ref b), .val (.ref x2), .unset, .unset] [])) _
            refine OGo.step (fun _ kk => XS.aconstNull X169.here hx rfl (hb hby at_527) kk) ?_
            show OGo p e below (T169.setTop (mkF m 528 #[.val (.int p1), .val (.int p2), .val (.int p3), .val (.int p4), .val (.int (p1 &&& (3 : Int32))), .val (.int mm), .val (.ref x), .val (.int (Int32.ofNat (own_lit (p1 &&& (3 : Int32))).length)), .val (.int (Int32.ofNat i0)), .val (.int ch), .val (.int N), .val (.ref b), .val (.ref x2), .unset, .unset] [.null])) _
            refine OGo.step (fun _ kk => XS.astore X169.here hx rfl (hb hby at_528) rfl rfl (l' := #[.val (.int p1), .val (.int p2), .val (.int p3), .val (.int p4), .val (.int (p1 &&& (3 : Int32))), .val (.int mm), .val (.ref x), .val (.int (Int32.ofNat (own_lit (p1 &&& (3 : Int32))).length)), .val (.int (Int32.ofNat i0)), .val (.int ch), .val (.int N), .val (.ref b), .val (.ref x2), .val .null, .unset]) rfl kk) ?_
            show OGo p e below (T169.setTop (mkF m 530 #[.val (.int p1), .val (.int p2), .val (.int p3), .val (.int p4), .val (.int (p1 &&& (3 : Int32))), .val (.int mm), .val (.ref x), .val (.int (Int32.ofNat (own_lit (p1 &&& (3 : Int32))).length)), .val (.int (Int32.ofNat i0)), .val (.int ch), .val (.int N), .val (.ref b), .val (.ref x2), .val .null, .unset] [])) _
            refine OGo.step (fun _ kk => XS.aload X169.here hx rfl (hb hby at_530) rfl rfl kk) ?_
            show OGo p e below (T169.setTop (mkF m 532 #[.val (.int p1), .val (.int p2), .val (.int p3), .val (.int p4), .val (.int (p1 &&& (3 : Int32))), .val (.int mm), .val (.ref x), .val (.int (Int32.ofNat (own_lit (p1 &&& (3 : Int32))).length)), .val (.int (Int32.ofNat i0)), .val (.int ch), .val (.int N), .val (.ref b), .val (.ref x2), .val .null, .unset] [(.ref x2)])) _
            have xt258 := (own_ext_keep xt59 K169 (allS (Nat.le_trans xt58.1 (Nat.le_of_eq g53.symm)) all0))
            have fx259 := SV.ext xt258
            have fx260 := AV.ext xt258
            have fx261 := EV.ext xt258
            have fx262 := Ft0.ext xt258
            have fx263 := O0.ext xt258
            have fx264 := Ft1.ext xt258
            have fx265 := O1.ext xt258
            have fx266 := Ft2.ext xt258
            have fx267 := O2.ext xt258
            have fx268 := Ft3.ext xt258
            have fx269 := O3.ext xt258
            have fx270 := SE.ext xt258
            have fx271 := EO.ext xt258
            have fx272 := FO.ext xt258
            have fx273 := SC.ext xt258
            refine own_callS X169 hx hZ (y := (⟨"com/example/tenantd/tenantd/RoleType", "ofText", "(Ljava/lang/String;)Ljava/util/Optional;"⟩ : MethodName)) hown (hw _ (List.mem_of_getElem? (i := 73) rfl)) (hw _ (List.mem_of_getElem? (i := 74) rfl)) (hw _ (List.mem_of_getElem? (i := 75) rfl)) (hw _ (List.mem_of_getElem? (i := 76) rfl)) (by decide) (W := 0) (own_ofS l Z a0 hw [] va vc r0 r1 r2 r3 t0 t1 t2 t3 eo zc x2 _ T169.heap n0 sz169 fx273 hzc fx259 fx260 fx261 FV VS V0 fx262 fx263 V1 fx264 fx265 V2 fx266 fx267 V3 fx268 fx269 fx270 fx271 fx272 O169) rfl  (pc := 532) (Ls := #[.val (.int p1), .val (.int p2), .val (.int p3), .val (.int p4), .val (.int (p1 &&& (3 : Int32))), .val (.int mm), .val (.ref x), .val (.int (Int32.ofNat (own_lit (p1 &&& (3 : Int32))).length)), .val (.int (Int32.ofNat i0)), .val (.int ch), .val (.int N), .val (.ref b), .val (.ref x2), .val .null, .unset]) (argsL := [(.ref x2)]) (rest := []) (by rw [hml]; rfl) (lenOf own_pd9 rfl) rfl (hb hby at_532) (by decide) (by decide) (by decide) (by decide) ?_
            intro v274 T274 L274 X274 hQ274
            obtain ⟨ob, u274, rfl, N274, Xe274, Eb274, Gv274, hu274⟩ := hQ274
            show OGo p e below (T274.setTop (mkF m 535 #[.val (.int p1), .val (.int p2), .val (.int p3), .val (.int p4), .val (.int (p1 &&& (3 : Int32))), .val (.int mm), .val (.ref x), .val (.int (Int32.ofNat (own_lit (p1 &&& (3 : Int32))).length)), .val (.int (Int32.ofNat i0)), .val (.int ch), .val (.int N), .val (.ref b), .val (.ref x2), .val .null, .unset] [(.ref ob)])) _
            have Nc274 := Fr.app Nc169 N274
            have sz274 : n0 ≤ T274.heap.size := Nat.le_trans sz169 Xe274.1
            have sf275 := Safe.ext Xe274 OW171.chv sf170
            have OW276 := OW171.ext Xe274
            have hu : u274 = .null := hu274.trans (own_no (p1 &&& (3 : Int32)) hi0 g0 (fun z => absurd z g1) r0 r1 r2 r3)
            rw [hu] at Gv274
            refine OGo.step (fun _ kk => XS.aconstNull X274.here hx rfl (hb hby at_535) kk) ?_
            show OGo p e below (T274.setTop (mkF m 536 #[.val (.int p1), .val (.int p2), .val (.int p3), .val (.int p4), .val (.int (p1 &&& (3 : Int32))), .val (.int mm), .val (.ref x), .val (.int (Int32.ofNat (own_lit (p1 &&& (3 : Int32))).length)), .val (.int (Int32.ofNat i0)), .val (.int ch), .val (.int N), .val (.ref b), .val (.ref x2), .val .null, .unset] [.null, (.ref ob)])) _
            refine own_virtual X274 hx hZ (y := (⟨"java/util/Optional", "orElse", "(Ljava/lang/Object;)Ljava/lang/Object;"⟩ : MethodName)) (z := (⟨"java/util/Optional", "orElse", "(Ljava/lang/Object;)Ljava/lang/Object;"⟩ : MethodName)) hown (hw _ (List.mem_of_getElem? (i := 112) rfl)) (hw _ (List.mem_of_getElem? (i := 113) rfl)) (notFace_of_selects (args := #[]) (mvT hZ (hw _ (List.mem_of_getElem? (i := 115) rfl)))) (hw _ (List.mem_of_getElem? (i := 115) rfl)) (hw _ (List.mem_of_getElem? (i := 114) rfl)) (by decide) (hw _ (List.mem_of_getElem? (i := 116) rfl)) (hw _ (List.mem_of_getElem? (i := 109) rfl)) (b := ob) Eb274 (W := 0) (own_orElseN l Z a0 hw [] ob T274.heap n0 sz274 Gv274) rfl  (pc := 536) (Ls := #[.val (.int p1), .val (.int p2), .val (.int p3), .val (.int p4), .val (.int (p1 &&& (3 : Int32))), .val (.int mm), .val (.ref x), .val (.int (Int32.ofNat (own_lit (p1 &&& (3 : Int32))).length)), .val (.int (Int32.ofNat i0)), .val (.int ch), .val (.int N), .val (.ref b), .val (.ref x2), .val .null, .unset]) (argsL := [.null]) (rest := []) (by rw [hml]; rfl) (lenOf own_pd10 rfl) rfl (hb hby at_536) (by decide) (by decide) (by decide) (by decide) ?_
            intro v277 T277 L277 X277 hQ277
            obtain ⟨rfl, N277, e277⟩ := hQ277
            show OGo p e below (T277.setTop (mkF m 539 #[.val (.int p1), .val (.int p2), .val (.int p3), .val (.int p4), .val (.int (p1 &&& (3 : Int32))), .val (.int mm), .val (.ref x), .val (.int (Int32.ofNat (own_lit (p1 &&& (3 : Int32))).length)), .val (.int (Int32.ofNat i0)), .val (.int ch), .val (.int N), .val (.ref b), .val (.ref x2), .val .null, .unset] [.null])) _
            have Nc277 := Fr.app Nc274 N277
            refine OGo.step (fun _ kk => X277.checkcastNull hx (g := (mkF m 539 #[.val (.int p1), .val (.int p2), .val (.int p3), .val (.int p4), .val (.int (p1 &&& (3 : Int32))), .val (.int mm), .val (.ref x), .val (.int (Int32.ofNat (own_lit (p1 &&& (3 : Int32))).length)), .val (.int (Int32.ofNat i0)), .val (.int ch), .val (.int N), .val (.ref b), .val (.ref x2), .val .null, .unset] [.null])) rfl rfl (hb hby at_539) _ kk) ?_
            show OGo p e below (T277.setTop (mkF m 542 #[.val (.int p1), .val (.int p2), .val (.int p3), .val (.int p4), .val (.int (p1 &&& (3 : Int32))), .val (.int mm), .val (.ref x), .val (.int (Int32.ofNat (own_lit (p1 &&& (3 : Int32))).length)), .val (.int (Int32.ofNat i0)), .val (.int ch), .val (.int N), .val (.ref b), .val (.ref x2), .val .null, .unset] [.null])) _
            refine OGo.step (fun _ kk => XS.astore X277.here hx rfl (hb hby at_542) rfl rfl (l' := #[.val (.int p1), .val (.int p2), .val (.int p3), .val (.int p4), .val (.int (p1 &&& (3 : Int32))), .val (.int mm), .val (.ref x), .val (.int (Int32.ofNat (own_lit (p1 &&& (3 : Int32))).length)), .val (.int (Int32.ofNat i0)), .val (.int ch), .val (.int N), .val (.ref b), .val (.ref x2), .val .null, .val .null]) rfl kk) ?_
            show OGo p e below (T277.setTop (mkF m 544 #[.val (.int p1), .val (.int p2), .val (.int p3), .val (.int p4), .val (.int (p1 &&& (3 : Int32))), .val (.int mm), .val (.ref x), .val (.int (Int32.ofNat (own_lit (p1 &&& (3 : Int32))).length)), .val (.int (Int32.ofNat i0)), .val (.int ch), .val (.int N), .val (.ref b), .val (.ref x2), .val .null, .val .null] [])) _
            refine OGo.step (fun _ kk => XS.aload X277.here hx rfl (hb hby at_544) rfl rfl kk) ?_
            show OGo p e below (T277.setTop (mkF m 546 #[.val (.int p1), .val (.int p2), .val (.int p3), .val (.int p4), .val (.int (p1 &&& (3 : Int32))), .val (.int mm), .val (.ref x), .val (.int (Int32.ofNat (own_lit (p1 &&& (3 : Int32))).length)), .val (.int (Int32.ofNat i0)), .val (.int ch), .val (.int N), .val (.ref b), .val (.ref x2), .val .null, .val .null] [.null])) _
            refine OGo.step (fun _ kk => XS.aload X277.here hx rfl (hb hby at_546) rfl rfl kk) ?_
            show OGo p e below (T277.setTop (mkF m 548 #[.val (.int p1), .val (.int p2), .val (.int p3), .val (.int p4), .val (.int (p1 &&& (3 : Int32))), .val (.int mm), .val (.ref x), .val (.int (Int32.ofNat (own_lit (p1 &&& (3 : Int32))).length)), .val (.int (Int32.ofNat i0)), .val (.int ch), .val (.int N), .val (.ref b), .val (.ref x2), .val .null, .val .null] [.null, .null])) _
            refine OGo.step (fun _ kk => Jvm.RoadKit.acmp (g := (mkF m 548 #[.val (.int p1), .val (.int p2), .val (.int p3), .val (.int p4), .val (.int (p1 &&& (3 : Int32))), .val (.int mm), .val (.ref x), .val (.int (Int32.ofNat (own_lit (p1 &&& (3 : Int32))).length)), .val (.int (Int32.ofNat i0)), .val (.int ch), .val (.int N), .val (.ref b), .val (.ref x2), .val .null, .val .null] [.null, .null])) X277 hx rfl rfl rfl (pc0 := 548) (pc' := 551) (same := true) rfl (hb hby at_548) rfl (decide_eq_true rfl) (by decide) (by decide) kk) ?_
            show OGo p e below (T277.setTop (mkF m 551 #[.val (.int p1), .val (.int p2), .val (.int p3), .val (.int p4), .val (.int (p1 &&& (3 : Int32))), .val (.int mm), .val (.ref x), .val (.int (Int32.ofNat (own_lit (p1 &&& (3 : Int32))).length)), .val (.int (Int32.ofNat i0)), .val (.int ch), .val (.int N), .val (.ref b), .val (.ref x2), .val .null, .val .null] [])) _
            refine OGo.step (fun _ kk => XS.iconst X277.here hx rfl (hb hby at_551) kk) ?_
            show OGo p e below (T277.setTop (mkF m 552 #[.val (.int p1), .val (.int p2), .val (.int p3), .val (.int p4), .val (.int (p1 &&& (3 : Int32))), .val (.int mm), .val (.ref x), .val (.int (Int32.ofNat (own_lit (p1 &&& (3 : Int32))).length)), .val (.int (Int32.ofNat i0)), .val (.int ch), .val (.int N), .val (.ref b), .val (.ref x2), .val .null, .val .null] [(.int (1 : Int32))])) _
            refine OGo.step (fun _ kk => XS.goto X277.here hx rfl (pc0 := 552) (pc' := 556) rfl (hb hby at_552) (by decide) (by decide) kk) ?_
            show OGo p e below (T277.setTop (mkF m 556 #[.val (.int p1), .val (.int p2), .val (.int p3), .val (.int p4), .val (.int (p1 &&& (3 : Int32))), .val (.int mm), .val (.ref x), .val (.int (Int32.ofNat (own_lit (p1 &&& (3 : Int32))).length)), .val (.int (Int32.ofNat i0)), .val (.int ch), .val (.int N), .val (.ref b), .val (.ref x2), .val .null, .val .null] [(.int (1 : Int32))])) _
            exact own_retNW X277 hx hlk hEL OW276 e277 hret (by simp) (hb hby at_556) ⟨by rw [own_nar1], Nc277⟩ (by decide) (by decide)
    have S_13 : ∀ (T : State) (locs : List Loc) (h : Heap), Stand p l e room_1 (s.setVm T48.vm) m #[(.int p1), (.int p2), (.int p3), (.int p4)] below meth c T locs 3 70 → T.heap = h → OW Z s consts_1 T48.vm h → Keep h51 h [b] → Arv Z h b k51 .char N ((own_T (own_lit (p1 &&& (3 : Int32))) mm i0 ch).map Value.int) (.int (0 : Int32)) → Fr n0 locs → n0 ≤ h.size → (own_T (own_lit (p1 &&& (3 : Int32))) mm i0 ch).length ≤ 13 → OGo p e below (T.setTop (mkF m 456 #[.val (.int p1), .val (.int p2), .val (.int p3), .val (.int p4), .val (.int (p1 &&& (3 : Int32))), .val (.int mm), .val (.ref x), .val (.int (Int32.ofNat (own_lit (p1 &&& (3 : Int32))).length)), .val (.int (Int32.ofNat i0)), .val (.int ch), .val (.int N), .val (.ref b), .unset, .unset, .unset] [])) (OEndW s Z consts_1 (fun v h L => v = some (.int (1 : Int32)) ∧ Fr n0 L) room_1.cells room_1.slots) := by
      intro T locs h XT eT OWT KT VT NT ZT hle
      show OGo p e below (T.setTop (mkF m 456 #[.val (.int p1), .val (.int p2), .val (.int p3), .val (.int p4), .val (.int (p1 &&& (3 : Int32))), .val (.int mm), .val (.ref x), .val (.int (Int32.ofNat (own_lit (p1 &&& (3 : Int32))).length)), .val (.int (Int32.ofNat i0)), .val (.int ch), .val (.int N), .val (.ref b), .unset, .unset, .unset] [])) _
      refine OGo.step (fun _ kk => XS.iload XT.here hx rfl (hb hby at_456) rfl kk) ?_
      show OGo p e below (T.setTop (mkF m 458 #[.val (.int p1), .val (.int p2), .val (.int p3), .val (.int p4), .val (.int (p1 &&& (3 : Int32))), .val (.int mm), .val (.ref x), .val (.int (Int32.ofNat (own_lit (p1 &&& (3 : Int32))).length)), .val (.int (Int32.ofNat i0)), .val (.int ch), .val (.int N), .val (.ref b), .unset, .unset, .unset] [(.int N)])) _
      refine OGo.step (fun _ kk => XS.bipush XT.here hx rfl (hb hby at_458) kk) ?_
      show OGo p e below (T.setTop (mkF m 460 #[.val (.int p1), .val (.int p2), .val (.int p3), .val (.int p4), .val (.int (p1 &&& (3 : Int32))), .val (.int mm), .val (.ref x), .val (.int (Int32.ofNat (own_lit (p1 &&& (3 : Int32))).length)), .val (.int (Int32.ofNat i0)), .val (.int ch), .val (.int N), .val (.ref b), .unset, .unset, .unset] [(.int (13 : Int32)), (.int N)])) _
      refine OGo.step (fun _ kk => XS.icmpYes XT.here hx rfl (pc0 := 460) (pc' := 483) rfl (hb hby at_460) rfl (flt (by rw [hN]; exact own_nlt14 13 (by decide) _ hT.1 hle)).2.2.2 (by decide) (by decide) kk) ?_
      show OGo p e below (T.setTop (mkF m 483 #[.val (.int p1), .val (.int p2), .val (.int p3), .val (.int p4), .val (.int (p1 &&& (3 : Int32))), .val (.int mm), .val (.ref x), .val (.int (Int32.ofNat (own_lit (p1 &&& (3 : Int32))).length)), .val (.int (Int32.ofNat i0)), .val (.int ch), .val (.int N), .val (.ref b), .unset, .unset, .unset] [])) _
      exact S_14 T locs h XT eT OWT KT VT NT ZT (Nat.le_succ_of_le hle)
    have S_12 : ∀ (T : State) (locs : List Loc) (h : Heap), Stand p l e room_1 (s.setVm T48.vm) m #[(.int p1), (.int p2), (.int p3), (.int p4)] below meth c T locs 3 70 → T.heap = h → OW Z s consts_1 T48.vm h → Keep h51 h [b] → Arv Z h b k51 .char N ((own_T (own_lit (p1 &&& (3 : Int32))) mm i0 ch).map Value.int) (.int (0 : Int32)) → Fr n0 locs → n0 ≤ h.size → (own_T (own_lit (p1 &&& (3 : Int32))) mm i0 ch).length ≤ 12 → OGo p e below (T.setTop (mkF m 429 #[.val (.int p1), .val (.int p2), .val (.int p3), .val (.int p4), .val (.int (p1 &&& (3 : Int32))), .val (.int mm), .val (.ref x), .val (.int (Int32.ofNat (own_lit (p1 &&& (3 : Int32))).length)), .val (.int (Int32.ofNat i0)), .val (.int ch), .val (.int N), .val (.ref b), .unset, .unset, .unset] [])) (OEndW s Z consts_1 (fun v h L => v = some (.int (1 : Int32)) ∧ Fr n0 L) room_1.cells room_1.slots) := by
      intro T locs h XT eT OWT KT VT NT ZT hle
      show OGo p e below (T.setTop (mkF m 429 #[.val (.int p1), .val (.int p2), .val (.int p3), .val (.int p4), .val (.int (p1 &&& (3 : Int32))), .val (.int mm), .val (.ref x), .val (.int (Int32.ofNat (own_lit (p1 &&& (3 : Int32))).length)), .val (.int (Int32.ofNat i0)), .val (.int ch), .val (.int N), .val (.ref b), .unset, .unset, .unset] [])) _
      refine OGo.step (fun _ kk => XS.iload XT.here hx rfl (hb hby at_429) rfl kk) ?_
      show OGo p e below (T.setTop (mkF m 431 #[.val (.int p1), .val (.int p2), .val (.int p3), .val (.int p4), .val (.int (p1 &&& (3 : Int32))), .val (.int mm), .val (.ref x), .val (.int (Int32.ofNat (own_lit (p1 &&& (3 : Int32))).length)), .val (.int (Int32.ofNat i0)), .val (.int ch), .val (.int N), .val (.ref b), .unset, .unset, .unset] [(.int N)])) _
      refine OGo.step (fun _ kk => XS.bipush XT.here hx rfl (hb hby at_431) kk) ?_
      show OGo p e below (T.setTop (mkF m 433 #[.val (.int p1), .val (.int p2), .val (.int p3), .val (.int p4), .val (.int (p1 &&& (3 : Int32))), .val (.int mm), .val (.ref x), .val (.int (Int32.ofNat (own_lit (p1 &&& (3 : Int32))).length)), .val (.int (Int32.ofNat i0)), .val (.int ch), .val (.int N), .val (.ref b), .unset, .unset, .unset] [(.int (12 : Int32)), (.int N)])) _
      refine OGo.step (fun _ kk => XS.icmpYes XT.here hx rfl (pc0 := 433) (pc' := 456) rfl (hb hby at_433) rfl (flt (by rw [hN]; exact own_nlt14 12 (by decide) _ hT.1 hle)).2.2.2 (by decide) (by decide) kk) ?_
      show OGo p e below (T.setTop (mkF m 456 #[.val (.int p1), .val (.int p2), .val (.int p3), .val (.int p4), .val (.int (p1 &&& (3 : Int32))), .val (.int mm), .val (.ref x), .val (.int (Int32.ofNat (own_lit (p1 &&& (3 : Int32))).length)), .val (.int (Int32.ofNat i0)), .val (.int ch), .val (.int N), .val (.ref b), .unset, .unset, .unset] [])) _
      exact S_13 T locs h XT eT OWT KT VT NT ZT (Nat.le_succ_of_le hle)
    have S_11 : ∀ (T : State) (locs : List Loc) (h : Heap), Stand p l e room_1 (s.setVm T48.vm) m #[(.int p1), (.int p2), (.int p3), (.int p4)] below meth c T locs 3 70 → T.heap = h → OW Z s consts_1 T48.vm h → Keep h51 h [b] → Arv Z h b k51 .char N ((own_T (own_lit (p1 &&& (3 : Int32))) mm i0 ch).map Value.int) (.int (0 : Int32)) → Fr n0 locs → n0 ≤ h.size → (own_T (own_lit (p1 &&& (3 : Int32))) mm i0 ch).length ≤ 11 → OGo p e below (T.setTop (mkF m 402 #[.val (.int p1), .val (.int p2), .val (.int p3), .val (.int p4), .val (.int (p1 &&& (3 : Int32))), .val (.int mm), .val (.ref x), .val (.int (Int32.ofNat (own_lit (p1 &&& (3 : Int32))).length)), .val (.int (Int32.ofNat i0)), .val (.int ch), .val (.int N), .val (.ref b), .unset, .unset, .unset] [])) (OEndW s Z consts_1 (fun v h L => v = some (.int (1 : Int32)) ∧ Fr n0 L) room_1.cells room_1.slots) := by
      intro T locs h XT eT OWT KT VT NT ZT hle
      show OGo p e below (T.setTop (mkF m 402 #[.val (.int p1), .val (.int p2), .val (.int p3), .val (.int p4), .val (.int (p1 &&& (3 : Int32))), .val (.int mm), .val (.ref x), .val (.int (Int32.ofNat (own_lit (p1 &&& (3 : Int32))).length)), .val (.int (Int32.ofNat i0)), .val (.int ch), .val (.int N), .val (.ref b), .unset, .unset, .unset] [])) _
      refine OGo.step (fun _ kk => XS.iload XT.here hx rfl (hb hby at_402) rfl kk) ?_
      show OGo p e below (T.setTop (mkF m 404 #[.val (.int p1), .val (.int p2), .val (.int p3), .val (.int p4), .val (.int (p1 &&& (3 : Int32))), .val (.int mm), .val (.ref x), .val (.int (Int32.ofNat (own_lit (p1 &&& (3 : Int32))).length)), .val (.int (Int32.ofNat i0)), .val (.int ch), .val (.int N), .val (.ref b), .unset, .unset, .unset] [(.int N)])) _
      refine OGo.step (fun _ kk => XS.bipush XT.here hx rfl (hb hby at_404) kk) ?_
      show OGo p e below (T.setTop (mkF m 406 #[.val (.int p1), .val (.int p2), .val (.int p3), .val (.int p4), .val (.int (p1 &&& (3 : Int32))), .val (.int mm), .val (.ref x), .val (.int (Int32.ofNat (own_lit (p1 &&& (3 : Int32))).length)), .val (.int (Int32.ofNat i0)), .val (.int ch), .val (.int N), .val (.ref b), .unset, .unset, .unset] [(.int (11 : Int32)), (.int N)])) _
      refine OGo.step (fun _ kk => XS.icmpYes XT.here hx rfl (pc0 := 406) (pc' := 429) rfl (hb hby at_406) rfl (flt (by rw [hN]; exact own_nlt14 11 (by decide) _ hT.1 hle)).2.2.2 (by decide) (by decide) kk) ?_
      show OGo p e below (T.setTop (mkF m 429 #[.val (.int p1), .val (.int p2), .val (.int p3), .val (.int p4), .val (.int (p1 &&& (3 : Int32))), .val (.int mm), .val (.ref x), .val (.int (Int32.ofNat (own_lit (p1 &&& (3 : Int32))).length)), .val (.int (Int32.ofNat i0)), .val (.int ch), .val (.int N), .val (.ref b), .unset, .unset, .unset] [])) _
      exact S_12 T locs h XT eT OWT KT VT NT ZT (Nat.le_succ_of_le hle)
    have S_10 : ∀ (T : State) (locs : List Loc) (h : Heap), Stand p l e room_1 (s.setVm T48.vm) m #[(.int p1), (.int p2), (.int p3), (.int p4)] below meth c T locs 3 70 → T.heap = h → OW Z s consts_1 T48.vm h → Keep h51 h [b] → Arv Z h b k51 .char N ((own_T (own_lit (p1 &&& (3 : Int32))) mm i0 ch).map Value.int) (.int (0 : Int32)) → Fr n0 locs → n0 ≤ h.size → (own_T (own_lit (p1 &&& (3 : Int32))) mm i0 ch).length ≤ 10 → OGo p e below (T.setTop (mkF m 375 #[.val (.int p1), .val (.int p2), .val (.int p3), .val (.int p4), .val (.int (p1 &&& (3 : Int32))), .val (.int mm), .val (.ref x), .val (.int (Int32.ofNat (own_lit (p1 &&& (3 : Int32))).length)), .val (.int (Int32.ofNat i0)), .val (.int ch), .val (.int N), .val (.ref b), .unset, .unset, .unset] [])) (OEndW s Z consts_1 (fun v h L => v = some (.int (1 : Int32)) ∧ Fr n0 L) room_1.cells room_1.slots) := by
      intro T locs h XT eT OWT KT VT NT ZT hle
      show OGo p e below (T.setTop (mkF m 375 #[.val (.int p1), .val (.int p2), .val (.int p3), .val (.int p4), .val (.int (p1 &&& (3 : Int32))), .val (.int mm), .val (.ref x), .val (.int (Int32.ofNat (own_lit (p1 &&& (3 : Int32))).length)), .val (.int (Int32.ofNat i0)), .val (.int ch), .val (.int N), .val (.ref b), .unset, .unset, .unset] [])) _
      refine OGo.step (fun _ kk => XS.iload XT.here hx rfl (hb hby at_375) rfl kk) ?_
      show OGo p e below (T.setTop (mkF m 377 #[.val (.int p1), .val (.int p2), .val (.int p3), .val (.int p4), .val (.int (p1 &&& (3 : Int32))), .val (.int mm), .val (.ref x), .val (.int (Int32.ofNat (own_lit (p1 &&& (3 : Int32))).length)), .val (.int (Int32.ofNat i0)), .val (.int ch), .val (.int N), .val (.ref b), .unset, .unset, .unset] [(.int N)])) _
      refine OGo.step (fun _ kk => XS.bipush XT.here hx rfl (hb hby at_377) kk) ?_
      show OGo p e below (T.setTop (mkF m 379 #[.val (.int p1), .val (.int p2), .val (.int p3), .val (.int p4), .val (.int (p1 &&& (3 : Int32))), .val (.int mm), .val (.ref x), .val (.int (Int32.ofNat (own_lit (p1 &&& (3 : Int32))).length)), .val (.int (Int32.ofNat i0)), .val (.int ch), .val (.int N), .val (.ref b), .unset, .unset, .unset] [(.int (10 : Int32)), (.int N)])) _
      refine OGo.step (fun _ kk => XS.icmpYes XT.here hx rfl (pc0 := 379) (pc' := 402) rfl (hb hby at_379) rfl (flt (by rw [hN]; exact own_nlt14 10 (by decide) _ hT.1 hle)).2.2.2 (by decide) (by decide) kk) ?_
      show OGo p e below (T.setTop (mkF m 402 #[.val (.int p1), .val (.int p2), .val (.int p3), .val (.int p4), .val (.int (p1 &&& (3 : Int32))), .val (.int mm), .val (.ref x), .val (.int (Int32.ofNat (own_lit (p1 &&& (3 : Int32))).length)), .val (.int (Int32.ofNat i0)), .val (.int ch), .val (.int N), .val (.ref b), .unset, .unset, .unset] [])) _
      exact S_11 T locs h XT eT OWT KT VT NT ZT (Nat.le_succ_of_le hle)
    have S_9 : ∀ (T : State) (locs : List Loc) (h : Heap), Stand p l e room_1 (s.setVm T48.vm) m #[(.int p1), (.int p2), (.int p3), (.int p4)] below meth c T locs 3 70 → T.heap = h → OW Z s consts_1 T48.vm h → Keep h51 h [b] → Arv Z h b k51 .char N ((own_T (own_lit (p1 &&& (3 : Int32))) mm i0 ch).map Value.int) (.int (0 : Int32)) → Fr n0 locs → n0 ≤ h.size → (own_T (own_lit (p1 &&& (3 : Int32))) mm i0 ch).length ≤ 9 → OGo p e below (T.setTop (mkF m 348 #[.val (.int p1), .val (.int p2), .val (.int p3), .val (.int p4), .val (.int (p1 &&& (3 : Int32))), .val (.int mm), .val (.ref x), .val (.int (Int32.ofNat (own_lit (p1 &&& (3 : Int32))).length)), .val (.int (Int32.ofNat i0)), .val (.int ch), .val (.int N), .val (.ref b), .unset, .unset, .unset] [])) (OEndW s Z consts_1 (fun v h L => v = some (.int (1 : Int32)) ∧ Fr n0 L) room_1.cells room_1.slots) := by
      intro T locs h XT eT OWT KT VT NT ZT hle
      show OGo p e below (T.setTop (mkF m 348 #[.val (.int p1), .val (.int p2), .val (.int p3), .val (.int p4), .val (.int (p1 &&& (3 : Int32))), .val (.int mm), .val (.ref x), .val (.int (Int32.ofNat (own_lit (p1 &&& (3 : Int32))).length)), .val (.int (Int32.ofNat i0)), .val (.int ch), .val (.int N), .val (.ref b), .unset, .unset, .unset] [])) _
      refine OGo.step (fun _ kk => XS.iload XT.here hx rfl (hb hby at_348) rfl kk) ?_
      show OGo p e below (T.setTop (mkF m 350 #[.val (.int p1), .val (.int p2), .val (.int p3), .val (.int p4), .val (.int (p1 &&& (3 : Int32))), .val (.int mm), .val (.ref x), .val (.int (Int32.ofNat (own_lit (p1 &&& (3 : Int32))).length)), .val (.int (Int32.ofNat i0)), .val (.int ch), .val (.int N), .val (.ref b), .unset, .unset, .unset] [(.int N)])) _
      refine OGo.step (fun _ kk => XS.bipush XT.here hx rfl (hb hby at_350) kk) ?_
      show OGo p e below (T.setTop (mkF m 352 #[.val (.int p1), .val (.int p2), .val (.int p3), .val (.int p4), .val (.int (p1 &&& (3 : Int32))), .val (.int mm), .val (.ref x), .val (.int (Int32.ofNat (own_lit (p1 &&& (3 : Int32))).length)), .val (.int (Int32.ofNat i0)), .val (.int ch), .val (.int N), .val (.ref b), .unset, .unset, .unset] [(.int (9 : Int32)), (.int N)])) _
      refine OGo.step (fun _ kk => XS.icmpYes XT.here hx rfl (pc0 := 352) (pc' := 375) rfl (hb hby at_352) rfl (flt (by rw [hN]; exact own_nlt14 9 (by decide) _ hT.1 hle)).2.2.2 (by decide) (by decide) kk) ?_
      show OGo p e below (T.setTop (mkF m 375 #[.val (.int p1), .val (.int p2), .val (.int p3), .val (.int p4), .val (.int (p1 &&& (3 : Int32))), .val (.int mm), .val (.ref x), .val (.int (Int32.ofNat (own_lit (p1 &&& (3 : Int32))).length)), .val (.int (Int32.ofNat i0)), .val (.int ch), .val (.int N), .val (.ref b), .unset, .unset, .unset] [])) _
      exact S_10 T locs h XT eT OWT KT VT NT ZT (Nat.le_succ_of_le hle)
    have S_8 : ∀ (T : State) (locs : List Loc) (h : Heap), Stand p l e room_1 (s.setVm T48.vm) m #[(.int p1), (.int p2), (.int p3), (.int p4)] below meth c T locs 3 70 → T.heap = h → OW Z s consts_1 T48.vm h → Keep h51 h [b] → Arv Z h b k51 .char N ((own_T (own_lit (p1 &&& (3 : Int32))) mm i0 ch).map Value.int) (.int (0 : Int32)) → Fr n0 locs → n0 ≤ h.size → (own_T (own_lit (p1 &&& (3 : Int32))) mm i0 ch).length ≤ 8 → OGo p e below (T.setTop (mkF m 321 #[.val (.int p1), .val (.int p2), .val (.int p3), .val (.int p4), .val (.int (p1 &&& (3 : Int32))), .val (.int mm), .val (.ref x), .val (.int (Int32.ofNat (own_lit (p1 &&& (3 : Int32))).length)), .val (.int (Int32.ofNat i0)), .val (.int ch), .val (.int N), .val (.ref b), .unset, .unset, .unset] [])) (OEndW s Z consts_1 (fun v h L => v = some (.int (1 : Int32)) ∧ Fr n0 L) room_1.cells room_1.slots) := by
      intro T locs h XT eT OWT KT VT NT ZT hle
      show OGo p e below (T.setTop (mkF m 321 #[.val (.int p1), .val (.int p2), .val (.int p3), .val (.int p4), .val (.int (p1 &&& (3 : Int32))), .val (.int mm), .val (.ref x), .val (.int (Int32.ofNat (own_lit (p1 &&& (3 : Int32))).length)), .val (.int (Int32.ofNat i0)), .val (.int ch), .val (.int N), .val (.ref b), .unset, .unset, .unset] [])) _
      refine OGo.step (fun _ kk => XS.iload XT.here hx rfl (hb hby at_321) rfl kk) ?_
      show OGo p e below (T.setTop (mkF m 323 #[.val (.int p1), .val (.int p2), .val (.int p3), .val (.int p4), .val (.int (p1 &&& (3 : Int32))), .val (.int mm), .val (.ref x), .val (.int (Int32.ofNat (own_lit (p1 &&& (3 : Int32))).length)), .val (.int (Int32.ofNat i0)), .val (.int ch), .val (.int N), .val (.ref b), .unset, .unset, .unset] [(.int N)])) _
      refine OGo.step (fun _ kk => XS.bipush XT.here hx rfl (hb hby at_323) kk) ?_
      show OGo p e below (T.setTop (mkF m 325 #[.val (.int p1), .val (.int p2), .val (.int p3), .val (.int p4), .val (.int (p1 &&& (3 : Int32))), .val (.int mm), .val (.ref x), .val (.int (Int32.ofNat (own_lit (p1 &&& (3 : Int32))).length)), .val (.int (Int32.ofNat i0)), .val (.int ch), .val (.int N), .val (.ref b), .unset, .unset, .unset] [(.int (8 : Int32)), (.int N)])) _
      refine OGo.step (fun _ kk => XS.icmpYes XT.here hx rfl (pc0 := 325) (pc' := 348) rfl (hb hby at_325) rfl (flt (by rw [hN]; exact own_nlt14 8 (by decide) _ hT.1 hle)).2.2.2 (by decide) (by decide) kk) ?_
      show OGo p e below (T.setTop (mkF m 348 #[.val (.int p1), .val (.int p2), .val (.int p3), .val (.int p4), .val (.int (p1 &&& (3 : Int32))), .val (.int mm), .val (.ref x), .val (.int (Int32.ofNat (own_lit (p1 &&& (3 : Int32))).length)), .val (.int (Int32.ofNat i0)), .val (.int ch), .val (.int N), .val (.ref b), .unset, .unset, .unset] [])) _
      exact S_9 T locs h XT eT OWT KT VT NT ZT (Nat.le_succ_of_le hle)
    have S_7 : ∀ (T : State) (locs : List Loc) (h : Heap), Stand p l e room_1 (s.setVm T48.vm) m #[(.int p1), (.int p2), (.int p3), (.int p4)] below meth c T locs 3 70 → T.heap = h → OW Z s consts_1 T48.vm h → Keep h51 h [b] → Arv Z h b k51 .char N ((own_T (own_lit (p1 &&& (3 : Int32))) mm i0 ch).map Value.int) (.int (0 : Int32)) → Fr n0 locs → n0 ≤ h.size → (own_T (own_lit (p1 &&& (3 : Int32))) mm i0 ch).length ≤ 7 → OGo p e below (T.setTop (mkF m 294 #[.val (.int p1), .val (.int p2), .val (.int p3), .val (.int p4), .val (.int (p1 &&& (3 : Int32))), .val (.int mm), .val (.ref x), .val (.int (Int32.ofNat (own_lit (p1 &&& (3 : Int32))).length)), .val (.int (Int32.ofNat i0)), .val (.int ch), .val (.int N), .val (.ref b), .unset, .unset, .unset] [])) (OEndW s Z consts_1 (fun v h L => v = some (.int (1 : Int32)) ∧ Fr n0 L) room_1.cells room_1.slots) := by
      intro T locs h XT eT OWT KT VT NT ZT hle
      show OGo p e below (T.setTop (mkF m 294 #[.val (.int p1), .val (.int p2), .val (.int p3), .val (.int p4), .val (.int (p1 &&& (3 : Int32))), .val (.int mm), .val (.ref x), .val (.int (Int32.ofNat (own_lit (p1 &&& (3 : Int32))).length)), .val (.int (Int32.ofNat i0)), .val (.int ch), .val (.int N), .val (.ref b), .unset, .unset, .unset] [])) _
      refine OGo.step (fun _ kk => XS.iload XT.here hx rfl (hb hby at_294) rfl kk) ?_
      show OGo p e below (T.setTop (mkF m 296 #[.val (.int p1), .val (.int p2), .val (.int p3), .val (.int p4), .val (.int (p1 &&& (3 : Int32))), .val (.int mm), .val (.ref x), .val (.int (Int32.ofNat (own_lit (p1 &&& (3 : Int32))).length)), .val (.int (Int32.ofNat i0)), .val (.int ch), .val (.int N), .val (.ref b), .unset, .unset, .unset] [(.int N)])) _
      refine OGo.step (fun _ kk => XS.bipush XT.here hx rfl (hb hby at_296) kk) ?_
      show OGo p e below (T.setTop (mkF m 298 #[.val (.int p1), .val (.int p2), .val (.int p3), .val (.int p4), .val (.int (p1 &&& (3 : Int32))), .val (.int mm), .val (.ref x), .val (.int (Int32.ofNat (own_lit (p1 &&& (3 : Int32))).length)), .val (.int (Int32.ofNat i0)), .val (.int ch), .val (.int N), .val (.ref b), .unset, .unset, .unset] [(.int (7 : Int32)), (.int N)])) _
      refine OGo.step (fun _ kk => XS.icmpYes XT.here hx rfl (pc0 := 298) (pc' := 321) rfl (hb hby at_298) rfl (flt (by rw [hN]; exact own_nlt14 7 (by decide) _ hT.1 hle)).2.2.2 (by decide) (by decide) kk) ?_
      show OGo p e below (T.setTop (mkF m 321 #[.val (.int p1), .val (.int p2), .val (.int p3), .val (.int p4), .val (.int (p1 &&& (3 : Int32))), .val (.int mm), .val (.ref x), .val (.int (Int32.ofNat (own_lit (p1 &&& (3 : Int32))).length)), .val (.int (Int32.ofNat i0)), .val (.int ch), .val (.int N), .val (.ref b), .unset, .unset, .unset] [])) _
      exact S_8 T locs h XT eT OWT KT VT NT ZT (Nat.le_succ_of_le hle)
    have S_6 : ∀ (T : State) (locs : List Loc) (h : Heap), Stand p l e room_1 (s.setVm T48.vm) m #[(.int p1), (.int p2), (.int p3), (.int p4)] below meth c T locs 3 70 → T.heap = h → OW Z s consts_1 T48.vm h → Keep h51 h [b] → Arv Z h b k51 .char N ((own_T (own_lit (p1 &&& (3 : Int32))) mm i0 ch).map Value.int) (.int (0 : Int32)) → Fr n0 locs → n0 ≤ h.size → (own_T (own_lit (p1 &&& (3 : Int32))) mm i0 ch).length ≤ 6 → OGo p e below (T.setTop (mkF m 267 #[.val (.int p1), .val (.int p2), .val (.int p3), .val (.int p4), .val (.int (p1 &&& (3 : Int32))), .val (.int mm), .val (.ref x), .val (.int (Int32.ofNat (own_lit (p1 &&& (3 : Int32))).length)), .val (.int (Int32.ofNat i0)), .val (.int ch), .val (.int N), .val (.ref b), .unset, .unset, .unset] [])) (OEndW s Z consts_1 (fun v h L => v = some (.int (1 : Int32)) ∧ Fr n0 L) room_1.cells room_1.slots) := by
      intro T locs h XT eT OWT KT VT NT ZT hle
      show OGo p e below (T.setTop (mkF m 267 #[.val (.int p1), .val (.int p2), .val (.int p3), .val (.int p4), .val (.int (p1 &&& (3 : Int32))), .val (.int mm), .val (.ref x), .val (.int (Int32.ofNat (own_lit (p1 &&& (3 : Int32))).length)), .val (.int (Int32.ofNat i0)), .val (.int ch), .val (.int N), .val (.ref b), .unset, .unset, .unset] [])) _
      refine OGo.step (fun _ kk => XS.iload XT.here hx rfl (hb hby at_267) rfl kk) ?_
      show OGo p e below (T.setTop (mkF m 269 #[.val (.int p1), .val (.int p2), .val (.int p3), .val (.int p4), .val (.int (p1 &&& (3 : Int32))), .val (.int mm), .val (.ref x), .val (.int (Int32.ofNat (own_lit (p1 &&& (3 : Int32))).length)), .val (.int (Int32.ofNat i0)), .val (.int ch), .val (.int N), .val (.ref b), .unset, .unset, .unset] [(.int N)])) _
      refine OGo.step (fun _ kk => XS.bipush XT.here hx rfl (hb hby at_269) kk) ?_
      show OGo p e below (T.setTop (mkF m 271 #[.val (.int p1), .val (.int p2), .val (.int p3), .val (.int p4), .val (.int (p1 &&& (3 : Int32))), .val (.int mm), .val (.ref x), .val (.int (Int32.ofNat (own_lit (p1 &&& (3 : Int32))).length)), .val (.int (Int32.ofNat i0)), .val (.int ch), .val (.int N), .val (.ref b), .unset, .unset, .unset] [(.int (6 : Int32)), (.int N)])) _
      refine OGo.step (fun _ kk => XS.icmpYes XT.here hx rfl (pc0 := 271) (pc' := 294) rfl (hb hby at_271) rfl (flt (by rw [hN]; exact own_nlt14 6 (by decide) _ hT.1 hle)).2.2.2 (by decide) (by decide) kk) ?_
      show OGo p e below (T.setTop (mkF m 294 #[.val (.int p1), .val (.int p2), .val (.int p3), .val (.int p4), .val (.int (p1 &&& (3 : Int32))), .val (.int mm), .val (.ref x), .val (.int (Int32.ofNat (own_lit (p1 &&& (3 : Int32))).length)), .val (.int (Int32.ofNat i0)), .val (.int ch), .val (.int N), .val (.ref b), .unset, .unset, .unset] [])) _
      exact S_7 T locs h XT eT OWT KT VT NT ZT (Nat.le_succ_of_le hle)
    have S_5 : ∀ (T : State) (locs : List Loc) (h : Heap), Stand p l e room_1 (s.setVm T48.vm) m #[(.int p1), (.int p2), (.int p3), (.int p4)] below meth c T locs 3 70 → T.heap = h → OW Z s consts_1 T48.vm h → Keep h51 h [b] → Arv Z h b k51 .char N ((own_T (own_lit (p1 &&& (3 : Int32))) mm i0 ch).map Value.int) (.int (0 : Int32)) → Fr n0 locs → n0 ≤ h.size → (own_T (own_lit (p1 &&& (3 : Int32))) mm i0 ch).length ≤ 5 → OGo p e below (T.setTop (mkF m 243 #[.val (.int p1), .val (.int p2), .val (.int p3), .val (.int p4), .val (.int (p1 &&& (3 : Int32))), .val (.int mm), .val (.ref x), .val (.int (Int32.ofNat (own_lit (p1 &&& (3 : Int32))).length)), .val (.int (Int32.ofNat i0)), .val (.int ch), .val (.int N), .val (.ref b), .unset, .unset, .unset] [])) (OEndW s Z consts_1 (fun v h L => v = some (.int (1 : Int32)) ∧ Fr n0 L) room_1.cells room_1.slots) := by
      intro T locs h XT eT OWT KT VT NT ZT hle
      show OGo p e below (T.setTop (mkF m 243 #[.val (.int p1), .val (.int p2), .val (.int p3), .val (.int p4), .val (.int (p1 &&& (3 : Int32))), .val (.int mm), .val (.ref x), .val (.int (Int32.ofNat (own_lit (p1 &&& (3 : Int32))).length)), .val (.int (Int32.ofNat i0)), .val (.int ch), .val (.int N), .val (.ref b), .unset, .unset, .unset] [])) _
      refine OGo.step (fun _ kk => XS.iload XT.here hx rfl (hb hby at_243) rfl kk) ?_
      show OGo p e below (T.setTop (mkF m 245 #[.val (.int p1), .val (.int p2), .val (.int p3), .val (.int p4), .val (.int (p1 &&& (3 : Int32))), .val (.int mm), .val (.ref x), .val (.int (Int32.ofNat (own_lit (p1 &&& (3 : Int32))).length)), .val (.int (Int32.ofNat i0)), .val (.int ch), .val (.int N), .val (.ref b), .unset, .unset, .unset] [(.int N)])) _
      refine OGo.step (fun _ kk => XS.iconst XT.here hx rfl (hb hby at_245) kk) ?_
      show OGo p e below (T.setTop (mkF m 246 #[.val (.int p1), .val (.int p2), .val (.int p3), .val (.int p4), .val (.int (p1 &&& (3 : Int32))), .val (.int mm), .val (.ref x), .val (.int (Int32.ofNat (own_lit (p1 &&& (3 : Int32))).length)), .val (.int (Int32.ofNat i0)), .val (.int ch), .val (.int N), .val (.ref b), .unset, .unset, .unset] [(.int (5 : Int32)), (.int N)])) _
      refine OGo.step (fun _ kk => XS.icmpYes XT.here hx rfl (pc0 := 246) (pc' := 267) rfl (hb hby at_246) rfl (flt (by rw [hN]; exact own_nlt14 5 (by decide) _ hT.1 hle)).2.2.2 (by decide) (by decide) kk) ?_
      show OGo p e below (T.setTop (mkF m 267 #[.val (.int p1), .val (.int p2), .val (.int p3), .val (.int p4), .val (.int (p1 &&& (3 : Int32))), .val (.int mm), .val (.ref x), .val (.int (Int32.ofNat (own_lit (p1 &&& (3 : Int32))).length)), .val (.int (Int32.ofNat i0)), .val (.int ch), .val (.int N), .val (.ref b), .unset, .unset, .unset] [])) _
      exact S_6 T locs h XT eT OWT KT VT NT ZT (Nat.le_succ_of_le hle)
    have S_4 : ∀ (T : State) (locs : List Loc) (h : Heap), Stand p l e room_1 (s.setVm T48.vm) m #[(.int p1), (.int p2), (.int p3), (.int p4)] below meth c T locs 3 70 → T.heap = h → OW Z s consts_1 T48.vm h → Keep h51 h [b] → Arv Z h b k51 .char N ((own_T (own_lit (p1 &&& (3 : Int32))) mm i0 ch).map Value.int) (.int (0 : Int32)) → Fr n0 locs → n0 ≤ h.size → (own_T (own_lit (p1 &&& (3 : Int32))) mm i0 ch).length ≤ 4 → OGo p e below (T.setTop (mkF m 219 #[.val (.int p1), .val (.int p2), .val (.int p3), .val (.int p4), .val (.int (p1 &&& (3 : Int32))), .val (.int mm), .val (.ref x), .val (.int (Int32.ofNat (own_lit (p1 &&& (3 : Int32))).length)), .val (.int (Int32.ofNat i0)), .val (.int ch), .val (.int N), .val (.ref b), .unset, .unset, .unset] [])) (OEndW s Z consts_1 (fun v h L => v = some (.int (1 : Int32)) ∧ Fr n0 L) room_1.cells room_1.slots) := by
      intro T locs h XT eT OWT KT VT NT ZT hle
      show OGo p e below (T.setTop (mkF m 219 #[.val (.int p1), .val (.int p2), .val (.int p3), .val (.int p4), .val (.int (p1 &&& (3 : Int32))), .val (.int mm), .val (.ref x), .val (.int (Int32.ofNat (own_lit (p1 &&& (3 : Int32))).length)), .val (.int (Int32.ofNat i0)), .val (.int ch), .val (.int N), .val (.ref b), .unset, .unset, .unset] [])) _
      refine OGo.step (fun _ kk => XS.iload XT.here hx rfl (hb hby at_219) rfl kk) ?_
      show OGo p e below (T.setTop (mkF m 221 #[.val (.int p1), .val (.int p2), .val (.int p3), .val (.int p4), .val (.int (p1 &&& (3 : Int32))), .val (.int mm), .val (.ref x), .val (.int (Int32.ofNat (own_lit (p1 &&& (3 : Int32))).length)), .val (.int (Int32.ofNat i0)), .val (.int ch), .val (.int N), .val (.ref b), .unset, .unset, .unset] [(.int N)])) _
      refine OGo.step (fun _ kk => XS.iconst XT.here hx rfl (hb hby at_221) kk) ?_
      show OGo p e below (T.setTop (mkF m 222 #[.val (.int p1), .val (.int p2), .val (.int p3), .val (.int p4), .val (.int (p1 &&& (3 : Int32))), .val (.int mm), .val (.ref x), .val (.int (Int32.ofNat (own_lit (p1 &&& (3 : Int32))).length)), .val (.int (Int32.ofNat i0)), .val (.int ch), .val (.int N), .val (.ref b), .unset, .unset, .unset] [(.int (4 : Int32)), (.int N)])) _
      refine OGo.step (fun _ kk => XS.icmpYes XT.here hx rfl (pc0 := 222) (pc' := 243) rfl (hb hby at_222) rfl (flt (by rw [hN]; exact own_nlt14 4 (by decide) _ hT.1 hle)).2.2.2 (by decide) (by decide) kk) ?_
      show OGo p e below (T.setTop (mkF m 243 #[.val (.int p1), .val (.int p2), .val (.int p3), .val (.int p4), .val (.int (p1 &&& (3 : Int32))), .val (.int mm), .val (.ref x), .val (.int (Int32.ofNat (own_lit (p1 &&& (3 : Int32))).length)), .val (.int (Int32.ofNat i0)), .val (.int ch), .val (.int N), .val (.ref b), .unset, .unset, .unset] [])) _
      exact S_5 T locs h XT eT OWT KT VT NT ZT (Nat.le_succ_of_le hle)
    have S_3 : ∀ (T : State) (locs : List Loc) (h : Heap), Stand p l e room_1 (s.setVm T48.vm) m #[(.int p1), (.int p2), (.int p3), (.int p4)] below meth c T locs 3 70 → T.heap = h → OW Z s consts_1 T48.vm h → Keep h51 h [b] → Arv Z h b k51 .char N ((own_T (own_lit (p1 &&& (3 : Int32))) mm i0 ch).map Value.int) (.int (0 : Int32)) → Fr n0 locs → n0 ≤ h.size → (own_T (own_lit (p1 &&& (3 : Int32))) mm i0 ch).length ≤ 3 → OGo p e below (T.setTop (mkF m 195 #[.val (.int p1), .val (.int p2), .val (.int p3), .val (.int p4), .val (.int (p1 &&& (3 : Int32))), .val (.int mm), .val (.ref x), .val (.int (Int32.ofNat (own_lit (p1 &&& (3 : Int32))).length)), .val (.int (Int32.ofNat i0)), .val (.int ch), .val (.int N), .val (.ref b), .unset, .unset, .unset] [])) (OEndW s Z consts_1 (fun v h L => v = some (.int (1 : Int32)) ∧ Fr n0 L) room_1.cells room_1.slots) := by
      intro T locs h XT eT OWT KT VT NT ZT hle
      show OGo p e below (T.setTop (mkF m 195 #[.val (.int p1), .val (.int p2), .val (.int p3), .val (.int p4), .val (.int (p1 &&& (3 : Int32))), .val (.int mm), .val (.ref x), .val (.int (Int32.ofNat (own_lit (p1 &&& (3 : Int32))).length)), .val (.int (Int32.ofNat i0)), .val (.int ch), .val (.int N), .val (.ref b), .unset, .unset, .unset] [])) _
      refine OGo.step (fun _ kk => XS.iload XT.here hx rfl (hb hby at_195) rfl kk) ?_
      show OGo p e below (T.setTop (mkF m 197 #[.val (.int p1), .val (.int p2), .val (.int p3), .val (.int p4), .val (.int (p1 &&& (3 : Int32))), .val (.int mm), .val (.ref x), .val (.int (Int32.ofNat (own_lit (p1 &&& (3 : Int32))).length)), .val (.int (Int32.ofNat i0)), .val (.int ch), .val (.int N), .val (.ref b), .unset, .unset, .unset] [(.int N)])) _
      refine OGo.step (fun _ kk => XS.iconst XT.here hx rfl (hb hby at_197) kk) ?_
      show OGo p e below (T.setTop (mkF m 198 #[.val (.int p1), .val (.int p2), .val (.int p3), .val (.int p4), .val (.int (p1 &&& (3 : Int32))), .val (.int mm), .val (.ref x), .val (.int (Int32.ofNat (own_lit (p1 &&& (3 : Int32))).length)), .val (.int (Int32.ofNat i0)), .val (.int ch), .val (.int N), .val (.ref b), .unset, .unset, .unset] [(.int (3 : Int32)), (.int N)])) _
      refine OGo.step (fun _ kk => XS.icmpYes XT.here hx rfl (pc0 := 198) (pc' := 219) rfl (hb hby at_198) rfl (flt (by rw [hN]; exact own_nlt14 3 (by decide) _ hT.1 hle)).2.2.2 (by decide) (by decide) kk) ?_
      show OGo p e below (T.setTop (mkF m 219 #[.val (.int p1), .val (.int p2), .val (.int p3), .val (.int p4), .val (.int (p1 &&& (3 : Int32))), .val (.int mm), .val (.ref x), .val (.int (Int32.ofNat (own_lit (p1 &&& (3 : Int32))).length)), .val (.int (Int32.ofNat i0)), .val (.int ch), .val (.int N), .val (.ref b), .unset, .unset, .unset] [])) _
      exact S_4 T locs h XT eT OWT KT VT NT ZT (Nat.le_succ_of_le hle)
    have S_2 : ∀ (T : State) (locs : List Loc) (h : Heap), Stand p l e room_1 (s.setVm T48.vm) m #[(.int p1), (.int p2), (.int p3), (.int p4)] below meth c T locs 3 70 → T.heap = h → OW Z s consts_1 T48.vm h → Keep h51 h [b] → Arv Z h b k51 .char N ((own_T (own_lit (p1 &&& (3 : Int32))) mm i0 ch).map Value.int) (.int (0 : Int32)) → Fr n0 locs → n0 ≤ h.size → (own_T (own_lit (p1 &&& (3 : Int32))) mm i0 ch).length ≤ 2 → OGo p e below (T.setTop (mkF m 171 #[.val (.int p1), .val (.int p2), .val (.int p3), .val (.int p4), .val (.int (p1 &&& (3 : Int32))), .val (.int mm), .val (.ref x), .val (.int (Int32.ofNat (own_lit (p1 &&& (3 : Int32))).length)), .val (.int (Int32.ofNat i0)), .val (.int ch), .val (.int N), .val (.ref b), .unset, .unset, .unset] [])) (OEndW s Z consts_1 (fun v h L => v = some (.int (1 : Int32)) ∧ Fr n0 L) room_1.cells room_1.slots) := by
      intro T locs h XT eT OWT KT VT NT ZT hle
      show OGo p e below (T.setTop (mkF m 171 #[.val (.int p1), .val (.int p2), .val (.int p3), .val (.int p4), .val (.int (p1 &&& (3 : Int32))), .val (.int mm), .val (.ref x), .val (.int (Int32.ofNat (own_lit (p1 &&& (3 : Int32))).length)), .val (.int (Int32.ofNat i0)), .val (.int ch), .val (.int N), .val (.ref b), .unset, .unset, .unset] [])) _
      refine OGo.step (fun _ kk => XS.iload XT.here hx rfl (hb hby at_171) rfl kk) ?_
      show OGo p e below (T.setTop (mkF m 173 #[.val (.int p1), .val (.int p2), .val (.int p3), .val (.int p4), .val (.int (p1 &&& (3 : Int32))), .val (.int mm), .val (.ref x), .val (.int (Int32.ofNat (own_lit (p1 &&& (3 : Int32))).length)), .val (.int (Int32.ofNat i0)), .val (.int ch), .val (.int N), .val (.ref b), .unset, .unset, .unset] [(.int N)])) _
      refine OGo.step (fun _ kk => XS.iconst XT.here hx rfl (hb hby at_173) kk) ?_
      show OGo p e below (T.setTop (mkF m 174 #[.val (.int p1), .val (.int p2), .val (.int p3), .val (.int p4), .val (.int (p1 &&& (3 : Int32))), .val (.int mm), .val (.ref x), .val (.int (Int32.ofNat (own_lit (p1 &&& (3 : Int32))).length)), .val (.int (Int32.ofNat i0)), .val (.int ch), .val (.int N), .val (.ref b), .unset, .unset, .unset] [(.int (2 : Int32)), (.int N)])) _
      refine OGo.step (fun _ kk => XS.icmpYes XT.here hx rfl (pc0 := 174) (pc' := 195) rfl (hb hby at_174) rfl (flt (by rw [hN]; exact own_nlt14 2 (by decide) _ hT.1 hle)).2.2.2 (by decide) (by decide) kk) ?_
      show OGo p e below (T.setTop (mkF m 195 #[.val (.int p1), .val (.int p2), .val (.int p3), .val (.int p4), .val (.int (p1 &&& (3 : Int32))), .val (.int mm), .val (.ref x), .val (.int (Int32.ofNat (own_lit (p1 &&& (3 : Int32))).length)), .val (.int (Int32.ofNat i0)), .val (.int ch), .val (.int N), .val (.ref b), .unset, .unset, .unset] [])) _
      exact S_3 T locs h XT eT OWT KT VT NT ZT (Nat.le_succ_of_le hle)
    have S_1 : ∀ (T : State) (locs : List Loc) (h : Heap), Stand p l e room_1 (s.setVm T48.vm) m #[(.int p1), (.int p2), (.int p3), (.int p4)] below meth c T locs 3 70 → T.heap = h → OW Z s consts_1 T48.vm h → Keep h51 h [b] → Arv Z h b k51 .char N ((own_T (own_lit (p1 &&& (3 : Int32))) mm i0 ch).map Value.int) (.int (0 : Int32)) → Fr n0 locs → n0 ≤ h.size → (own_T (own_lit (p1 &&& (3 : Int32))) mm i0 ch).length ≤ 1 → OGo p e below (T.setTop (mkF m 147 #[.val (.int p1), .val (.int p2), .val (.int p3), .val (.int p4), .val (.int (p1 &&& (3 : Int32))), .val (.int mm), .val (.ref x), .val (.int (Int32.ofNat (own_lit (p1 &&& (3 : Int32))).length)), .val (.int (Int32.ofNat i0)), .val (.int ch), .val (.int N), .val (.ref b), .unset, .unset, .unset] [])) (OEndW s Z consts_1 (fun v h L => v = some (.int (1 : Int32)) ∧ Fr n0 L) room_1.cells room_1.slots) := by
      intro T locs h XT eT OWT KT VT NT ZT hle
      show OGo p e below (T.setTop (mkF m 147 #[.val (.int p1), .val (.int p2), .val (.int p3), .val (.int p4), .val (.int (p1 &&& (3 : Int32))), .val (.int mm), .val (.ref x), .val (.int (Int32.ofNat (own_lit (p1 &&& (3 : Int32))).length)), .val (.int (Int32.ofNat i0)), .val (.int ch), .val (.int N), .val (.ref b), .unset, .unset, .unset] [])) _
      refine OGo.step (fun _ kk => XS.iload XT.here hx rfl (hb hby at_147) rfl kk) ?_
      show OGo p e below (T.setTop (mkF m 149 #[.val (.int p1), .val (.int p2), .val (.int p3), .val (.int p4), .val (.int (p1 &&& (3 : Int32))), .val (.int mm), .val (.ref x), .val (.int (Int32.ofNat (own_lit (p1 &&& (3 : Int32))).length)), .val (.int (Int32.ofNat i0)), .val (.int ch), .val (.int N), .val (.ref b), .unset, .unset, .unset] [(.int N)])) _
      refine OGo.step (fun _ kk => XS.iconst XT.here hx rfl (hb hby at_149) kk) ?_
      show OGo p e below (T.setTop (mkF m 150 #[.val (.int p1), .val (.int p2), .val (.int p3), .val (.int p4), .val (.int (p1 &&& (3 : Int32))), .val (.int mm), .val (.ref x), .val (.int (Int32.ofNat (own_lit (p1 &&& (3 : Int32))).length)), .val (.int (Int32.ofNat i0)), .val (.int ch), .val (.int N), .val (.ref b), .unset, .unset, .unset] [(.int (1 : Int32)), (.int N)])) _
      refine OGo.step (fun _ kk => XS.icmpYes XT.here hx rfl (pc0 := 150) (pc' := 171) rfl (hb hby at_150) rfl (flt (by rw [hN]; exact own_nlt14 1 (by decide) _ hT.1 hle)).2.2.2 (by decide) (by decide) kk) ?_
      show OGo p e below (T.setTop (mkF m 171 #[.val (.int p1), .val (.int p2), .val (.int p3), .val (.int p4), .val (.int (p1 &&& (3 : Int32))), .val (.int mm), .val (.ref x), .val (.int (Int32.ofNat (own_lit (p1 &&& (3 : Int32))).length)), .val (.int (Int32.ofNat i0)), .val (.int ch), .val (.int N), .val (.ref b), .unset, .unset, .unset] [])) _
      exact S_2 T locs h XT eT OWT KT VT NT ZT (Nat.le_succ_of_le hle)
    have S_0 : ∀ (T : State) (locs : List Loc) (h : Heap), Stand p l e room_1 (s.setVm T48.vm) m #[(.int p1), (.int p2), (.int p3), (.int p4)] below meth c T locs 3 70 → T.heap = h → OW Z s consts_1 T48.vm h → Keep h51 h [b] → Arv Z h b k51 .char N ((own_T (own_lit (p1 &&& (3 : Int32))) mm i0 ch).map Value.int) (.int (0 : Int32)) → Fr n0 locs → n0 ≤ h.size → (own_T (own_lit (p1 &&& (3 : Int32))) mm i0 ch).length ≤ 0 → OGo p e below (T.setTop (mkF m 124 #[.val (.int p1), .val (.int p2), .val (.int p3), .val (.int p4), .val (.int (p1 &&& (3 : Int32))), .val (.int mm), .val (.ref x), .val (.int (Int32.ofNat (own_lit (p1 &&& (3 : Int32))).length)), .val (.int (Int32.ofNat i0)), .val (.int ch), .val (.int N), .val (.ref b), .unset, .unset, .unset] [])) (OEndW s Z consts_1 (fun v h L => v = some (.int (1 : Int32)) ∧ Fr n0 L) room_1.cells room_1.slots) := by
      intro T locs h XT eT OWT KT VT NT ZT hle
      show OGo p e below (T.setTop (mkF m 124 #[.val (.int p1), .val (.int p2), .val (.int p3), .val (.int p4), .val (.int (p1 &&& (3 : Int32))), .val (.int mm), .val (.ref x), .val (.int (Int32.ofNat (own_lit (p1 &&& (3 : Int32))).length)), .val (.int (Int32.ofNat i0)), .val (.int ch), .val (.int N), .val (.ref b), .unset, .unset, .unset] [])) _
      refine OGo.step (fun _ kk => XS.iload XT.here hx rfl (hb hby at_124) rfl kk) ?_
      show OGo p e below (T.setTop (mkF m 126 #[.val (.int p1), .val (.int p2), .val (.int p3), .val (.int p4), .val (.int (p1 &&& (3 : Int32))), .val (.int mm), .val (.ref x), .val (.int (Int32.ofNat (own_lit (p1 &&& (3 : Int32))).length)), .val (.int (Int32.ofNat i0)), .val (.int ch), .val (.int N), .val (.ref b), .unset, .unset, .unset] [(.int N)])) _
      refine OGo.step (fun _ kk => XS.ifYes XT.here hx rfl (pc0 := 126) (pc' := 147) rfl (hb hby at_126) rfl ((if0 _ _).trans (flt (by rw [hN]; exact own_nlt14 0 (by decide) _ hT.1 hle)).2.2.2) (by decide) (by decide) kk) ?_
      show OGo p e below (T.setTop (mkF m 147 #[.val (.int p1), .val (.int p2), .val (.int p3), .val (.int p4), .val (.int (p1 &&& (3 : Int32))), .val (.int mm), .val (.ref x), .val (.int (Int32.ofNat (own_lit (p1 &&& (3 : Int32))).length)), .val (.int (Int32.ofNat i0)), .val (.int ch), .val (.int N), .val (.ref b), .unset, .unset, .unset] [])) _
      exact S_1 T locs h XT eT OWT KT VT NT ZT (Nat.le_succ_of_le hle)
    refine OGo.step (fun _ kk => XS.iload X51.here hx rfl (hb hby at_124) rfl kk) ?_
    show OGo p e below (T51.setTop (mkF m 126 #[.val (.int p1), .val (.int p2), .val (.int p3), .val (.int p4), .val (.int (p1 &&& (3 : Int32))), .val (.int mm), .val (.ref x), .val (.int (Int32.ofNat (own_lit (p1 &&& (3 : Int32))).length)), .val (.int (Int32.ofNat i0)), .val (.int ch), .val (.int N), .val (.ref b), .unset, .unset, .unset] [(.int N)])) _
    by_cases hf0 : (0 : Int32) < N
    · refine OGo.step (fun _ kk => XS.ifNo X51.here hx rfl (hb hby at_126) rfl ((if0 _ _).trans (tlt hf0).2.2.2) kk) ?_
      show OGo p e below (T51.setTop (mkF m 129 #[.val (.int p1), .val (.int p2), .val (.int p3), .val (.int p4), .val (.int (p1 &&& (3 : Int32))), .val (.int mm), .val (.ref x), .val (.int (Int32.ofNat (own_lit (p1 &&& (3 : Int32))).length)), .val (.int (Int32.ofNat i0)), .val (.int ch), .val (.int N), .val (.ref b), .unset, .unset, .unset] [])) _
      have hk0 := own_lt14 0 (by decide) _ hT.1 (by rw [← hN]; exact hf0)
      refine OGo.step (fun _ kk => XS.aload X51.here hx rfl (hb hby at_129) rfl rfl kk) ?_
      show OGo p e below (T51.setTop (mkF m 131 #[.val (.int p1), .val (.int p2), .val (.int p3), .val (.int p4), .val (.int (p1 &&& (3 : Int32))), .val (.int mm), .val (.ref x), .val (.int (Int32.ofNat (own_lit (p1 &&& (3 : Int32))).length)), .val (.int (Int32.ofNat i0)), .val (.int ch), .val (.int N), .val (.ref b), .unset, .unset, .unset] [(.ref b)])) _
      refine OGo.step (fun _ kk => XS.iconst X51.here hx rfl (hb hby at_131) kk) ?_
      show OGo p e below (T51.setTop (mkF m 132 #[.val (.int p1), .val (.int p2), .val (.int p3), .val (.int p4), .val (.int (p1 &&& (3 : Int32))), .val (.int mm), .val (.ref x), .val (.int (Int32.ofNat (own_lit (p1 &&& (3 : Int32))).length)), .val (.int (Int32.ofNat i0)), .val (.int ch), .val (.int N), .val (.ref b), .unset, .unset, .unset] [(.int (0 : Int32)), (.ref b)])) _
      refine OGo.step (fun _ kk => XS.aload X51.here hx rfl (hb hby at_132) rfl rfl kk) ?_
      show OGo p e below (T51.setTop (mkF m 134 #[.val (.int p1), .val (.int p2), .val (.int p3), .val (.int p4), .val (.int (p1 &&& (3 : Int32))), .val (.int mm), .val (.ref x), .val (.int (Int32.ofNat (own_lit (p1 &&& (3 : Int32))).length)), .val (.int (Int32.ofNat i0)), .val (.int ch), .val (.int N), .val (.ref b), .unset, .unset, .unset] [(.ref x), (.int (0 : Int32)), (.ref b)])) _
      refine OGo.step (fun _ kk => XS.iload X51.here hx rfl (hb hby at_134) rfl kk) ?_
      show OGo p e below (T51.setTop (mkF m 136 #[.val (.int p1), .val (.int p2), .val (.int p3), .val (.int p4), .val (.int (p1 &&& (3 : Int32))), .val (.int mm), .val (.ref x), .val (.int (Int32.ofNat (own_lit (p1 &&& (3 : Int32))).length)), .val (.int (Int32.ofNat i0)), .val (.int ch), .val (.int N), .val (.ref b), .unset, .unset, .unset] [(.int (Int32.ofNat (own_lit (p1 &&& (3 : Int32))).length)), (.ref x), (.int (0 : Int32)), (.ref b)])) _
      refine OGo.step (fun _ kk => XS.iload X51.here hx rfl (hb hby at_136) rfl kk) ?_
      show OGo p e below (T51.setTop (mkF m 138 #[.val (.int p1), .val (.int p2), .val (.int p3), .val (.int p4), .val (.int (p1 &&& (3 : Int32))), .val (.int mm), .val (.ref x), .val (.int (Int32.ofNat (own_lit (p1 &&& (3 : Int32))).length)), .val (.int (Int32.ofNat i0)), .val (.int ch), .val (.int N), .val (.ref b), .unset, .unset, .unset] [(.int mm), (.int (Int32.ofNat (own_lit (p1 &&& (3 : Int32))).length)), (.ref x), (.int (0 : Int32)), (.ref b)])) _
      refine OGo.step (fun _ kk => XS.iload X51.here hx rfl (hb hby at_138) rfl kk) ?_
      show OGo p e below (T51.setTop (mkF m 140 #[.val (.int p1), .val (.int p2), .val (.int p3), .val (.int p4), .val (.int (p1 &&& (3 : Int32))), .val (.int mm), .val (.ref x), .val (.int (Int32.ofNat (own_lit (p1 &&& (3 : Int32))).length)), .val (.int (Int32.ofNat i0)), .val (.int ch), .val (.int N), .val (.ref b), .unset, .unset, .unset] [(.int (Int32.ofNat i0)), (.int mm), (.int (Int32.ofNat (own_lit (p1 &&& (3 : Int32))).length)), (.ref x), (.int (0 : Int32)), (.ref b)])) _
      refine OGo.step (fun _ kk => XS.iload X51.here hx rfl (hb hby at_140) rfl kk) ?_
      show OGo p e below (T51.setTop (mkF m 142 #[.val (.int p1), .val (.int p2), .val (.int p3), .val (.int p4), .val (.int (p1 &&& (3 : Int32))), .val (.int mm), .val (.ref x), .val (.int (Int32.ofNat (own_lit (p1 &&& (3 : Int32))).length)), .val (.int (Int32.ofNat i0)), .val (.int ch), .val (.int N), .val (.ref b), .unset, .unset, .unset] [(.int ch), (.int (Int32.ofNat i0)), (.int mm), (.int (Int32.ofNat (own_lit (p1 &&& (3 : Int32))).length)), (.ref x), (.int (0 : Int32)), (.ref b)])) _
      refine OGo.step (fun _ kk => XS.iconst X51.here hx rfl (hb hby at_142) kk) ?_
      show OGo p e below (T51.setTop (mkF m 143 #[.val (.int p1), .val (.int p2), .val (.int p3), .val (.int p4), .val (.int (p1 &&& (3 : Int32))), .val (.int mm), .val (.ref x), .val (.int (Int32.ofNat (own_lit (p1 &&& (3 : Int32))).length)), .val (.int (Int32.ofNat i0)), .val (.int ch), .val (.int N), .val (.ref b), .unset, .unset, .unset] [(.int (0 : Int32)), (.int ch), (.int (Int32.ofNat i0)), (.int mm), (.int (Int32.ofNat (own_lit (p1 &&& (3 : Int32))).length)), (.ref x), (.int (0 : Int32)), (.ref b)])) _
      have xt278 := (own_ext_trans Xe48 E51)
      have fx279 := SC.ext xt278
      have fx280 := SF.ext xt278
      have fx281 := Ox48.ext E51
      refine own_callS X51 hx hZ (y := (⟨"com/example/tenantd/tenantd/RoleTypeOfTextPinLaw", "ch", "(Ljava/lang/String;IIICI)C"⟩ : MethodName)) hown (hw _ (List.mem_of_getElem? (i := 27) rfl)) (hw _ (List.mem_of_getElem? (i := 28) rfl)) (hw _ (List.mem_of_getElem? (i := 2) rfl)) (hw _ (List.mem_of_getElem? (i := 29) rfl)) (by decide) (W := 2) (own_ch l Z a0 hw [] x (own_lit (p1 &&& (3 : Int32))) mm ch zc i0 0 fm h51 n0 sz51 fx279 hzc fx280 hfm fx281 hsl.2.2 hc hsl.2.1 (by omega) (by decide) hk0) e51  (pc := 143) (Ls := #[.val (.int p1), .val (.int p2), .val (.int p3), .val (.int p4), .val (.int (p1 &&& (3 : Int32))), .val (.int mm), .val (.ref x), .val (.int (Int32.ofNat (own_lit (p1 &&& (3 : Int32))).length)), .val (.int (Int32.ofNat i0)), .val (.int ch), .val (.int N), .val (.ref b), .unset, .unset, .unset]) (argsL := [(.ref x), (.int (Int32.ofNat (own_lit (p1 &&& (3 : Int32))).length)), (.int mm), (.int (Int32.ofNat i0)), (.int ch), (.int (0 : Int32))]) (rest := [(.int (0 : Int32)), (.ref b)]) (by rw [hml]; rfl) (lenOf own_pd11 rfl) rfl (hb hby at_143) (by decide) (by decide) (by decide) (by decide) ?_
      intro v282 T282 L282 X282 hQ282
      obtain ⟨rfl, N282, e282⟩ := hQ282
      show OGo p e below (T282.setTop (mkF m 146 #[.val (.int p1), .val (.int p2), .val (.int p3), .val (.int p4), .val (.int (p1 &&& (3 : Int32))), .val (.int mm), .val (.ref x), .val (.int (Int32.ofNat (own_lit (p1 &&& (3 : Int32))).length)), .val (.int (Int32.ofNat i0)), .val (.int ch), .val (.int N), .val (.ref b), .unset, .unset, .unset] [(.int ((own_T (own_lit (p1 &&& (3 : Int32))) mm i0 ch).getD 0 0)), (.int (0 : Int32)), (.ref b)])) _
      have Nc282 := Fr.app Nc50 N282
      obtain ⟨cA283, A283, q283, S283, M283, H283, G283⟩ := id (V0_.pad (pad_rep _ _ 1))
      obtain ⟨T284, h284, X284, e284, W284, st284⟩ := stC X282 hx hZ e282 A283 (j := (0 : Int32)) (inb_of S283 ⟨by decide, hf0⟩) (g := (mkF m 146 #[.val (.int p1), .val (.int p2), .val (.int p3), .val (.int p4), .val (.int (p1 &&& (3 : Int32))), .val (.int mm), .val (.ref x), .val (.int (Int32.ofNat (own_lit (p1 &&& (3 : Int32))).length)), .val (.int (Int32.ofNat i0)), .val (.int ch), .val (.int N), .val (.ref b), .unset, .unset, .unset] [(.int ((own_T (own_lit (p1 &&& (3 : Int32))) mm i0 ch).getD 0 0)), (.int (0 : Int32)), (.ref b)])) rfl rfl (hb hby at_146)
      refine OGo.step st284 ?_
      show OGo p e below (T284.setTop (mkF m 147 #[.val (.int p1), .val (.int p2), .val (.int p3), .val (.int p4), .val (.int (p1 &&& (3 : Int32))), .val (.int mm), .val (.ref x), .val (.int (Int32.ofNat (own_lit (p1 &&& (3 : Int32))).length)), .val (.int (Int32.ofNat i0)), .val (.int ch), .val (.int N), .val (.ref b), .unset, .unset, .unset] [])) _
      have Vn283 : Arv Z h284 b k51 .char N (((own_T (own_lit (p1 &&& (3 : Int32))) mm i0 ch).take 1).map Value.int) (.int (0 : Int32)) := by rw [← own_ts hk0 hT.2]; exact Arv.set A283 q283 S283 M283 H283 G283 (fits_nar_char _) W284 0 rfl (own_tl hk0)
      have KK284 := (Keep.refl h51 [b]).wr W284 (Or.inl (List.mem_of_getElem? (i := 0) rfl))
      have Nf284 := Fr.snoc X284 Nc282 gf_b
      have sz284 : n0 ≤ h284.size := by rw [W284.size]; exact sz51
      have sw285 := (Safe.arr (EL := consts_1) OW52.2.1.alike A283 (by decide))
      have OW286 := OW52.wr W284 sw285
      refine OGo.step (fun _ kk => XS.iload X284.here hx rfl (hb hby at_147) rfl kk) ?_
      show OGo p e below (T284.setTop (mkF m 149 #[.val (.int p1), .val (.int p2), .val (.int p3), .val (.int p4), .val (.int (p1 &&& (3 : Int32))), .val (.int mm), .val (.ref x), .val (.int (Int32.ofNat (own_lit (p1 &&& (3 : Int32))).length)), .val (.int (Int32.ofNat i0)), .val (.int ch), .val (.int N), .val (.ref b), .unset, .unset, .unset] [(.int N)])) _
      refine OGo.step (fun _ kk => XS.iconst X284.here hx rfl (hb hby at_149) kk) ?_
      show OGo p e below (T284.setTop (mkF m 150 #[.val (.int p1), .val (.int p2), .val (.int p3), .val (.int p4), .val (.int (p1 &&& (3 : Int32))), .val (.int mm), .val (.ref x), .val (.int (Int32.ofNat (own_lit (p1 &&& (3 : Int32))).length)), .val (.int (Int32.ofNat i0)), .val (.int ch), .val (.int N), .val (.ref b), .unset, .unset, .unset] [(.int (1 : Int32)), (.int N)])) _
      by_cases hf1 : (1 : Int32) < N
      · refine OGo.step (fun _ kk => XS.icmpNo X284.here hx rfl (hb hby at_150) rfl (tlt hf1).2.2.2 kk) ?_
        show OGo p e below (T284.setTop (mkF m 153 #[.val (.int p1), .val (.int p2), .val (.int p3), .val (.int p4), .val (.int (p1 &&& (3 : Int32))), .val (.int mm), .val (.ref x), .val (.int (Int32.ofNat (own_lit (p1 &&& (3 : Int32))).length)), .val (.int (Int32.ofNat i0)), .val (.int ch), .val (.int N), .val (.ref b), .unset, .unset, .unset] [])) _
        have hk1 := own_lt14 1 (by decide) _ hT.1 (by rw [← hN]; exact hf1)
        refine OGo.step (fun _ kk => XS.aload X284.here hx rfl (hb hby at_153) rfl rfl kk) ?_
        show OGo p e below (T284.setTop (mkF m 155 #[.val (.int p1), .val (.int p2), .val (.int p3), .val (.int p4), .val (.int (p1 &&& (3 : Int32))), .val (.int mm), .val (.ref x), .val (.int (Int32.ofNat (own_lit (p1 &&& (3 : Int32))).length)), .val (.int (Int32.ofNat i0)), .val (.int ch), .val (.int N), .val (.ref b), .unset, .unset, .unset] [(.ref b)])) _
        refine OGo.step (fun _ kk => XS.iconst X284.here hx rfl (hb hby at_155) kk) ?_
        show OGo p e below (T284.setTop (mkF m 156 #[.val (.int p1), .val (.int p2), .val (.int p3), .val (.int p4), .val (.int (p1 &&& (3 : Int32))), .val (.int mm), .val (.ref x), .val (.int (Int32.ofNat (own_lit (p1 &&& (3 : Int32))).length)), .val (.int (Int32.ofNat i0)), .val (.int ch), .val (.int N), .val (.ref b), .unset, .unset, .unset] [(.int (1 : Int32)), (.ref b)])) _
        refine OGo.step (fun _ kk => XS.aload X284.here hx rfl (hb hby at_156) rfl rfl kk) ?_
        show OGo p e below (T284.setTop (mkF m 158 #[.val (.int p1), .val (.int p2), .val (.int p3), .val (.int p4), .val (.int (p1 &&& (3 : Int32))), .val (.int mm), .val (.ref x), .val (.int (Int32.ofNat (own_lit (p1 &&& (3 : Int32))).length)), .val (.int (Int32.ofNat i0)), .val (.int ch), .val (.int N), .val (.ref b), .unset, .unset, .unset] [(.ref x), (.int (1 : Int32)), (.ref b)])) _
        refine OGo.step (fun _ kk => XS.iload X284.here hx rfl (hb hby at_158) rfl kk) ?_
        show OGo p e below (T284.setTop (mkF m 160 #[.val (.int p1), .val (.int p2), .val (.int p3), .val (.int p4), .val (.int (p1 &&& (3 : Int32))), .val (.int mm), .val (.ref x), .val (.int (Int32.ofNat (own_lit (p1 &&& (3 : Int32))).length)), .val (.int (Int32.ofNat i0)), .val (.int ch), .val (.int N), .val (.ref b), .unset, .unset, .unset] [(.int (Int32.ofNat (own_lit (p1 &&& (3 : Int32))).length)), (.ref x), (.int (1 : Int32)), (.ref b)])) _
        refine OGo.step (fun _ kk => XS.iload X284.here hx rfl (hb hby at_160) rfl kk) ?_
        show OGo p e below (T284.setTop (mkF m 162 #[.val (.int p1), .val (.int p2), .val (.int p3), .val (.int p4), .val (.int (p1 &&& (3 : Int32))), .val (.int mm), .val (.ref x), .val (.int (Int32.ofNat (own_lit (p1 &&& (3 : Int32))).length)), .val (.int (Int32.ofNat i0)), .val (.int ch), .val (.int N), .val (.ref b), .unset, .unset, .unset] [(.int mm), (.int (Int32.ofNat (own_lit (p1 &&& (3 : Int32))).length)), (.ref x), (.int (1 : Int32)), (.ref b)])) _
        refine OGo.step (fun _ kk => XS.iload X284.here hx rfl (hb hby at_162) rfl kk) ?_
        show OGo p e below (T284.setTop (mkF m 164 #[.val (.int p1), .val (.int p2), .val (.int p3), .val (.int p4), .val (.int (p1 &&& (3 : Int32))), .val (.int mm), .val (.ref x), .val (.int (Int32.ofNat (own_lit (p1 &&& (3 : Int32))).length)), .val (.int (Int32.ofNat i0)), .val (.int ch), .val (.int N), .val (.ref b), .unset, .unset, .unset] [(.int (Int32.ofNat i0)), (.int mm), (.int (Int32.ofNat (own_lit (p1 &&& (3 : Int32))).length)), (.ref x), (.int (1 : Int32)), (.ref b)])) _
        refine OGo.step (fun _ kk => XS.iload X284.here hx rfl (hb hby at_164) rfl kk) ?_
        show OGo p e below (T284.setTop (mkF m 166 #[.val (.int p1), .val (.int p2), .val (.int p3), .val (.int p4), .val (.int (p1 &&& (3 : Int32))), .val (.int mm), .val (.ref x), .val (.int (Int32.ofNat (own_lit (p1 &&& (3 : Int32))).length)), .val (.int (Int32.ofNat i0)), .val (.int ch), .val (.int N), .val (.ref b), .unset, .unset, .unset] [(.int ch), (.int (Int32.ofNat i0)), (.int mm), (.int (Int32.ofNat (own_lit (p1 &&& (3 : Int32))).length)), (.ref x), (.int (1 : Int32)), (.ref b)])) _
        refine OGo.step (fun _ kk => XS.iconst X284.here hx rfl (hb hby at_166) kk) ?_
        show OGo p e below (T284.setTop (mkF m 167 #[.val (.int p1), .val (.int p2), .val (.int p3), .val (.int p4), .val (.int (p1 &&& (3 : Int32))), .val (.int mm), .val (.ref x), .val (.int (Int32.ofNat (own_lit (p1 &&& (3 : Int32))).length)), .val (.int (Int32.ofNat i0)), .val (.int ch), .val (.int N), .val (.ref b), .unset, .unset, .unset] [(.int (1 : Int32)), (.int ch), (.int (Int32.ofNat i0)), (.int mm), (.int (Int32.ofNat (own_lit (p1 &&& (3 : Int32))).length)), (.ref x), (.int (1 : Int32)), (.ref b)])) _
        have xt287 := (own_ext_wr xt278 W284 (Nat.le_trans Xe48.1 (Nat.le_of_eq g51.symm)))
        have fx288 := SC.ext xt287
        have fx289 := SF.ext xt287
        have xt290 := (own_ext_wr E51 W284 (Nat.le_of_eq g51.symm))
        have fx291 := Ox48.ext xt290
        refine own_callS X284 hx hZ (y := (⟨"com/example/tenantd/tenantd/RoleTypeOfTextPinLaw", "ch", "(Ljava/lang/String;IIICI)C"⟩ : MethodName)) hown (hw _ (List.mem_of_getElem? (i := 27) rfl)) (hw _ (List.mem_of_getElem? (i := 28) rfl)) (hw _ (List.mem_of_getElem? (i := 2) rfl)) (hw _ (List.mem_of_getElem? (i := 29) rfl)) (by decide) (W := 2) (own_ch l Z a0 hw [] x (own_lit (p1 &&& (3 : Int32))) mm ch zc i0 1 fm h284 n0 sz284 fx288 hzc fx289 hfm fx291 hsl.2.2 hc hsl.2.1 (by omega) (by decide) hk1) e284  (pc := 167) (Ls := #[.val (.int p1), .val (.int p2), .val (.int p3), .val (.int p4), .val (.int (p1 &&& (3 : Int32))), .val (.int mm), .val (.ref x), .val (.int (Int32.ofNat (own_lit (p1 &&& (3 : Int32))).length)), .val (.int (Int32.ofNat i0)), .val (.int ch), .val (.int N), .val (.ref b), .unset, .unset, .unset]) (argsL := [(.ref x), (.int (Int32.ofNat (own_lit (p1 &&& (3 : Int32))).length)), (.int mm), (.int (Int32.ofNat i0)), (.int ch), (.int (1 : Int32))]) (rest := [(.int (1 : Int32)), (.ref b)]) (by rw [hml]; rfl) (lenOf own_pd11 rfl) rfl (hb hby at_167) (by decide) (by decide) (by decide) (by decide) ?_
        intro v292 T292 L292 X292 hQ292
        obtain ⟨rfl, N292, e292⟩ := hQ292
        show OGo p e below (T292.setTop (mkF m 170 #[.val (.int p1), .val (.int p2), .val (.int p3), .val (.int p4), .val (.int (p1 &&& (3 : Int32))), .val (.int mm), .val (.ref x), .val (.int (Int32.ofNat (own_lit (p1 &&& (3 : Int32))).length)), .val (.int (Int32.ofNat i0)), .val (.int ch), .val (.int N), .val (.ref b), .unset, .unset, .unset] [(.int ((own_T (own_lit (p1 &&& (3 : Int32))) mm i0 ch).getD 1 0)), (.int (1 : Int32)), (.ref b)])) _
        have Nc292 := Fr.app Nf284 N292
        obtain ⟨cA293, A293, q293, S293, M293, H293, G293⟩ := id (Vn283.pad (pad_rep _ _ 1))
        obtain ⟨T294, h294, X294, e294, W294, st294⟩ := stC X292 hx hZ e292 A293 (j := (1 : Int32)) (inb_of S293 ⟨by decide, hf1⟩) (g := (mkF m 170 #[.val (.int p1), .val (.int p2), .val (.int p3), .val (.int p4), .val (.int (p1 &&& (3 : Int32))), .val (.int mm), .val (.ref x), .val (.int (Int32.ofNat (own_lit (p1 &&& (3 : Int32))).length)), .val (.int (Int32.ofNat i0)), .val (.int ch), .val (.int N), .val (.ref b), .unset, .unset, .unset] [(.int ((own_T (own_lit (p1 &&& (3 : Int32))) mm i0 ch).getD 1 0)), (.int (1 : Int32)), (.ref b)])) rfl rfl (hb hby at_170)
        refine OGo.step st294 ?_
        show OGo p e below (T294.setTop (mkF m 171 #[.val (.int p1), .val (.int p2), .val (.int p3), .val (.int p4), .val (.int (p1 &&& (3 : Int32))), .val (.int mm), .val (.ref x), .val (.int (Int32.ofNat (own_lit (p1 &&& (3 : Int32))).length)), .val (.int (Int32.ofNat i0)), .val (.int ch), .val (.int N), .val (.ref b), .unset, .unset, .unset] [])) _
        have Vn293 : Arv Z h294 b k51 .char N (((own_T (own_lit (p1 &&& (3 : Int32))) mm i0 ch).take 2).map Value.int) (.int (0 : Int32)) := by rw [← own_ts hk1 hT.2]; exact Arv.set A293 q293 S293 M293 H293 G293 (fits_nar_char _) W294 1 rfl (own_tl hk1)
        have KK294 := KK284.wr W294 (Or.inl (List.mem_of_getElem? (i := 0) rfl))
        have Nf294 := Fr.snoc X294 Nc292 gf_b
        have sz294 : n0 ≤ h294.size := by rw [W294.size]; exact sz284
        have sw295 := (Safe.arr (EL := consts_1) OW286.2.1.alike A293 (by decide))
        have OW296 := OW286.wr W294 sw295
        refine OGo.step (fun _ kk => XS.iload X294.here hx rfl (hb hby at_171) rfl kk) ?_
        show OGo p e below (T294.setTop (mkF m 173 #[.val (.int p1), .val (.int p2), .val (.int p3), .val (.int p4), .val (.int (p1 &&& (3 : Int32))), .val (.int mm), .val (.ref x), .val (.int (Int32.ofNat (own_lit (p1 &&& (3 : Int32))).length)), .val (.int (Int32.ofNat i0)), .val (.int ch), .val (.int N), .val (.ref b), .unset, .unset, .unset] [(.int N)])) _
        refine OGo.step (fun _ kk => XS.iconst X294.here hx rfl (hb hby at_173) kk) ?_
        show OGo p e below (T294.setTop (mkF m 174 #[.val (.int p1), .val (.int p2), .val (.int p3), .val (.int p4), .val (.int (p1 &&& (3 : Int32))), .val (.int mm), .val (.ref x), .val (.int (Int32.ofNat (own_lit (p1 &&& (3 : Int32))).length)), .val (.int (Int32.ofNat i0)), .val (.int ch), .val (.int N), .val (.ref b), .unset, .unset, .unset] [(.int (2 : Int32)), (.int N)])) _
        by_cases hf2 : (2 : Int32) < N
        · refine OGo.step (fun _ kk => XS.icmpNo X294.here hx rfl (hb hby at_174) rfl (tlt hf2).2.2.2 kk) ?_
          show OGo p e below (T294.setTop (mkF m 177 #[.val (.int p1), .val (.int p2), .val (.int p3), .val (.int p4), .val (.int (p1 &&& (3 : Int32))), .val (.int mm), .val (.ref x), .val (.int (Int32.ofNat (own_lit (p1 &&& (3 : Int32))).length)), .val (.int (Int32.ofNat i0)), .val (.int ch), .val (.int N), .val (.ref b), .unset, .unset, .unset] [])) _
          have hk2 := own_lt14 2 (by decide) _ hT.1 (by rw [← hN]; exact hf2)
          refine OGo.step (fun _ kk => XS.aload X294.here hx rfl (hb hby at_177) rfl rfl kk) ?_
          show OGo p e below (T294.setTop (mkF m 179 #[.val (.int p1), .val (.int p2), .val (.int p3), .val (.int p4), .val (.int (p1 &&& (3 : Int32))), .val (.int mm), .val (.ref x), .val (.int (Int32.ofNat (own_lit (p1 &&& (3 : Int32))).length)), .val (.int (Int32.ofNat i0)), .val (.int ch), .val (.int N), .val (.ref b), .unset, .unset, .unset] [(.ref b)])) _
          refine OGo.step (fun _ kk => XS.iconst X294.here hx rfl (hb hby at_179) kk) ?_
          show OGo p e below (T294.setTop (mkF m 180 #[.val (.int p1), .val (.int p2), .val (.int p3), .val (.int p4), .val (.int (p1 &&& (3 : Int32))), .val (.int mm), .val (.ref x), .val (.int (Int32.ofNat (own_lit (p1 &&& (3 : Int32))).length)), .val (.int (Int32.ofNat i0)), .val (.int ch), .val (.int N), .val (.ref b), .unset, .unset, .unset] [(.int (2 : Int32)), (.ref b)])) _
          refine OGo.step (fun _ kk => XS.aload X294.here hx rfl (hb hby at_180) rfl rfl kk) ?_
          show OGo p e below (T294.setTop (mkF m 182 #[.val (.int p1), .val (.int p2), .val (.int p3), .val (.int p4), .val (.int (p1 &&& (3 : Int32))), .val (.int mm), .val (.ref x), .val (.int (Int32.ofNat (own_lit (p1 &&& (3 : Int32))).length)), .val (.int (Int32.ofNat i0)), .val (.int ch), .val (.int N), .val (.ref b), .unset, .unset, .unset] [(.ref x), (.int (2 : Int32)), (.ref b)])) _
          refine OGo.step (fun _ kk => XS.iload X294.here hx rfl (hb hby at_182) rfl kk) ?_
          show OGo p e below (T294.setTop (mkF m 184 #[.val (.int p1), .val (.int p2), .val (.int p3), .val (.int p4), .val (.int (p1 &&& (3 : Int32))), .val (.int mm), .val (.ref x), .val (.int (Int32.ofNat (own_lit (p1 &&& (3 : Int32))).length)), .val (.int (Int32.ofNat i0)), .val (.int ch), .val (.int N), .val (.ref b), .unset, .unset, .unset] [(.int (Int32.ofNat (own_lit (p1 &&& (3 : Int32))).length)), (.ref x), (.int (2 : Int32)), (.ref b)])) _
          refine OGo.step (fun _ kk => XS.iload X294.here hx rfl (hb hby at_184) rfl kk) ?_
          show OGo p e below (T294.setTop (mkF m 186 #[.val (.int p1), .val (.int p2), .val (.int p3), .val (.int p4), .val (.int (p1 &&& (3 : Int32))), .val (.int mm), .val (.ref x), .val (.int (Int32.ofNat (own_lit (p1 &&& (3 : Int32))).length)), .val (.int (Int32.ofNat i0)), .val (.int ch), .val (.int N), .val (.ref b), .unset, .unset, .unset] [(.int mm), (.int (Int32.ofNat (own_lit (p1 &&& (3 : Int32))).length)), (.ref x), (.int (2 : Int32)), (.ref b)])) _
          refine OGo.step (fun _ kk => XS.iload X294.here hx rfl (hb hby at_186) rfl kk) ?_
          show OGo p e below (T294.setTop (mkF m 188 #[.val (.int p1), .val (.int p2), .val (.int p3), .val (.int p4), .val (.int (p1 &&& (3 : Int32))), .val (.int mm), .val (.ref x), .val (.int (Int32.ofNat (own_lit (p1 &&& (3 : Int32))).length)), .val (.int (Int32.ofNat i0)), .val (.int ch), .val (.int N), .val (.ref b), .unset, .unset, .unset] [(.int (Int32.ofNat i0)), (.int mm), (.int (Int32.ofNat (own_lit (p1 &&& (3 : Int32))).length)), (.ref x), (.int (2 : Int32)), (.ref b)])) _
          refine OGo.step (fun _ kk => XS.iload X294.here hx rfl (hb hby at_188) rfl kk) ?_
          show OGo p e below (T294.setTop (mkF m 190 #[.val (.int p1), .val (.int p2), .val (.int p3), .val (.int p4), .val (.int (p1 &&& (3 : Int32))), .val (.int mm), .val (.ref x), .val (.int (Int32.ofNat (own_lit (p1 &&& (3 : Int32))).length)), .val (.int (Int32.ofNat i0)), .val (.int ch), .val (.int N), .val (.ref b), .unset, .unset, .unset] [(.int ch), (.int (Int32.ofNat i0)), (.int mm), (.int (Int32.ofNat (own_lit (p1 &&& (3 : Int32))).length)), (.ref x), (.int (2 : Int32)), (.ref b)])) _
          refine OGo.step (fun _ kk => XS.iconst X294.here hx rfl (hb hby at_190) kk) ?_
          show OGo p e below (T294.setTop (mkF m 191 #[.val (.int p1), .val (.int p2), .val (.int p3), .val (.int p4), .val (.int (p1 &&& (3 : Int32))), .val (.int mm), .val (.ref x), .val (.int (Int32.ofNat (own_lit (p1 &&& (3 : Int32))).length)), .val (.int (Int32.ofNat i0)), .val (.int ch), .val (.int N), .val (.ref b), .unset, .unset, .unset] [(.int (2 : Int32)), (.int ch), (.int (Int32.ofNat i0)), (.int mm), (.int (Int32.ofNat (own_lit (p1 &&& (3 : Int32))).length)), (.ref x), (.int (2 : Int32)), (.ref b)])) _
          have xt297 := (own_ext_wr xt287 W294 (Nat.le_trans Xe48.1 (Nat.le_of_eq g51.symm)))
          have fx298 := SC.ext xt297
          have fx299 := SF.ext xt297
          have xt300 := (own_ext_wr xt290 W294 (Nat.le_of_eq g51.symm))
          have fx301 := Ox48.ext xt300
          refine own_callS X294 hx hZ (y := (⟨"com/example/tenantd/tenantd/RoleTypeOfTextPinLaw", "ch", "(Ljava/lang/String;IIICI)C"⟩ : MethodName)) hown (hw _ (List.mem_of_getElem? (i := 27) rfl)) (hw _ (List.mem_of_getElem? (i := 28) rfl)) (hw _ (List.mem_of_getElem? (i := 2) rfl)) (hw _ (List.mem_of_getElem? (i := 29) rfl)) (by decide) (W := 2) (own_ch l Z a0 hw [] x (own_lit (p1 &&& (3 : Int32))) mm ch zc i0 2 fm h294 n0 sz294 fx298 hzc fx299 hfm fx301 hsl.2.2 hc hsl.2.1 (by omega) (by decide) hk2) e294  (pc := 191) (Ls := #[.val (.int p1), .val (.int p2), .val (.int p3), .val (.int p4), .val (.int (p1 &&& (3 : Int32))), .val (.int mm), .val (.ref x), .val (.int (Int32.ofNat (own_lit (p1 &&& (3 : Int32))).length)), .val (.int (Int32.ofNat i0)), .val (.int ch), .val (.int N), .val (.ref b), .unset, .unset, .unset]) (argsL := [(.ref x), (.int (Int32.ofNat (own_lit (p1 &&& (3 : Int32))).length)), (.int mm), (.int (Int32.ofNat i0)), (.int ch), (.int (2 : Int32))]) (rest := [(.int (2 : Int32)), (.ref b)]) (by rw [hml]; rfl) (lenOf own_pd11 rfl) rfl (hb hby at_191) (by decide) (by decide) (by decide) (by decide) ?_
          intro v302 T302 L302 X302 hQ302
          obtain ⟨rfl, N302, e302⟩ := hQ302
          show OGo p e below (T302.setTop (mkF m 194 #[.val (.int p1), .val (.int p2), .val (.int p3), .val (.int p4), .val (.int (p1 &&& (3 : Int32))), .val (.int mm), .val (.ref x), .val (.int (Int32.ofNat (own_lit (p1 &&& (3 : Int32))).length)), .val (.int (Int32.ofNat i0)), .val (.int ch), .val (.int N), .val (.ref b), .unset, .unset, .unset] [(.int ((own_T (own_lit (p1 &&& (3 : Int32))) mm i0 ch).getD 2 0)), (.int (2 : Int32)), (.ref b)])) _
          have Nc302 := Fr.app Nf294 N302
          obtain ⟨cA303, A303, q303, S303, M303, H303, G303⟩ := id (Vn293.pad (pad_rep _ _ 1))
          obtain ⟨T304, h304, X304, e304, W304, st304⟩ := stC X302 hx hZ e302 A303 (j := (2 : Int32)) (inb_of S303 ⟨by decide, hf2⟩) (g := (mkF m 194 #[.val (.int p1), .val (.int p2), .val (.int p3), .val (.int p4), .val (.int (p1 &&& (3 : Int32))), .val (.int mm), .val (.ref x), .val (.int (Int32.ofNat (own_lit (p1 &&& (3 : Int32))).length)), .val (.int (Int32.ofNat i0)), .val (.int ch), .val (.int N), .val (.ref b), .unset, .unset, .unset] [(.int ((own_T (own_lit (p1 &&& (3 : Int32))) mm i0 ch).getD 2 0)), (.int (2 : Int32)), (.ref b)])) rfl rfl (hb hby at_194)
          refine OGo.step st304 ?_
          show OGo p e below (T304.setTop (mkF m 195 #[.val (.int p1), .val (.int p2), .val (.int p3), .val (.int p4), .val (.int (p1 &&& (3 : Int32))), .val (.int mm), .val (.ref x), .val (.int (Int32.ofNat (own_lit (p1 &&& (3 : Int32))).length)), .val (.int (Int32.ofNat i0)), .val (.int ch), .val (.int N), .val (.ref b), .unset, .unset, .unset] [])) _
          have Vn303 : Arv Z h304 b k51 .char N (((own_T (own_lit (p1 &&& (3 : Int32))) mm i0 ch).take 3).map Value.int) (.int (0 : Int32)) := by rw [← own_ts hk2 hT.2]; exact Arv.set A303 q303 S303 M303 H303 G303 (fits_nar_char _) W304 2 rfl (own_tl hk2)
          have KK304 := KK294.wr W304 (Or.inl (List.mem_of_getElem? (i := 0) rfl))
          have Nf304 := Fr.snoc X304 Nc302 gf_b
          have sz304 : n0 ≤ h304.size := by rw [W304.size]; exact sz294
          have sw305 := (Safe.arr (EL := consts_1) OW296.2.1.alike A303 (by decide))
          have OW306 := OW296.wr W304 sw305
          refine OGo.step (fun _ kk => XS.iload X304.here hx rfl (hb hby at_195) rfl kk) ?_
          show OGo p e below (T304.setTop (mkF m 197 #[.val (.int p1), .val (.int p2), .val (.int p3), .val (.int p4), .val (.int (p1 &&& (3 : Int32))), .val (.int mm), .val (.ref x), .val (.int (Int32.ofNat (own_lit (p1 &&& (3 : Int32))).length)), .val (.int (Int32.ofNat i0)), .val (.int ch), .val (.int N), .val (.ref b), .unset, .unset, .unset] [(.int N)])) _
          refine OGo.step (fun _ kk => XS.iconst X304.here hx rfl (hb hby at_197) kk) ?_
          show OGo p e below (T304.setTop (mkF m 198 #[.val (.int p1), .val (.int p2), .val (.int p3), .val (.int p4), .val (.int (p1 &&& (3 : Int32))), .val (.int mm), .val (.ref x), .val (.int (Int32.ofNat (own_lit (p1 &&& (3 : Int32))).length)), .val (.int (Int32.ofNat i0)), .val (.int ch), .val (.int N), .val (.ref b), .unset, .unset, .unset] [(.int (3 : Int32)), (.int N)])) _
          by_cases hf3 : (3 : Int32) < N
          · refine OGo.step (fun _ kk => XS.icmpNo X304.here hx rfl (hb hby at_198) rfl (tlt hf3).2.2.2 kk) ?_
            show OGo p e below (T304.setTop (mkF m 201 #[.val (.int p1), .val (.int p2), .val (.int p3), .val (.int p4), .val (.int (p1 &&& (3 : Int32))), .val (.int mm), .val (.ref x), .val (.int (Int32.ofNat (own_lit (p1 &&& (3 : Int32))).length)), .val (.int (Int32.ofNat i0)), .val (.int ch), .val (.int N), .val (.ref b), .unset, .unset, .unset] [])) _
            have hk3 := own_lt14 3 (by decide) _ hT.1 (by rw [← hN]; exact hf3)
            refine OGo.step (fun _ kk => XS.aload X304.here hx rfl (hb hby at_201) rfl rfl kk) ?_
            show OGo p e below (T304.setTop (mkF m 203 #[.val (.int p1), .val (.int p2), .val (.int p3), .val (.int p4), .val (.int (p1 &&& (3 : Int32))), .val (.int mm), .val (.ref x), .val (.int (Int32.ofNat (own_lit (p1 &&& (3 : Int32))).length)), .val (.int (Int32.ofNat i0)), .val (.int ch), .val (.int N), .val (.ref b), .unset, .unset, .unset] [(.ref b)])) _
            refine OGo.step (fun _ kk => XS.iconst X304.here hx rfl (hb hby at_203) kk) ?_
            show OGo p e below (T304.setTop (mkF m 204 #[.val (.int p1), .val (.int p2), .val (.int p3), .val (.int p4), .val (.int (p1 &&& (3 : Int32))), .val (.int mm), .val (.ref x), .val (.int (Int32.ofNat (own_lit (p1 &&& (3 : Int32))).length)), .val (.int (Int32.ofNat i0)), .val (.int ch), .val (.int N), .val (.ref b), .unset, .unset, .unset] [(.int (3 : Int32)), (.ref b)])) _
            refine OGo.step (fun _ kk => XS.aload X304.here hx rfl (hb hby at_204) rfl rfl kk) ?_
            show OGo p e below (T304.setTop (mkF m 206 #[.val (.int p1), .val (.int p2), .val (.int p3), .val (.int p4), .val (.int (p1 &&& (3 : Int32))), .val (.int mm), .val (.ref x), .val (.int (Int32.ofNat (own_lit (p1 &&& (3 : Int32))).length)), .val (.int (Int32.ofNat i0)), .val (.int ch), .val (.int N), .val (.ref b), .unset, .unset, .unset] [(.ref x), (.int (3 : Int32)), (.ref b)])) _
            refine OGo.step (fun _ kk => XS.iload X304.here hx rfl (hb hby at_206) rfl kk) ?_
            show OGo p e below (T304.setTop (mkF m 208 #[.val (.int p1), .val (.int p2), .val (.int p3), .val (.int p4), .val (.int (p1 &&& (3 : Int32))), .val (.int mm), .val (.ref x), .val (.int (Int32.ofNat (own_lit (p1 &&& (3 : Int32))).length)), .val (.int (Int32.ofNat i0)), .val (.int ch), .val (.int N), .val (.ref b), .unset, .unset, .unset] [(.int (Int32.ofNat (own_lit (p1 &&& (3 : Int32))).length)), (.ref x), (.int (3 : Int32)), (.ref b)])) _
            refine OGo.step (fun _ kk => XS.iload X304.here hx rfl (hb hby at_208) rfl kk) ?_
            show OGo p e below (T304.setTop (mkF m 210 #[.val (.int p1), .val (.int p2), .val (.int p3), .val (.int p4), .val (.int (p1 &&& (3 : Int32))), .val (.int mm), .val (.ref x), .val (.int (Int32.ofNat (own_lit (p1 &&& (3 : Int32))).length)), .val (.int (Int32.ofNat i0)), .val (.int ch), .val (.int N), .val (.ref b), .unset, .unset, .unset] [(.int mm), (.int (Int32.ofNat (own_lit (p1 &&& (3 : Int32))).length)), (.ref x), (.int (3 : Int32)), (.ref b)])) _
            refine OGo.step (fun _ kk => XS.iload X304.here hx rfl (hb hby at_210) rfl kk) ?_
            show OGo p e below (T304.setTop (mkF m 212 #[.val (.int p1), .val (.int p2), .val (.int p3), .val (.int p4), .val (.int (p1 &&& (3 : Int32))), .val (.int mm), .val (.ref x), .val (.int (Int32.ofNat (own_lit (p1 &&& (3 : Int32))).length)), .val (.int (Int32.ofNat i0)), .val (.int ch), .val (.int N), .val (.ref b), .unset, .unset, .unset] [(.int (Int32.ofNat i0)), (.int mm), (.int (Int32.ofNat (own_lit (p1 &&& (3 : Int32))).length)), (.ref x), (.int (3 : Int32)), (.ref b)])) _
            refine OGo.step (fun _ kk => XS.iload X304.here hx rfl (hb hby at_212) rfl kk) ?_
            show OGo p e below (T304.setTop (mkF m 214 #[.val (.int p1), .val (.int p2), .val (.int p3), .val (.int p4), .val (.int (p1 &&& (3 : Int32))), .val (.int mm), .val (.ref x), .val (.int (Int32.ofNat (own_lit (p1 &&& (3 : Int32))).length)), .val (.int (Int32.ofNat i0)), .val (.int ch), .val (.int N), .val (.ref b), .unset, .unset, .unset] [(.int ch), (.int (Int32.ofNat i0)), (.int mm), (.int (Int32.ofNat (own_lit (p1 &&& (3 : Int32))).length)), (.ref x), (.int (3 : Int32)), (.ref b)])) _
            refine OGo.step (fun _ kk => XS.iconst X304.here hx rfl (hb hby at_214) kk) ?_
            show OGo p e below (T304.setTop (mkF m 215 #[.val (.int p1), .val (.int p2), .val (.int p3), .val (.int p4), .val (.int (p1 &&& (3 : Int32))), .val (.int mm), .val (.ref x), .val (.int (Int32.ofNat (own_lit (p1 &&& (3 : Int32))).length)), .val (.int (Int32.ofNat i0)), .val (.int ch), .val (.int N), .val (.ref b), .unset, .unset, .unset] [(.int (3 : Int32)), (.int ch), (.int (Int32.ofNat i0)), (.int mm), (.int (Int32.ofNat (own_lit (p1 &&& (3 : Int32))).length)), (.ref x), (.int (3 : Int32)), (.ref b)])) _
            have xt307 := (own_ext_wr xt297 W304 (Nat.le_trans Xe48.1 (Nat.le_of_eq g51.symm)))
            have fx308 := SC.ext xt307
            have fx309 := SF.ext xt307
            have xt310 := (own_ext_wr xt300 W304 (Nat.le_of_eq g51.symm))
            have fx311 := Ox48.ext xt310
            refine own_callS X304 hx hZ (y := (⟨"com/example/tenantd/tenantd/RoleTypeOfTextPinLaw", "ch", "(Ljava/lang/String;IIICI)C"⟩ : MethodName)) hown (hw _ (List.mem_of_getElem? (i := 27) rfl)) (hw _ (List.mem_of_getElem? (i := 28) rfl)) (hw _ (List.mem_of_getElem? (i := 2) rfl)) (hw _ (List.mem_of_getElem? (i := 29) rfl)) (by decide) (W := 2) (own_ch l Z a0 hw [] x (own_lit (p1 &&& (3 : Int32))) mm ch zc i0 3 fm h304 n0 sz304 fx308 hzc fx309 hfm fx311 hsl.2.2 hc hsl.2.1 (by omega) (by decide) hk3) e304  (pc := 215) (Ls := #[.val (.int p1), .val (.int p2), .val (.int p3), .val (.int p4), .val (.int (p1 &&& (3 : Int32))), .val (.int mm), .val (.ref x), .val (.int (Int32.ofNat (own_lit (p1 &&& (3 : Int32))).length)), .val (.int (Int32.ofNat i0)), .val (.int ch), .val (.int N), .val (.ref b), .unset, .unset, .unset]) (argsL := [(.ref x), (.int (Int32.ofNat (own_lit (p1 &&& (3 : Int32))).length)), (.int mm), (.int (Int32.ofNat i0)), (.int ch), (.int (3 : Int32))]) (rest := [(.int (3 : Int32)), (.ref b)]) (by rw [hml]; rfl) (lenOf own_pd11 rfl) rfl (hb hby at_215) (by decide) (by decide) (by decide) (by decide) ?_
            intro v312 T312 L312 X312 hQ312
            obtain ⟨rfl, N312, e312⟩ := hQ312
            show OGo p e below (T312.setTop (mkF m 218 #[.val (.int p1), .val (.int p2), .val (.int p3), .val (.int p4), .val (.int (p1 &&& (3 : Int32))), .val (.int mm), .val (.ref x), .val (.int (Int32.ofNat (own_lit (p1 &&& (3 : Int32))).length)), .val (.int (Int32.ofNat i0)), .val (.int ch), .val (.int N), .val (.ref b), .unset, .unset, .unset] [(.int ((own_T (own_lit (p1 &&& (3 : Int32))) mm i0 ch).getD 3 0)), (.int (3 : Int32)), (.ref b)])) _
            have Nc312 := Fr.app Nf304 N312
            obtain ⟨cA313, A313, q313, S313, M313, H313, G313⟩ := id (Vn303.pad (pad_rep _ _ 1))
            obtain ⟨T314, h314, X314, e314, W314, st314⟩ := stC X312 hx hZ e312 A313 (j := (3 : Int32)) (inb_of S313 ⟨by decide, hf3⟩) (g := (mkF m 218 #[.val (.int p1), .val (.int p2), .val (.int p3), .val (.int p4), .val (.int (p1 &&& (3 : Int32))), .val (.int mm), .val (.ref x), .val (.int (Int32.ofNat (own_lit (p1 &&& (3 : Int32))).length)), .val (.int (Int32.ofNat i0)), .val (.int ch), .val (.int N), .val (.ref b), .unset, .unset, .unset] [(.int ((own_T (own_lit (p1 &&& (3 : Int32))) mm i0 ch).getD 3 0)), (.int (3 : Int32)), (.ref b)])) rfl rfl (hb hby at_218)
            refine OGo.step st314 ?_
            show OGo p e below (T314.setTop (mkF m 219 #[.val (.int p1), .val (.int p2), .val (.int p3), .val (.int p4), .val (.int (p1 &&& (3 : Int32))), .val (.int mm), .val (.ref x), .val (.int (Int32.ofNat (own_lit (p1 &&& (3 : Int32))).length)), .val (.int (Int32.ofNat i0)), .val (.int ch), .val (.int N), .val (.ref b), .unset, .unset, .unset] [])) _
            have Vn313 : Arv Z h314 b k51 .char N (((own_T (own_lit (p1 &&& (3 : Int32))) mm i0 ch).take 4).map Value.int) (.int (0 : Int32)) := by rw [← own_ts hk3 hT.2]; exact Arv.set A313 q313 S313 M313 H313 G313 (fits_nar_char _) W314 3 rfl (own_tl hk3)
            have KK314 := KK304.wr W314 (Or.inl (List.mem_of_getElem? (i := 0) rfl))
            have Nf314 := Fr.snoc X314 Nc312 gf_b
            have sz314 : n0 ≤ h314.size := by rw [W314.size]; exact sz304
            have sw315 := (Safe.arr (EL := consts_1) OW306.2.1.alike A313 (by decide))
            have OW316 := OW306.wr W314 sw315
            refine OGo.step (fun _ kk => XS.iload X314.here hx rfl (hb hby at_219) rfl kk) ?_
            show OGo p e below (T314.setTop (mkF m 221 #[.val (.int p1), .val (.int p2), .val (.int p3), .val (.int p4), .val (.int (p1 &&& (3 : Int32))), .val (.int mm), .val (.ref x), .val (.int (Int32.ofNat (own_lit (p1 &&& (3 : Int32))).length)), .val (.int (Int32.ofNat i0)), .val (.int ch), .val (.int N), .val (.ref b), .unset, .unset, .unset] [(.int N)])) _
            refine OGo.step (fun _ kk => XS.iconst X314.here hx rfl (hb hby at_221) kk) ?_
            show OGo p e below (T314.setTop (mkF m 222 #[.val (.int p1), .val (.int p2), .val (.int p3), .val (.int p4), .val (.int (p1 &&& (3 : Int32))), .val (.int mm), .val (.ref x), .val (.int (Int32.ofNat (own_lit (p1 &&& (3 : Int32))).length)), .val (.int (Int32.ofNat i0)), .val (.int ch), .val (.int N), .val (.ref b), .unset, .unset, .unset] [(.int (4 : Int32)), (.int N)])) _
            by_cases hf4 : (4 : Int32) < N
            · refine OGo.step (fun _ kk => XS.icmpNo X314.here hx rfl (hb hby at_222) rfl (tlt hf4).2.2.2 kk) ?_
              show OGo p e below (T314.setTop (mkF m 225 #[.val (.int p1), .val (.int p2), .val (.int p3), .val (.int p4), .val (.int (p1 &&& (3 : Int32))), .val (.int mm), .val (.ref x), .val (.int (Int32.ofNat (own_lit (p1 &&& (3 : Int32))).length)), .val (.int (Int32.ofNat i0)), .val (.int ch), .val (.int N), .val (.ref b), .unset, .unset, .unset] [])) _
              have hk4 := own_lt14 4 (by decide) _ hT.1 (by rw [← hN]; exact hf4)
              refine OGo.step (fun _ kk => XS.aload X314.here hx rfl (hb hby at_225) rfl rfl kk) ?_
              show OGo p e below (T314.setTop (mkF m 227 #[.val (.int p1), .val (.int p2), .val (.int p3), .val (.int p4), .val (.int (p1 &&& (3 : Int32))), .val (.int mm), .val (.ref x), .val (.int (Int32.ofNat (own_lit (p1 &&& (3 : Int32))).length)), .val (.int (Int32.ofNat i0)), .val (.int ch), .val (.int N), .val (.ref b), .unset, .unset, .unset] [(.ref b)])) _
              refine OGo.step (fun _ kk => XS.iconst X314.here hx rfl (hb hby at_227) kk) ?_
              show OGo p e below (T314.setTop (mkF m 228 #[.val (.int p1), .val (.int p2), .val (.int p3), .val (.int p4), .val (.int (p1 &&& (3 : Int32))), .val (.int mm), .val (.ref x), .val (.int (Int32.ofNat (own_lit (p1 &&& (3 : Int32))).length)), .val (.int (Int32.ofNat i0)), .val (.int ch), .val (.int N), .val (.ref b), .unset, .unset, .unset] [(.int (4 : Int32)), (.ref b)])) _
              refine OGo.step (fun _ kk => XS.aload X314.here hx rfl (hb hby at_228) rfl rfl kk) ?_
              show OGo p e below (T314.setTop (mkF m 230 #[.val (.int p1), .val (.int p2), .val (.int p3), .val (.int p4), .val (.int (p1 &&& (3 : Int32))), .val (.int mm), .val (.ref x), .val (.int (Int32.ofNat (own_lit (p1 &&& (3 : Int32))).length)), .val (.int (Int32.ofNat i0)), .val (.int ch), .val (.int N), .val (.ref b), .unset, .unset, .unset] [(.ref x), (.int (4 : Int32)), (.ref b)])) _
              refine OGo.step (fun _ kk => XS.iload X314.here hx rfl (hb hby at_230) rfl kk) ?_
              show OGo p e below (T314.setTop (mkF m 232 #[.val (.int p1), .val (.int p2), .val (.int p3), .val (.int p4), .val (.int (p1 &&& (3 : Int32))), .val (.int mm), .val (.ref x), .val (.int (Int32.ofNat (own_lit (p1 &&& (3 : Int32))).length)), .val (.int (Int32.ofNat i0)), .val (.int ch), .val (.int N), .val (.ref b), .unset, .unset, .unset] [(.int (Int32.ofNat (own_lit (p1 &&& (3 : Int32))).length)), (.ref x), (.int (4 : Int32)), (.ref b)])) _
              refine OGo.step (fun _ kk => XS.iload X314.here hx rfl (hb hby at_232) rfl kk) ?_
              show OGo p e below (T314.setTop (mkF m 234 #[.val (.int p1), .val (.int p2), .val (.int p3), .val (.int p4), .val (.int (p1 &&& (3 : Int32))), .val (.int mm), .val (.ref x), .val (.int (Int32.ofNat (own_lit (p1 &&& (3 : Int32))).length)), .val (.int (Int32.ofNat i0)), .val (.int ch), .val (.int N), .val (.ref b), .unset, .unset, .unset] [(.int mm), (.int (Int32.ofNat (own_lit (p1 &&& (3 : Int32))).length)), (.ref x), (.int (4 : Int32)), (.ref b)])) _
              refine OGo.step (fun _ kk => XS.iload X314.here hx rfl (hb hby at_234) rfl kk) ?_
              show OGo p e below (T314.setTop (mkF m 236 #[.val (.int p1), .val (.int p2), .val (.int p3), .val (.int p4), .val (.int (p1 &&& (3 : Int32))), .val (.int mm), .val (.ref x), .val (.int (Int32.ofNat (own_lit (p1 &&& (3 : Int32))).length)), .val (.int (Int32.ofNat i0)), .val (.int ch), .val (.int N), .val (.ref b), .unset, .unset, .unset] [(.int (Int32.ofNat i0)), (.int mm), (.int (Int32.ofNat (own_lit (p1 &&& (3 : Int32))).length)), (.ref x), (.int (4 : Int32)), (.ref b)])) _
              refine OGo.step (fun _ kk => XS.iload X314.here hx rfl (hb hby at_236) rfl kk) ?_
              show OGo p e below (T314.setTop (mkF m 238 #[.val (.int p1), .val (.int p2), .val (.int p3), .val (.int p4), .val (.int (p1 &&& (3 : Int32))), .val (.int mm), .val (.ref x), .val (.int (Int32.ofNat (own_lit (p1 &&& (3 : Int32))).length)), .val (.int (Int32.ofNat i0)), .val (.int ch), .val (.int N), .val (.ref b), .unset, .unset, .unset] [(.int ch), (.int (Int32.ofNat i0)), (.int mm), (.int (Int32.ofNat (own_lit (p1 &&& (3 : Int32))).length)), (.ref x), (.int (4 : Int32)), (.ref b)])) _
              refine OGo.step (fun _ kk => XS.iconst X314.here hx rfl (hb hby at_238) kk) ?_
              show OGo p e below (T314.setTop (mkF m 239 #[.val (.int p1), .val (.int p2), .val (.int p3), .val (.int p4), .val (.int (p1 &&& (3 : Int32))), .val (.int mm), .val (.ref x), .val (.int (Int32.ofNat (own_lit (p1 &&& (3 : Int32))).length)), .val (.int (Int32.ofNat i0)), .val (.int ch), .val (.int N), .val (.ref b), .unset, .unset, .unset] [(.int (4 : Int32)), (.int ch), (.int (Int32.ofNat i0)), (.int mm), (.int (Int32.ofNat (own_lit (p1 &&& (3 : Int32))).length)), (.ref x), (.int (4 : Int32)), (.ref b)])) _
              have xt317 := (own_ext_wr xt307 W314 (Nat.le_trans Xe48.1 (Nat.le_of_eq g51.symm)))
              have fx318 := SC.ext xt317
              have fx319 := SF.ext xt317
              have xt320 := (own_ext_wr xt310 W314 (Nat.le_of_eq g51.symm))
              have fx321 := Ox48.ext xt320
              refine own_callS X314 hx hZ (y := (⟨"com/example/tenantd/tenantd/RoleTypeOfTextPinLaw", "ch", "(Ljava/lang/String;IIICI)C"⟩ : MethodName)) hown (hw _ (List.mem_of_getElem? (i := 27) rfl)) (hw _ (List.mem_of_getElem? (i := 28) rfl)) (hw _ (List.mem_of_getElem? (i := 2) rfl)) (hw _ (List.mem_of_getElem? (i := 29) rfl)) (by decide) (W := 2) (own_ch l Z a0 hw [] x (own_lit (p1 &&& (3 : Int32))) mm ch zc i0 4 fm h314 n0 sz314 fx318 hzc fx319 hfm fx321 hsl.2.2 hc hsl.2.1 (by omega) (by decide) hk4) e314  (pc := 239) (Ls := #[.val (.int p1), .val (.int p2), .val (.int p3), .val (.int p4), .val (.int (p1 &&& (3 : Int32))), .val (.int mm), .val (.ref x), .val (.int (Int32.ofNat (own_lit (p1 &&& (3 : Int32))).length)), .val (.int (Int32.ofNat i0)), .val (.int ch), .val (.int N), .val (.ref b), .unset, .unset, .unset]) (argsL := [(.ref x), (.int (Int32.ofNat (own_lit (p1 &&& (3 : Int32))).length)), (.int mm), (.int (Int32.ofNat i0)), (.int ch), (.int (4 : Int32))]) (rest := [(.int (4 : Int32)), (.ref b)]) (by rw [hml]; rfl) (lenOf own_pd11 rfl) rfl (hb hby at_239) (by decide) (by decide) (by decide) (by decide) ?_
              intro v322 T322 L322 X322 hQ322
              obtain ⟨rfl, N322, e322⟩ := hQ322
              show OGo p e below (T322.setTop (mkF m 242 #[.val (.int p1), .val (.int p2), .val (.int p3), .val (.int p4), .val (.int (p1 &&& (3 : Int32))), .val (.int mm), .val (.ref x), .val (.int (Int32.ofNat (own_lit (p1 &&& (3 : Int32))).length)), .val (.int (Int32.ofNat i0)), .val (.int ch), .val (.int N), .val (.ref b), .unset, .unset, .unset] [(.int ((own_T (own_lit (p1 &&& (3 : Int32))) mm i0 ch).getD 4 0)), (.int (4 : Int32)), (.ref b)])) _
              have Nc322 := Fr.app Nf314 N322
              obtain ⟨cA323, A323, q323, S323, M323, H323, G323⟩ := id (Vn313.pad (pad_rep _ _ 1))
              obtain ⟨T324, h324, X324, e324, W324, st324⟩ := stC X322 hx hZ e322 A323 (j := (4 : Int32)) (inb_of S323 ⟨by decide, hf4⟩) (g := (mkF m 242 #[.val (.int p1), .val (.int p2), .val (.int p3), .val (.int p4), .val (.int (p1 &&& (3 : Int32))), .val (.int mm), .val (.ref x), .val (.int (Int32.ofNat (own_lit (p1 &&& (3 : Int32))).length)), .val (.int (Int32.ofNat i0)), .val (.int ch), .val (.int N), .val (.ref b), .unset, .unset, .unset] [(.int ((own_T (own_lit (p1 &&& (3 : Int32))) mm i0 ch).getD 4 0)), (.int (4 : Int32)), (.ref b)])) rfl rfl (hb hby at_242)
              refine OGo.step st324 ?_
              show OGo p e below (T324.setTop (mkF m 243 #[.val (.int p1), .val (.int p2), .val (.int p3), .val (.int p4), .val (.int (p1 &&& (3 : Int32))), .val (.int mm), .val (.ref x), .val (.int (Int32.ofNat (own_lit (p1 &&& (3 : Int32))).length)), .val (.int (Int32.ofNat i0)), .val (.int ch), .val (.int N), .val (.ref b), .unset, .unset, .unset] [])) _
              have Vn323 : Arv Z h324 b k51 .char N (((own_T (own_lit (p1 &&& (3 : Int32))) mm i0 ch).take 5).map Value.int) (.int (0 : Int32)) := by rw [← own_ts hk4 hT.2]; exact Arv.set A323 q323 S323 M323 H323 G323 (fits_nar_char _) W324 4 rfl (own_tl hk4)
              have KK324 := KK314.wr W324 (Or.inl (List.mem_of_getElem? (i := 0) rfl))
              have Nf324 := Fr.snoc X324 Nc322 gf_b
              have sz324 : n0 ≤ h324.size := by rw [W324.size]; exact sz314
              have sw325 := (Safe.arr (EL := consts_1) OW316.2.1.alike A323 (by decide))
              have OW326 := OW316.wr W324 sw325
              refine OGo.step (fun _ kk => XS.iload X324.here hx rfl (hb hby at_243) rfl kk) ?_
              show OGo p e below (T324.setTop (mkF m 245 #[.val (.int p1), .val (.int p2), .val (.int p3), .val (.int p4), .val (.int (p1 &&& (3 : Int32))), .val (.int mm), .val (.ref x), .val (.int (Int32.ofNat (own_lit (p1 &&& (3 : Int32))).length)), .val (.int (Int32.ofNat i0)), .val (.int ch), .val (.int N), .val (.ref b), .unset, .unset, .unset] [(.int N)])) _
              refine OGo.step (fun _ kk => XS.iconst X324.here hx rfl (hb hby at_245) kk) ?_
              show OGo p e below (T324.setTop (mkF m 246 #[.val (.int p1), .val (.int p2), .val (.int p3), .val (.int p4), .val (.int (p1 &&& (3 : Int32))), .val (.int mm), .val (.ref x), .val (.int (Int32.ofNat (own_lit (p1 &&& (3 : Int32))).length)), .val (.int (Int32.ofNat i0)), .val (.int ch), .val (.int N), .val (.ref b), .unset, .unset, .unset] [(.int (5 : Int32)), (.int N)])) _
              by_cases hf5 : (5 : Int32) < N
              · refine OGo.step (fun _ kk => XS.icmpNo X324.here hx rfl (hb hby at_246) rfl (tlt hf5).2.2.2 kk) ?_
                show OGo p e below (T324.setTop (mkF m 249 #[.val (.int p1), .val (.int p2), .val (.int p3), .val (.int p4), .val (.int (p1 &&& (3 : Int32))), .val (.int mm), .val (.ref x), .val (.int (Int32.ofNat (own_lit (p1 &&& (3 : Int32))).length)), .val (.int (Int32.ofNat i0)), .val (.int ch), .val (.int N), .val (.ref b), .unset, .unset, .unset] [])) _
                have hk5 := own_lt14 5 (by decide) _ hT.1 (by rw [← hN]; exact hf5)
                refine OGo.step (fun _ kk => XS.aload X324.here hx rfl (hb hby at_249) rfl rfl kk) ?_
                show OGo p e below (T324.setTop (mkF m 251 #[.val (.int p1), .val (.int p2), .val (.int p3), .val (.int p4), .val (.int (p1 &&& (3 : Int32))), .val (.int mm), .val (.ref x), .val (.int (Int32.ofNat (own_lit (p1 &&& (3 : Int32))).length)), .val (.int (Int32.ofNat i0)), .val (.int ch), .val (.int N), .val (.ref b), .unset, .unset, .unset] [(.ref b)])) _
                refine OGo.step (fun _ kk => XS.iconst X324.here hx rfl (hb hby at_251) kk) ?_
                show OGo p e below (T324.setTop (mkF m 252 #[.val (.int p1), .val (.int p2), .val (.int p3), .val (.int p4), .val (.int (p1 &&& (3 : Int32))), .val (.int mm), .val (.ref x), .val (.int (Int32.ofNat (own_lit (p1 &&& (3 : Int32))).length)), .val (.int (Int32.ofNat i0)), .val (.int ch), .val (.int N), .val (.ref b), .unset, .unset, .unset] [(.int (5 : Int32)), (.ref b)])) _
                refine OGo.step (fun _ kk => XS.aload X324.here hx rfl (hb hby at_252) rfl rfl kk) ?_
                show OGo p e below (T324.setTop (mkF m 254 #[.val (.int p1), .val (.int p2), .val (.int p3), .val (.int p4), .val (.int (p1 &&& (3 : Int32))), .val (.int mm), .val (.ref x), .val (.int (Int32.ofNat (own_lit (p1 &&& (3 : Int32))).length)), .val (.int (Int32.ofNat i0)), .val (.int ch), .val (.int N), .val (.ref b), .unset, .unset, .unset] [(.ref x), (.int (5 : Int32)), (.ref b)])) _
                refine OGo.step (fun _ kk => XS.iload X324.here hx rfl (hb hby at_254) rfl kk) ?_
                show OGo p e below (T324.setTop (mkF m 256 #[.val (.int p1), .val (.int p2), .val (.int p3), .val (.int p4), .val (.int (p1 &&& (3 : Int32))), .val (.int mm), .val (.ref x), .val (.int (Int32.ofNat (own_lit (p1 &&& (3 : Int32))).length)), .val (.int (Int32.ofNat i0)), .val (.int ch), .val (.int N), .val (.ref b), .unset, .unset, .unset] [(.int (Int32.ofNat (own_lit (p1 &&& (3 : Int32))).length)), (.ref x), (.int (5 : Int32)), (.ref b)])) _
                refine OGo.step (fun _ kk => XS.iload X324.here hx rfl (hb hby at_256) rfl kk) ?_
                show OGo p e below (T324.setTop (mkF m 258 #[.val (.int p1), .val (.int p2), .val (.int p3), .val (.int p4), .val (.int (p1 &&& (3 : Int32))), .val (.int mm), .val (.ref x), .val (.int (Int32.ofNat (own_lit (p1 &&& (3 : Int32))).length)), .val (.int (Int32.ofNat i0)), .val (.int ch), .val (.int N), .val (.ref b), .unset, .unset, .unset] [(.int mm), (.int (Int32.ofNat (own_lit (p1 &&& (3 : Int32))).length)), (.ref x), (.int (5 : Int32)), (.ref b)])) _
                refine OGo.step (fun _ kk => XS.iload X324.here hx rfl (hb hby at_258) rfl kk) ?_
                show OGo p e below (T324.setTop (mkF m 260 #[.val (.int p1), .val (.int p2), .val (.int p3), .val (.int p4), .val (.int (p1 &&& (3 : Int32))), .val (.int mm), .val (.ref x), .val (.int (Int32.ofNat (own_lit (p1 &&& (3 : Int32))).length)), .val (.int (Int32.ofNat i0)), .val (.int ch), .val (.int N), .val (.ref b), .unset, .unset, .unset] [(.int (Int32.ofNat i0)), (.int mm), (.int (Int32.ofNat (own_lit (p1 &&& (3 : Int32))).length)), (.ref x), (.int (5 : Int32)), (.ref b)])) _
                refine OGo.step (fun _ kk => XS.iload X324.here hx rfl (hb hby at_260) rfl kk) ?_
                show OGo p e below (T324.setTop (mkF m 262 #[.val (.int p1), .val (.int p2), .val (.int p3), .val (.int p4), .val (.int (p1 &&& (3 : Int32))), .val (.int mm), .val (.ref x), .val (.int (Int32.ofNat (own_lit (p1 &&& (3 : Int32))).length)), .val (.int (Int32.ofNat i0)), .val (.int ch), .val (.int N), .val (.ref b), .unset, .unset, .unset] [(.int ch), (.int (Int32.ofNat i0)), (.int mm), (.int (Int32.ofNat (own_lit (p1 &&& (3 : Int32))).length)), (.ref x), (.int (5 : Int32)), (.ref b)])) _
                refine OGo.step (fun _ kk => XS.iconst X324.here hx rfl (hb hby at_262) kk) ?_
                show OGo p e below (T324.setTop (mkF m 263 #[.val (.int p1), .val (.int p2), .val (.int p3), .val (.int p4), .val (.int (p1 &&& (3 : Int32))), .val (.int mm), .val (.ref x), .val (.int (Int32.ofNat (own_lit (p1 &&& (3 : Int32))).length)), .val (.int (Int32.ofNat i0)), .val (.int ch), .val (.int N), .val (.ref b), .unset, .unset, .unset] [(.int (5 : Int32)), (.int ch), (.int (Int32.ofNat i0)), (.int mm), (.int (Int32.ofNat (own_lit (p1 &&& (3 : Int32))).length)), (.ref x), (.int (5 : Int32)), (.ref b)])) _
                have xt327 := (own_ext_wr xt317 W324 (Nat.le_trans Xe48.1 (Nat.le_of_eq g51.symm)))
                have fx328 := SC.ext xt327
                have fx329 := SF.ext xt327
                have xt330 := (own_ext_wr xt320 W324 (Nat.le_of_eq g51.symm))
                have fx331 := Ox48.ext xt330
                refine own_callS X324 hx hZ (y := (⟨"com/example/tenantd/tenantd/RoleTypeOfTextPinLaw", "ch", "(Ljava/lang/String;IIICI)C"⟩ : MethodName)) hown (hw _ (List.mem_of_getElem? (i := 27) rfl)) (hw _ (List.mem_of_getElem? (i := 28) rfl)) (hw _ (List.mem_of_getElem? (i := 2) rfl)) (hw _ (List.mem_of_getElem? (i := 29) rfl)) (by decide) (W := 2) (own_ch l Z a0 hw [] x (own_lit (p1 &&& (3 : Int32))) mm ch zc i0 5 fm h324 n0 sz324 fx328 hzc fx329 hfm fx331 hsl.2.2 hc hsl.2.1 (by omega) (by decide) hk5) e324  (pc := 263) (Ls := #[.val (.int p1), .val (.int p2), .val (.int p3), .val (.int p4), .val (.int (p1 &&& (3 : Int32))), .val (.int mm), .val (.ref x), .val (.int (Int32.ofNat (own_lit (p1 &&& (3 : Int32))).length)), .val (.int (Int32.ofNat i0)), .val (.int ch), .val (.int N), .val (.ref b), .unset, .unset, .unset]) (argsL := [(.ref x), (.int (Int32.ofNat (own_lit (p1 &&& (3 : Int32))).length)), (.int mm), (.int (Int32.ofNat i0)), (.int ch), (.int (5 : Int32))]) (rest := [(.int (5 : Int32)), (.ref b)]) (by rw [hml]; rfl) (lenOf own_pd11 rfl) rfl (hb hby at_263) (by decide) (by decide) (by decide) (by decide) ?_
                intro v332 T332 L332 X332 hQ332
                obtain ⟨rfl, N332, e332⟩ := hQ332
                show OGo p e below (T332.setTop (mkF m 266 #[.val (.int p1), .val (.int p2), .val (.int p3), .val (.int p4), .val (.int (p1 &&& (3 : Int32))), .val (.int mm), .val (.ref x), .val (.int (Int32.ofNat (own_lit (p1 &&& (3 : Int32))).length)), .val (.int (Int32.ofNat i0)), .val (.int ch), .val (.int N), .val (.ref b), .unset, .unset, .unset] [(.int ((own_T (own_lit (p1 &&& (3 : Int32))) mm i0 ch).getD 5 0)), (.int (5 : Int32)), (.ref b)])) _
                have Nc332 := Fr.app Nf324 N332
                obtain ⟨cA333, A333, q333, S333, M333, H333, G333⟩ := id (Vn323.pad (pad_rep _ _ 1))
                obtain ⟨T334, h334, X334, e334, W334, st334⟩ := stC X332 hx hZ e332 A333 (j := (5 : Int32)) (inb_of S333 ⟨by decide, hf5⟩) (g := (mkF m 266 #[.val (.int p1), .val (.int p2), .val (.int p3), .val (.int p4), .val (.int (p1 &&& (3 : Int32))), .val (.int mm), .val (.ref x), .val (.int (Int32.ofNat (own_lit (p1 &&& (3 : Int32))).length)), .val (.int (Int32.ofNat i0)), .val (.int ch), .val (.int N), .val (.ref b), .unset, .unset, .unset] [(.int ((own_T (own_lit (p1 &&& (3 : Int32))) mm i0 ch).getD 5 0)), (.int (5 : Int32)), (.ref b)])) rfl rfl (hb hby at_266)
                refine OGo.step st334 ?_
                show OGo p e below (T334.setTop (mkF m 267 #[.val (.int p1), .val (.int p2), .val (.int p3), .val (.int p4), .val (.int (p1 &&& (3 : Int32))), .val (.int mm), .val (.ref x), .val (.int (Int32.ofNat (own_lit (p1 &&& (3 : Int32))).length)), .val (.int (Int32.ofNat i0)), .val (.int ch), .val (.int N), .val (.ref b), .unset, .unset, .unset] [])) _
                have Vn333 : Arv Z h334 b k51 .char N (((own_T (own_lit (p1 &&& (3 : Int32))) mm i0 ch).take 6).map Value.int) (.int (0 : Int32)) := by rw [← own_ts hk5 hT.2]; exact Arv.set A333 q333 S333 M333 H333 G333 (fits_nar_char _) W334 5 rfl (own_tl hk5)
                have KK334 := KK324.wr W334 (Or.inl (List.mem_of_getElem? (i := 0) rfl))
                have Nf334 := Fr.snoc X334 Nc332 gf_b
                have sz334 : n0 ≤ h334.size := by rw [W334.size]; exact sz324
                have sw335 := (Safe.arr (EL := consts_1) OW326.2.1.alike A333 (by decide))
                have OW336 := OW326.wr W334 sw335
                refine OGo.step (fun _ kk => XS.iload X334.here hx rfl (hb hby at_267) rfl kk) ?_
                show OGo p e below (T334.setTop (mkF m 269 #[.val (.int p1), .val (.int p2), .val (.int p3), .val (.int p4), .val (.int (p1 &&& (3 : Int32))), .val (.int mm), .val (.ref x), .val (.int (Int32.ofNat (own_lit (p1 &&& (3 : Int32))).length)), .val (.int (Int32.ofNat i0)), .val (.int ch), .val (.int N), .val (.ref b), .unset, .unset, .unset] [(.int N)])) _
                refine OGo.step (fun _ kk => XS.bipush X334.here hx rfl (hb hby at_269) kk) ?_
                show OGo p e below (T334.setTop (mkF m 271 #[.val (.int p1), .val (.int p2), .val (.int p3), .val (.int p4), .val (.int (p1 &&& (3 : Int32))), .val (.int mm), .val (.ref x), .val (.int (Int32.ofNat (own_lit (p1 &&& (3 : Int32))).length)), .val (.int (Int32.ofNat i0)), .val (.int ch), .val (.int N), .val (.ref b), .unset, .unset, .unset] [(.int (6 : Int32)), (.int N)])) _
                by_cases hf6 : (6 : Int32) < N
                · refine OGo.step (fun _ kk => XS.icmpNo X334.here hx rfl (hb hby at_271) rfl (tlt hf6).2.2.2 kk) ?_
                  show OGo p e below (T334.setTop (mkF m 274 #[.val (.int p1), .val (.int p2), .val (.int p3), .val (.int p4), .val (.int (p1 &&& (3 : Int32))), .val (.int mm), .val (.ref x), .val (.int (Int32.ofNat (own_lit (p1 &&& (3 : Int32))).length)), .val (.int (Int32.ofNat i0)), .val (.int ch), .val (.int N), .val (.ref b), .unset, .unset, .unset] [])) _
                  have hk6 := own_lt14 6 (by decide) _ hT.1 (by rw [← hN]; exact hf6)
                  refine OGo.step (fun _ kk => XS.aload X334.here hx rfl (hb hby at_274) rfl rfl kk) ?_
                  show OGo p e below (T334.setTop (mkF m 276 #[.val (.int p1), .val (.int p2), .val (.int p3), .val (.int p4), .val (.int (p1 &&& (3 : Int32))), .val (.int mm), .val (.ref x), .val (.int (Int32.ofNat (own_lit (p1 &&& (3 : Int32))).length)), .val (.int (Int32.ofNat i0)), .val (.int ch), .val (.int N), .val (.ref b), .unset, .unset, .unset] [(.ref b)])) _
                  refine OGo.step (fun _ kk => XS.bipush X334.here hx rfl (hb hby at_276) kk) ?_
                  show OGo p e below (T334.setTop (mkF m 278 #[.val (.int p1), .val (.int p2), .val (.int p3), .val (.int p4), .val (.int (p1 &&& (3 : Int32))), .val (.int mm), .val (.ref x), .val (.int (Int32.ofNat (own_lit (p1 &&& (3 : Int32))).length)), .val (.int (Int32.ofNat i0)), .val (.int ch), .val (.int N), .val (.ref b), .unset, .unset, .unset] [(.int (6 : Int32)), (.ref b)])) _
                  refine OGo.step (fun _ kk => XS.aload X334.here hx rfl (hb hby at_278) rfl rfl kk) ?_
                  show OGo p e below (T334.setTop (mkF m 280 #[.val (.int p1), .val (.int p2), .val (.int p3), .val (.int p4), .val (.int (p1 &&& (3 : Int32))), .val (.int mm), .val (.ref x), .val (.int (Int32.ofNat (own_lit (p1 &&& (3 : Int32))).length)), .val (.int (Int32.ofNat i0)), .val (.int ch), .val (.int N), .val (.ref b), .unset, .unset, .unset] [(.ref x), (.int (6 : Int32)), (.ref b)])) _
                  refine OGo.step (fun _ kk => XS.iload X334.here hx rfl (hb hby at_280) rfl kk) ?_
                  show OGo p e below (T334.setTop (mkF m 282 #[.val (.int p1), .val (.int p2), .val (.int p3), .val (.int p4), .val (.int (p1 &&& (3 : Int32))), .val (.int mm), .val (.ref x), .val (.int (Int32.ofNat (own_lit (p1 &&& (3 : Int32))).length)), .val (.int (Int32.ofNat i0)), .val (.int ch), .val (.int N), .val (.ref b), .unset, .unset, .unset] [(.int (Int32.ofNat (own_lit (p1 &&& (3 : Int32))).length)), (.ref x), (.int (6 : Int32)), (.ref b)])) _
                  refine OGo.step (fun _ kk => XS.iload X334.here hx rfl (hb hby at_282) rfl kk) ?_
                  show OGo p e below (T334.setTop (mkF m 284 #[.val (.int p1), .val (.int p2), .val (.int p3), .val (.int p4), .val (.int (p1 &&& (3 : Int32))), .val (.int mm), .val (.ref x), .val (.int (Int32.ofNat (own_lit (p1 &&& (3 : Int32))).length)), .val (.int (Int32.ofNat i0)), .val (.int ch), .val (.int N), .val (.ref b), .unset, .unset, .unset] [(.int mm), (.int (Int32.ofNat (own_lit (p1 &&& (3 : Int32))).length)), (.ref x), (.int (6 : Int32)), (.ref b)])) _
                  refine OGo.step (fun _ kk => XS.iload X334.here hx rfl (hb hby at_284) rfl kk) ?_
                  show OGo p e below (T334.setTop (mkF m 286 #[.val (.int p1), .val (.int p2), .val (.int p3), .val (.int p4), .val (.int (p1 &&& (3 : Int32))), .val (.int mm), .val (.ref x), .val (.int (Int32.ofNat (own_lit (p1 &&& (3 : Int32))).length)), .val (.int (Int32.ofNat i0)), .val (.int ch), .val (.int N), .val (.ref b), .unset, .unset, .unset] [(.int (Int32.ofNat i0)), (.int mm), (.int (Int32.ofNat (own_lit (p1 &&& (3 : Int32))).length)), (.ref x), (.int (6 : Int32)), (.ref b)])) _
                  refine OGo.step (fun _ kk => XS.iload X334.here hx rfl (hb hby at_286) rfl kk) ?_
                  show OGo p e below (T334.setTop (mkF m 288 #[.val (.int p1), .val (.int p2), .val (.int p3), .val (.int p4), .val (.int (p1 &&& (3 : Int32))), .val (.int mm), .val (.ref x), .val (.int (Int32.ofNat (own_lit (p1 &&& (3 : Int32))).length)), .val (.int (Int32.ofNat i0)), .val (.int ch), .val (.int N), .val (.ref b), .unset, .unset, .unset] [(.int ch), (.int (Int32.ofNat i0)), (.int mm), (.int (Int32.ofNat (own_lit (p1 &&& (3 : Int32))).length)), (.ref x), (.int (6 : Int32)), (.ref b)])) _
                  refine OGo.step (fun _ kk => XS.bipush X334.here hx rfl (hb hby at_288) kk) ?_
                  show OGo p e below (T334.setTop (mkF m 290 #[.val (.int p1), .val (.int p2), .val (.int p3), .val (.int p4), .val (.int (p1 &&& (3 : Int32))), .val (.int mm), .val (.ref x), .val (.int (Int32.ofNat (own_lit (p1 &&& (3 : Int32))).length)), .val (.int (Int32.ofNat i0)), .val (.int ch), .val (.int N), .val (.ref b), .unset, .unset, .unset] [(.int (6 : Int32)), (.int ch), (.int (Int32.ofNat i0)), (.int mm), (.int (Int32.ofNat (own_lit (p1 &&& (3 : Int32))).length)), (.ref x), (.int (6 : Int32)), (.ref b)])) _
                  have xt337 := (own_ext_wr xt327 W334 (Nat.le_trans Xe48.1 (Nat.le_of_eq g51.symm)))
                  have fx338 := SC.ext xt337
                  have fx339 := SF.ext xt337
                  have xt340 := (own_ext_wr xt330 W334 (Nat.le_of_eq g51.symm))
                  have fx341 := Ox48.ext xt340
                  refine own_callS X334 hx hZ (y := (⟨"com/example/tenantd/tenantd/RoleTypeOfTextPinLaw", "ch", "(Ljava/lang/String;IIICI)C"⟩ : MethodName)) hown (hw _ (List.mem_of_getElem? (i := 27) rfl)) (hw _ (List.mem_of_getElem? (i := 28) rfl)) (hw _ (List.mem_of_getElem? (i := 2) rfl)) (hw _ (List.mem_of_getElem? (i := 29) rfl)) (by decide) (W := 2) (own_ch l Z a0 hw [] x (own_lit (p1 &&& (3 : Int32))) mm ch zc i0 6 fm h334 n0 sz334 fx338 hzc fx339 hfm fx341 hsl.2.2 hc hsl.2.1 (by omega) (by decide) hk6) e334  (pc := 290) (Ls := #[.val (.int p1), .val (.int p2), .val (.int p3), .val (.int p4), .val (.int (p1 &&& (3 : Int32))), .val (.int mm), .val (.ref x), .val (.int (Int32.ofNat (own_lit (p1 &&& (3 : Int32))).length)), .val (.int (Int32.ofNat i0)), .val (.int ch), .val (.int N), .val (.ref b), .unset, .unset, .unset]) (argsL := [(.ref x), (.int (Int32.ofNat (own_lit (p1 &&& (3 : Int32))).length)), (.int mm), (.int (Int32.ofNat i0)), (.int ch), (.int (6 : Int32))]) (rest := [(.int (6 : Int32)), (.ref b)]) (by rw [hml]; rfl) (lenOf own_pd11 rfl) rfl (hb hby at_290) (by decide) (by decide) (by decide) (by decide) ?_
                  intro v342 T342 L342 X342 hQ342
                  obtain ⟨rfl, N342, e342⟩ := hQ342
                  show OGo p e below (T342.setTop (mkF m 293 #[.val (.int p1), .val (.int p2), .val (.int p3), .val (.int p4), .val (.int (p1 &&& (3 : Int32))), .val (.int mm), .val (.ref x), .val (.int (Int32.ofNat (own_lit (p1 &&& (3 : Int32))).length)), .val (.int (Int32.ofNat i0)), .val (.int ch), .val (.int N), .val (.ref b), .unset, .unset, .unset] [(.int ((own_T (own_lit (p1 &&& (3 : Int32))) mm i0 ch).getD 6 0)), (.int (6 : Int32)), (.ref b)])) _
                  have Nc342 := Fr.app Nf334 N342
                  obtain ⟨cA343, A343, q343, S343, M343, H343, G343⟩ := id (Vn333.pad (pad_rep _ _ 1))
                  obtain ⟨T344, h344, X344, e344, W344, st344⟩ := stC X342 hx hZ e342 A343 (j := (6 : Int32)) (inb_of S343 ⟨by decide, hf6⟩) (g := (mkF m 293 #[.val (.int p1), .val (.int p2), .val (.int p3), .val (.int p4), .val (.int (p1 &&& (3 : Int32))), .val (.int mm), .val (.ref x), .val (.int (Int32.ofNat (own_lit (p1 &&& (3 : Int32))).length)), .val (.int (Int32.ofNat i0)), .val (.int ch), .val (.int N), .val (.ref b), .unset, .unset, .unset] [(.int ((own_T (own_lit (p1 &&& (3 : Int32))) mm i0 ch).getD 6 0)), (.int (6 : Int32)), (.ref b)])) rfl rfl (hb hby at_293)
                  refine OGo.step st344 ?_
                  show OGo p e below (T344.setTop (mkF m 294 #[.val (.int p1), .val (.int p2), .val (.int p3), .val (.int p4), .val (.int (p1 &&& (3 : Int32))), .val (.int mm), .val (.ref x), .val (.int (Int32.ofNat (own_lit (p1 &&& (3 : Int32))).length)), .val (.int (Int32.ofNat i0)), .val (.int ch), .val (.int N), .val (.ref b), .unset, .unset, .unset] [])) _
                  have Vn343 : Arv Z h344 b k51 .char N (((own_T (own_lit (p1 &&& (3 : Int32))) mm i0 ch).take 7).map Value.int) (.int (0 : Int32)) := by rw [← own_ts hk6 hT.2]; exact Arv.set A343 q343 S343 M343 H343 G343 (fits_nar_char _) W344 6 rfl (own_tl hk6)
                  have KK344 := KK334.wr W344 (Or.inl (List.mem_of_getElem? (i := 0) rfl))
                  have Nf344 := Fr.snoc X344 Nc342 gf_b
                  have sz344 : n0 ≤ h344.size := by rw [W344.size]; exact sz334
                  have sw345 := (Safe.arr (EL := consts_1) OW336.2.1.alike A343 (by decide))
                  have OW346 := OW336.wr W344 sw345
                  refine OGo.step (fun _ kk => XS.iload X344.here hx rfl (hb hby at_294) rfl kk) ?_
                  show OGo p e below (T344.setTop (mkF m 296 #[.val (.int p1), .val (.int p2), .val (.int p3), .val (.int p4), .val (.int (p1 &&& (3 : Int32))), .val (.int mm), .val (.ref x), .val (.int (Int32.ofNat (own_lit (p1 &&& (3 : Int32))).length)), .val (.int (Int32.ofNat i0)), .val (.int ch), .val (.int N), .val (.ref b), .unset, .unset, .unset] [(.int N)])) _
                  refine OGo.step (fun _ kk => XS.bipush X344.here hx rfl (hb hby at_296) kk) ?_
                  show OGo p e below (T344.setTop (mkF m 298 #[.val (.int p1), .val (.int p2), .val (.int p3), .val (.int p4), .val (.int (p1 &&& (3 : Int32))), .val (.int mm), .val (.ref x), .val (.int (Int32.ofNat (own_lit (p1 &&& (3 : Int32))).length)), .val (.int (Int32.ofNat i0)), .val (.int ch), .val (.int N), .val (.ref b), .unset, .unset, .unset] [(.int (7 : Int32)), (.int N)])) _
                  by_cases hf7 : (7 : Int32) < N
                  · refine OGo.step (fun _ kk => XS.icmpNo X344.here hx rfl (hb hby at_298) rfl (tlt hf7).2.2.2 kk) ?_
                    show OGo p e below (T344.setTop (mkF m 301 #[.val (.int p1), .val (.int p2), .val (.int p3), .val (.int p4), .val (.int (p1 &&& (3 : Int32))), .val (.int mm), .val (.ref x), .val (.int (Int32.ofNat (own_lit (p1 &&& (3 : Int32))).length)), .val (.int (Int32.ofNat i0)), .val (.int ch), .val (.int N), .val (.ref b), .unset, .unset, .unset] [])) _
                    have hk7 := own_lt14 7 (by decide) _ hT.1 (by rw [← hN]; exact hf7)
                    refine OGo.step (fun _ kk => XS.aload X344.here hx rfl (hb hby at_301) rfl rfl kk) ?_
                    show OGo p e below (T344.setTop (mkF m 303 #[.val (.int p1), .val (.int p2), .val (.int p3), .val (.int p4), .val (.int (p1 &&& (3 : Int32))), .val (.int mm), .val (.ref x), .val (.int (Int32.ofNat (own_lit (p1 &&& (3 : Int32))).length)), .val (.int (Int32.ofNat i0)), .val (.int ch), .val (.int N), .val (.ref b), .unset, .unset, .unset] [(.ref b)])) _
                    refine OGo.step (fun _ kk => XS.bipush X344.here hx rfl (hb hby at_303) kk) ?_
                    show OGo p e below (T344.setTop (mkF m 305 #[.val (.int p1), .val (.int p2), .val (.int p3), .val (.int p4), .val (.int (p1 &&& (3 : Int32))), .val (.int mm), .val (.ref x), .val (.int (Int32.ofNat (own_lit (p1 &&& (3 : Int32))).length)), .val (.int (Int32.ofNat i0)), .val (.int ch), .val (.int N), .val (.ref b), .unset, .unset, .unset] [(.int (7 : Int32)), (.ref b)])) _
                    refine OGo.step (fun _ kk => XS.aload X344.here hx rfl (hb hby at_305) rfl rfl kk) ?_
                    show OGo p e below (T344.setTop (mkF m 307 #[.val (.int p1), .val (.int p2), .val (.int p3), .val (.int p4), .val (.int (p1 &&& (3 : Int32))), .val (.int mm), .val (.ref x), .val (.int (Int32.ofNat (own_lit (p1 &&& (3 : Int32))).length)), .val (.int (Int32.ofNat i0)), .val (.int ch), .val (.int N), .val (.ref b), .unset, .unset, .unset] [(.ref x), (.int (7 : Int32)), (.ref b)])) _
                    refine OGo.step (fun _ kk => XS.iload X344.here hx rfl (hb hby at_307) rfl kk) ?_
                    show OGo p e below (T344.setTop (mkF m 309 #[.val (.int p1), .val (.int p2), .val (.int p3), .val (.int p4), .val (.int (p1 &&& (3 : Int32))), .val (.int mm), .val (.ref x), .val (.int (Int32.ofNat (own_lit (p1 &&& (3 : Int32))).length)), .val (.int (Int32.ofNat i0)), .val (.int ch), .val (.int N), .val (.ref b), .unset, .unset, .unset] [(.int (Int32.ofNat (own_lit (p1 &&& (3 : Int32))).length)), (.ref x), (.int (7 : Int32)), (.ref b)])) _
                    refine OGo.step (fun _ kk => XS.iload X344.here hx rfl (hb hby at_309) rfl kk) ?_
                    show OGo p e below (T344.setTop (mkF m 311 #[.val (.int p1), .val (.int p2), .val (.int p3), .val (.int p4), .val (.int (p1 &&& (3 : Int32))), .val (.int mm), .val (.ref x), .val (.int (Int32.ofNat (own_lit (p1 &&& (3 : Int32))).length)), .val (.int (Int32.ofNat i0)), .val (.int ch), .val (.int N), .val (.ref b), .unset, .unset, .unset] [(.int mm), (.int (Int32.ofNat (own_lit (p1 &&& (3 : Int32))).length)), (.ref x), (.int (7 : Int32)), (.ref b)])) _
                    refine OGo.step (fun _ kk => XS.iload X344.here hx rfl (hb hby at_311) rfl kk) ?_
                    show OGo p e below (T344.setTop (mkF m 313 #[.val (.int p1), .val (.int p2), .val (.int p3), .val (.int p4), .val (.int (p1 &&& (3 : Int32))), .val (.int mm), .val (.ref x), .val (.int (Int32.ofNat (own_lit (p1 &&& (3 : Int32))).length)), .val (.int (Int32.ofNat i0)), .val (.int ch), .val (.int N), .val (.ref b), .unset, .unset, .unset] [(.int (Int32.ofNat i0)), (.int mm), (.int (Int32.ofNat (own_lit (p1 &&& (3 : Int32))).length)), (.ref x), (.int (7 : Int32)), (.ref b)])) _
                    refine OGo.step (fun _ kk => XS.iload X344.here hx rfl (hb hby at_313) rfl kk) ?_
                    show OGo p e below (T344.setTop (mkF m 315 #[.val (.int p1), .val (.int p2), .val (.int p3), .val (.int p4), .val (.int (p1 &&& (3 : Int32))), .val (.int mm), .val (.ref x), .val (.int (Int32.ofNat (own_lit (p1 &&& (3 : Int32))).length)), .val (.int (Int32.ofNat i0)), .val (.int ch), .val (.int N), .val (.ref b), .unset, .unset, .unset] [(.int ch), (.int (Int32.ofNat i0)), (.int mm), (.int (Int32.ofNat (own_lit (p1 &&& (3 : Int32))).length)), (.ref x), (.int (7 : Int32)), (.ref b)])) _
                    refine OGo.step (fun _ kk => XS.bipush X344.here hx rfl (hb hby at_315) kk) ?_
                    show OGo p e below (T344.setTop (mkF m 317 #[.val (.int p1), .val (.int p2), .val (.int p3), .val (.int p4), .val (.int (p1 &&& (3 : Int32))), .val (.int mm), .val (.ref x), .val (.int (Int32.ofNat (own_lit (p1 &&& (3 : Int32))).length)), .val (.int (Int32.ofNat i0)), .val (.int ch), .val (.int N), .val (.ref b), .unset, .unset, .unset] [(.int (7 : Int32)), (.int ch), (.int (Int32.ofNat i0)), (.int mm), (.int (Int32.ofNat (own_lit (p1 &&& (3 : Int32))).length)), (.ref x), (.int (7 : Int32)), (.ref b)])) _
                    have xt347 := (own_ext_wr xt337 W344 (Nat.le_trans Xe48.1 (Nat.le_of_eq g51.symm)))
                    have fx348 := SC.ext xt347
                    have fx349 := SF.ext xt347
                    have xt350 := (own_ext_wr xt340 W344 (Nat.le_of_eq g51.symm))
                    have fx351 := Ox48.ext xt350
                    refine own_callS X344 hx hZ (y := (⟨"com/example/tenantd/tenantd/RoleTypeOfTextPinLaw", "ch", "(Ljava/lang/String;IIICI)C"⟩ : MethodName)) hown (hw _ (List.mem_of_getElem? (i := 27) rfl)) (hw _ (List.mem_of_getElem? (i := 28) rfl)) (hw _ (List.mem_of_getElem? (i := 2) rfl)) (hw _ (List.mem_of_getElem? (i := 29) rfl)) (by decide) (W := 2) (own_ch l Z a0 hw [] x (own_lit (p1 &&& (3 : Int32))) mm ch zc i0 7 fm h344 n0 sz344 fx348 hzc fx349 hfm fx351 hsl.2.2 hc hsl.2.1 (by omega) (by decide) hk7) e344  (pc := 317) (Ls := #[.val (.int p1), .val (.int p2), .val (.int p3), .val (.int p4), .val (.int (p1 &&& (3 : Int32))), .val (.int mm), .val (.ref x), .val (.int (Int32.ofNat (own_lit (p1 &&& (3 : Int32))).length)), .val (.int (Int32.ofNat i0)), .val (.int ch), .val (.int N), .val (.ref b), .unset, .unset, .unset]) (argsL := [(.ref x), (.int (Int32.ofNat (own_lit (p1 &&& (3 : Int32))).length)), (.int mm), (.int (Int32.ofNat i0)), (.int ch), (.int (7 : Int32))]) (rest := [(.int (7 : Int32)), (.ref b)]) (by rw [hml]; rfl) (lenOf own_pd11 rfl) rfl (hb hby at_317) (by decide) (by decide) (by decide) (by decide) ?_
                    intro v352 T352 L352 X352 hQ352
                    obtain ⟨rfl, N352, e352⟩ := hQ352
                    show OGo p e below (T352.setTop (mkF m 320 #[.val (.int p1), .val (.int p2), .val (.int p3), .val (.int p4), .val (.int (p1 &&& (3 : Int32))), .val (.int mm), .val (.ref x), .val (.int (Int32.ofNat (own_lit (p1 &&& (3 : Int32))).length)), .val (.int (Int32.ofNat i0)), .val (.int ch), .val (.int N), .val (.ref b), .unset, .unset, .unset] [(.int ((own_T (own_lit (p1 &&& (3 : Int32))) mm i0 ch).getD 7 0)), (.int (7 : Int32)), (.ref b)])) _
                    have Nc352 := Fr.app Nf344 N352
                    obtain ⟨cA353, A353, q353, S353, M353, H353, G353⟩ := id (Vn343.pad (pad_rep _ _ 1))
                    obtain ⟨T354, h354, X354, e354, W354, st354⟩ := stC X352 hx hZ e352 A353 (j := (7 : Int32)) (inb_of S353 ⟨by decide, hf7⟩) (g := (mkF m 320 #[.val (.int p1), .val (.int p2), .val (.int p3), .val (.int p4), .val (.int (p1 &&& (3 : Int32))), .val (.int mm), .val (.ref x), .val (.int (Int32.ofNat (own_lit (p1 &&& (3 : Int32))).length)), .val (.int (Int32.ofNat i0)), .val (.int ch), .val (.int N), .val (.ref b), .unset, .unset, .unset] [(.int ((own_T (own_lit (p1 &&& (3 : Int32))) mm i0 ch).getD 7 0)), (.int (7 : Int32)), (.ref b)])) rfl rfl (hb hby at_320)
                    refine OGo.step st354 ?_
                    show OGo p e below (T354.setTop (mkF m 321 #[.val (.int p1), .val (.int p2), .val (.int p3), .val (.int p4), .val (.int (p1 &&& (3 : Int32))), .val (.int mm), .val (.ref x), .val (.int (Int32.ofNat (own_lit (p1 &&& (3 : Int32))).length)), .val (.int (Int32.ofNat i0)), .val (.int ch), .val (.int N), .val (.ref b), .unset, .unset, .unset] [])) _
                    have Vn353 : Arv Z h354 b k51 .char N (((own_T (own_lit (p1 &&& (3 : Int32))) mm i0 ch).take 8).map Value.int) (.int (0 : Int32)) := by rw [← own_ts hk7 hT.2]; exact Arv.set A353 q353 S353 M353 H353 G353 (fits_nar_char _) W354 7 rfl (own_tl hk7)
                    have KK354 := KK344.wr W354 (Or.inl (List.mem_of_getElem? (i := 0) rfl))
                    have Nf354 := Fr.snoc X354 Nc352 gf_b
                    have sz354 : n0 ≤ h354.size := by rw [W354.size]; exact sz344
                    have sw355 := (Safe.arr (EL := consts_1) OW346.2.1.alike A353 (by decide))
                    have OW356 := OW346.wr W354 sw355
                    refine OGo.step (fun _ kk => XS.iload X354.here hx rfl (hb hby at_321) rfl kk) ?_
                    show OGo p e below (T354.setTop (mkF m 323 #[.val (.int p1), .val (.int p2), .val (.int p3), .val (.int p4), .val (.int (p1 &&& (3 : Int32))), .val (.int mm), .val (.ref x), .val (.int (Int32.ofNat (own_lit (p1 &&& (3 : Int32))).length)), .val (.int (Int32.ofNat i0)), .val (.int ch), .val (.int N), .val (.ref b), .unset, .unset, .unset] [(.int N)])) _
                    refine OGo.step (fun _ kk => XS.bipush X354.here hx rfl (hb hby at_323) kk) ?_
                    show OGo p e below (T354.setTop (mkF m 325 #[.val (.int p1), .val (.int p2), .val (.int p3), .val (.int p4), .val (.int (p1 &&& (3 : Int32))), .val (.int mm), .val (.ref x), .val (.int (Int32.ofNat (own_lit (p1 &&& (3 : Int32))).length)), .val (.int (Int32.ofNat i0)), .val (.int ch), .val (.int N), .val (.ref b), .unset, .unset, .unset] [(.int (8 : Int32)), (.int N)])) _
                    by_cases hf8 : (8 : Int32) < N
                    · refine OGo.step (fun _ kk => XS.icmpNo X354.here hx rfl (hb hby at_325) rfl (tlt hf8).2.2.2 kk) ?_
                      show OGo p e below (T354.setTop (mkF m 328 #[.val (.int p1), .val (.int p2), .val (.int p3), .val (.int p4), .val (.int (p1 &&& (3 : Int32))), .val (.int mm), .val (.ref x), .val (.int (Int32.ofNat (own_lit (p1 &&& (3 : Int32))).length)), .val (.int (Int32.ofNat i0)), .val (.int ch), .val (.int N), .val (.ref b), .unset, .unset, .unset] [])) _
                      have hk8 := own_lt14 8 (by decide) _ hT.1 (by rw [← hN]; exact hf8)
                      refine OGo.step (fun _ kk => XS.aload X354.here hx rfl (hb hby at_328) rfl rfl kk) ?_
                      show OGo p e below (T354.setTop (mkF m 330 #[.val (.int p1), .val (.int p2), .val (.int p3), .val (.int p4), .val (.int (p1 &&& (3 : Int32))), .val (.int mm), .val (.ref x), .val (.int (Int32.ofNat (own_lit (p1 &&& (3 : Int32))).length)), .val (.int (Int32.ofNat i0)), .val (.int ch), .val (.int N), .val (.ref b), .unset, .unset, .unset] [(.ref b)])) _
                      refine OGo.step (fun _ kk => XS.bipush X354.here hx rfl (hb hby at_330) kk) ?_
                      show OGo p e below (T354.setTop (mkF m 332 #[.val (.int p1), .val (.int p2), .val (.int p3), .val (.int p4), .val (.int (p1 &&& (3 : Int32))), .val (.int mm), .val (.ref x), .val (.int (Int32.ofNat (own_lit (p1 &&& (3 : Int32))).length)), .val (.int (Int32.ofNat i0)), .val (.int ch), .val (.int N), .val (.ref b), .unset, .unset, .unset] [(.int (8 : Int32)), (.ref b)])) _
                      refine OGo.step (fun _ kk => XS.aload X354.here hx rfl (hb hby at_332) rfl rfl kk) ?_
                      show OGo p e below (T354.setTop (mkF m 334 #[.val (.int p1), .val (.int p2), .val (.int p3), .val (.int p4), .val (.int (p1 &&& (3 : Int32))), .val (.int mm), .val (.ref x), .val (.int (Int32.ofNat (own_lit (p1 &&& (3 : Int32))).length)), .val (.int (Int32.ofNat i0)), .val (.int ch), .val (.int N), .val (.ref b), .unset, .unset, .unset] [(.ref x), (.int (8 : Int32)), (.ref b)])) _
                      refine OGo.step (fun _ kk => XS.iload X354.here hx rfl (hb hby at_334) rfl kk) ?_
                      show OGo p e below (T354.setTop (mkF m 336 #[.val (.int p1), .val (.int p2), .val (.int p3), .val (.int p4), .val (.int (p1 &&& (3 : Int32))), .val (.int mm), .val (.ref x), .val (.int (Int32.ofNat (own_lit (p1 &&& (3 : Int32))).length)), .val (.int (Int32.ofNat i0)), .val (.int ch), .val (.int N), .val (.ref b), .unset, .unset, .unset] [(.int (Int32.ofNat (own_lit (p1 &&& (3 : Int32))).length)), (.ref x), (.int (8 : Int32)), (.ref b)])) _
                      refine OGo.step (fun _ kk => XS.iload X354.here hx rfl (hb hby at_336) rfl kk) ?_
                      show OGo p e below (T354.setTop (mkF m 338 #[.val (.int p1), .val (.int p2), .val (.int p3), .val (.int p4), .val (.int (p1 &&& (3 : Int32))), .val (.int mm), .val (.ref x), .val (.int (Int32.ofNat (own_lit (p1 &&& (3 : Int32))).length)), .val (.int (Int32.ofNat i0)), .val (.int ch), .val (.int N), .val (.ref b), .unset, .unset, .unset] [(.int mm), (.int (Int32.ofNat (own_lit (p1 &&& (3 : Int32))).length)), (.ref x), (.int (8 : Int32)), (.ref b)])) _
                      refine OGo.step (fun _ kk => XS.iload X354.here hx rfl (hb hby at_338) rfl kk) ?_
                      show OGo p e below (T354.setTop (mkF m 340 #[.val (.int p1), .val (.int p2), .val (.int p3), .val (.int p4), .val (.int (p1 &&& (3 : Int32))), .val (.int mm), .val (.ref x), .val (.int (Int32.ofNat (own_lit (p1 &&& (3 : Int32))).length)), .val (.int (Int32.ofNat i0)), .val (.int ch), .val (.int N), .val (.ref b), .unset, .unset, .unset] [(.int (Int32.ofNat i0)), (.int mm), (.int (Int32.ofNat (own_lit (p1 &&& (3 : Int32))).length)), (.ref x), (.int (8 : Int32)), (.ref b)])) _
                      refine OGo.step (fun _ kk => XS.iload X354.here hx rfl (hb hby at_340) rfl kk) ?_
                      show OGo p e below (T354.setTop (mkF m 342 #[.val (.int p1), .val (.int p2), .val (.int p3), .val (.int p4), .val (.int (p1 &&& (3 : Int32))), .val (.int mm), .val (.ref x), .val (.int (Int32.ofNat (own_lit (p1 &&& (3 : Int32))).length)), .val (.int (Int32.ofNat i0)), .val (.int ch), .val (.int N), .val (.ref b), .unset, .unset, .unset] [(.int ch), (.int (Int32.ofNat i0)), (.int mm), (.int (Int32.ofNat (own_lit (p1 &&& (3 : Int32))).length)), (.ref x), (.int (8 : Int32)), (.ref b)])) _
                      refine OGo.step (fun _ kk => XS.bipush X354.here hx rfl (hb hby at_342) kk) ?_
                      show OGo p e below (T354.setTop (mkF m 344 #[.val (.int p1), .val (.int p2), .val (.int p3), .val (.int p4), .val (.int (p1 &&& (3 : Int32))), .val (.int mm), .val (.ref x), .val (.int (Int32.ofNat (own_lit (p1 &&& (3 : Int32))).length)), .val (.int (Int32.ofNat i0)), .val (.int ch), .val (.int N), .val (.ref b), .unset, .unset, .unset] [(.int (8 : Int32)), (.int ch), (.int (Int32.ofNat i0)), (.int mm), (.int (Int32.ofNat (own_lit (p1 &&& (3 : Int32))).length)), (.ref x), (.int (8 : Int32)), (.ref b)])) _
                      have xt357 := (own_ext_wr xt347 W354 (Nat.le_trans Xe48.1 (Nat.le_of_eq g51.symm)))
                      have fx358 := SC.ext xt357
                      have fx359 := SF.ext xt357
                      have xt360 := (own_ext_wr xt350 W354 (Nat.le_of_eq g51.symm))
                      have fx361 := Ox48.ext xt360
                      refine own_callS X354 hx hZ (y := (⟨"com/example/tenantd/tenantd/RoleTypeOfTextPinLaw", "ch", "(Ljava/lang/String;IIICI)C"⟩ : MethodName)) hown (hw _ (List.mem_of_getElem? (i := 27) rfl)) (hw _ (List.mem_of_getElem? (i := 28) rfl)) (hw _ (List.mem_of_getElem? (i := 2) rfl)) (hw _ (List.mem_of_getElem? (i := 29) rfl)) (by decide) (W := 2) (own_ch l Z a0 hw [] x (own_lit (p1 &&& (3 : Int32))) mm ch zc i0 8 fm h354 n0 sz354 fx358 hzc fx359 hfm fx361 hsl.2.2 hc hsl.2.1 (by omega) (by decide) hk8) e354  (pc := 344) (Ls := #[.val (.int p1), .val (.int p2), .val (.int p3), .val (.int p4), .val (.int (p1 &&& (3 : Int32))), .val (.int mm), .val (.ref x), .val (.int (Int32.ofNat (own_lit (p1 &&& (3 : Int32))).length)), .val (.int (Int32.ofNat i0)), .val (.int ch), .val (.int N), .val (.ref b), .unset, .unset, .unset]) (argsL := [(.ref x), (.int (Int32.ofNat (own_lit (p1 &&& (3 : Int32))).length)), (.int mm), (.int (Int32.ofNat i0)), (.int ch), (.int (8 : Int32))]) (rest := [(.int (8 : Int32)), (.ref b)]) (by rw [hml]; rfl) (lenOf own_pd11 rfl) rfl (hb hby at_344) (by decide) (by decide) (by decide) (by decide) ?_
                      intro v362 T362 L362 X362 hQ362
                      obtain ⟨rfl, N362, e362⟩ := hQ362
                      show OGo p e below (T362.setTop (mkF m 347 #[.val (.int p1), .val (.int p2), .val (.int p3), .val (.int p4), .val (.int (p1 &&& (3 : Int32))), .val (.int mm), .val (.ref x), .val (.int (Int32.ofNat (own_lit (p1 &&& (3 : Int32))).length)), .val (.int (Int32.ofNat i0)), .val (.int ch), .val (.int N), .val (.ref b), .unset, .unset, .unset] [(.int ((own_T (own_lit (p1 &&& (3 : Int32))) mm i0 ch).getD 8 0)), (.int (8 : Int32)), (.ref b)])) _
                      have Nc362 := Fr.app Nf354 N362
                      obtain ⟨cA363, A363, q363, S363, M363, H363, G363⟩ := id (Vn353.pad (pad_rep _ _ 1))
                      obtain ⟨T364, h364, X364, e364, W364, st364⟩ := stC X362 hx hZ e362 A363 (j := (8 : Int32)) (inb_of S363 ⟨by decide, hf8⟩) (g := (mkF m 347 #[.val (.int p1), .val (.int p2), .val (.int p3), .val (.int p4), .val (.int (p1 &&& (3 : Int32))), .val (.int mm), .val (.ref x), .val (.int (Int32.ofNat (own_lit (p1 &&& (3 : Int32))).length)), .val (.int (Int32.ofNat i0)), .val (.int ch), .val (.int N), .val (.ref b), .unset, .unset, .unset] [(.int ((own_T (own_lit (p1 &&& (3 : Int32))) mm i0 ch).getD 8 0)), (.int (8 : Int32)), (.ref b)])) rfl rfl (hb hby at_347)
                      refine OGo.step st364 ?_
                      show OGo p e below (T364.setTop (mkF m 348 #[.val (.int p1), .val (.int p2), .val (.int p3), .val (.int p4), .val (.int (p1 &&& (3 : Int32))), .val (.int mm), .val (.ref x), .val (.int (Int32.ofNat (own_lit (p1 &&& (3 : Int32))).length)), .val (.int (Int32.ofNat i0)), .val (.int ch), .val (.int N), .val (.ref b), .unset, .unset, .unset] [])) _
                      have Vn363 : Arv Z h364 b k51 .char N (((own_T (own_lit (p1 &&& (3 : Int32))) mm i0 ch).take 9).map Value.int) (.int (0 : Int32)) := by rw [← own_ts hk8 hT.2]; exact Arv.set A363 q363 S363 M363 H363 G363 (fits_nar_char _) W364 8 rfl (own_tl hk8)
                      have KK364 := KK354.wr W364 (Or.inl (List.mem_of_getElem? (i := 0) rfl))
                      have Nf364 := Fr.snoc X364 Nc362 gf_b
                      have sz364 : n0 ≤ h364.size := by rw [W364.size]; exact sz354
                      have sw365 := (Safe.arr (EL := consts_1) OW356.2.1.alike A363 (by decide))
                      have OW366 := OW356.wr W364 sw365
                      refine OGo.step (fun _ kk => XS.iload X364.here hx rfl (hb hby at_348) rfl kk) ?_
                      show OGo p e below (T364.setTop (mkF m 350 #[.val (.int p1), .val (.int p2), .val (.int p3), .val (.int p4), .val (.int (p1 &&& (3 : Int32))), .val (.int mm), .val (.ref x), .val (.int (Int32.ofNat (own_lit (p1 &&& (3 : Int32))).length)), .val (.int (Int32.ofNat i0)), .val (.int ch), .val (.int N), .val (.ref b), .unset, .unset, .unset] [(.int N)])) _
                      refine OGo.step (fun _ kk => XS.bipush X364.here hx rfl (hb hby at_350) kk) ?_
                      show OGo p e below (T364.setTop (mkF m 352 #[.val (.int p1), .val (.int p2), .val (.int p3), .val (.int p4), .val (.int (p1 &&& (3 : Int32))), .val (.int mm), .val (.ref x), .val (.int (Int32.ofNat (own_lit (p1 &&& (3 : Int32))).length)), .val (.int (Int32.ofNat i0)), .val (.int ch), .val (.int N), .val (.ref b), .unset, .unset, .unset] [(.int (9 : Int32)), (.int N)])) _
                      by_cases hf9 : (9 : Int32) < N
                      · refine OGo.step (fun _ kk => XS.icmpNo X364.here hx rfl (hb hby at_352) rfl (tlt hf9).2.2.2 kk) ?_
                        show OGo p e below (T364.setTop (mkF m 355 #[.val (.int p1), .val (.int p2), .val (.int p3), .val (.int p4), .val (.int (p1 &&& (3 : Int32))), .val (.int mm), .val (.ref x), .val (.int (Int32.ofNat (own_lit (p1 &&& (3 : Int32))).length)), .val (.int (Int32.ofNat i0)), .val (.int ch), .val (.int N), .val (.ref b), .unset, .unset, .unset] [])) _
                        have hk9 := own_lt14 9 (by decide) _ hT.1 (by rw [← hN]; exact hf9)
                        refine OGo.step (fun _ kk => XS.aload X364.here hx rfl (hb hby at_355) rfl rfl kk) ?_
                        show OGo p e below (T364.setTop (mkF m 357 #[.val (.int p1), .val (.int p2), .val (.int p3), .val (.int p4), .val (.int (p1 &&& (3 : Int32))), .val (.int mm), .val (.ref x), .val (.int (Int32.ofNat (own_lit (p1 &&& (3 : Int32))).length)), .val (.int (Int32.ofNat i0)), .val (.int ch), .val (.int N), .val (.ref b), .unset, .unset, .unset] [(.ref b)])) _
                        refine OGo.step (fun _ kk => XS.bipush X364.here hx rfl (hb hby at_357) kk) ?_
                        show OGo p e below (T364.setTop (mkF m 359 #[.val (.int p1), .val (.int p2), .val (.int p3), .val (.int p4), .val (.int (p1 &&& (3 : Int32))), .val (.int mm), .val (.ref x), .val (.int (Int32.ofNat (own_lit (p1 &&& (3 : Int32))).length)), .val (.int (Int32.ofNat i0)), .val (.int ch), .val (.int N), .val (.ref b), .unset, .unset, .unset] [(.int (9 : Int32)), (.ref b)])) _
                        refine OGo.step (fun _ kk => XS.aload X364.here hx rfl (hb hby at_359) rfl rfl kk) ?_
                        show OGo p e below (T364.setTop (mkF m 361 #[.val (.int p1), .val (.int p2), .val (.int p3), .val (.int p4), .val (.int (p1 &&& (3 : Int32))), .val (.int mm), .val (.ref x), .val (.int (Int32.ofNat (own_lit (p1 &&& (3 : Int32))).length)), .val (.int (Int32.ofNat i0)), .val (.int ch), .val (.int N), .val (.ref b), .unset, .unset, .unset] [(.ref x), (.int (9 : Int32)), (.ref b)])) _
                        refine OGo.step (fun _ kk => XS.iload X364.here hx rfl (hb hby at_361) rfl kk) ?_
                        show OGo p e below (T364.setTop (mkF m 363 #[.val (.int p1), .val (.int p2), .val (.int p3), .val (.int p4), .val (.int (p1 &&& (3 : Int32))), .val (.int mm), .val (.ref x), .val (.int (Int32.ofNat (own_lit (p1 &&& (3 : Int32))).length)), .val (.int (Int32.ofNat i0)), .val (.int ch), .val (.int N), .val (.ref b), .unset, .unset, .unset] [(.int (Int32.ofNat (own_lit (p1 &&& (3 : Int32))).length)), (.ref x), (.int (9 : Int32)), (.ref b)])) _
                        refine OGo.step (fun _ kk => XS.iload X364.here hx rfl (hb hby at_363) rfl kk) ?_
                        show OGo p e below (T364.setTop (mkF m 365 #[.val (.int p1), .val (.int p2), .val (.int p3), .val (.int p4), .val (.int (p1 &&& (3 : Int32))), .val (.int mm), .val (.ref x), .val (.int (Int32.ofNat (own_lit (p1 &&& (3 : Int32))).length)), .val (.int (Int32.ofNat i0)), .val (.int ch), .val (.int N), .val (.ref b), .unset, .unset, .unset] [(.int mm), (.int (Int32.ofNat (own_lit (p1 &&& (3 : Int32))).length)), (.ref x), (.int (9 : Int32)), (.ref b)])) _
                        refine OGo.step (fun _ kk => XS.iload X364.here hx rfl (hb hby at_365) rfl kk) ?_
                        show OGo p e below (T364.setTop (mkF m 367 #[.val (.int p1), .val (.int p2), .val (.int p3), .val (.int p4), .val (.int (p1 &&& (3 : Int32))), .val (.int mm), .val (.ref x), .val (.int (Int32.ofNat (own_lit (p1 &&& (3 : Int32))).length)), .val (.int (Int32.ofNat i0)), .val (.int ch), .val (.int N), .val (.ref b), .unset, .unset, .unset] [(.int (Int32.ofNat i0)), (.int mm), (.int (Int32.ofNat (own_lit (p1 &&& (3 : Int32))).length)), (.ref x), (.int (9 : Int32)), (.ref b)])) _
                        refine OGo.step (fun _ kk => XS.iload X364.here hx rfl (hb hby at_367) rfl kk) ?_
                        show OGo p e below (T364.setTop (mkF m 369 #[.val (.int p1), .val (.int p2), .val (.int p3), .val (.int p4), .val (.int (p1 &&& (3 : Int32))), .val (.int mm), .val (.ref x), .val (.int (Int32.ofNat (own_lit (p1 &&& (3 : Int32))).length)), .val (.int (Int32.ofNat i0)), .val (.int ch), .val (.int N), .val (.ref b), .unset, .unset, .unset] [(.int ch), (.int (Int32.ofNat i0)), (.int mm), (.int (Int32.ofNat (own_lit (p1 &&& (3 : Int32))).length)), (.ref x), (.int (9 : Int32)), (.ref b)])) _
                        refine OGo.step (fun _ kk => XS.bipush X364.here hx rfl (hb hby at_369) kk) ?_
                        show OGo p e below (T364.setTop (mkF m 371 #[.val (.int p1), .val (.int p2), .val (.int p3), .val (.int p4), .val (.int (p1 &&& (3 : Int32))), .val (.int mm), .val (.ref x), .val (.int (Int32.ofNat (own_lit (p1 &&& (3 : Int32))).length)), .val (.int (Int32.ofNat i0)), .val (.int ch), .val (.int N), .val (.ref b), .unset, .unset, .unset] [(.int (9 : Int32)), (.int ch), (.int (Int32.ofNat i0)), (.int mm), (.int (Int32.ofNat (own_lit (p1 &&& (3 : Int32))).length)), (.ref x), (.int (9 : Int32)), (.ref b)])) _
                        have xt367 := (own_ext_wr xt357 W364 (Nat.le_trans Xe48.1 (Nat.le_of_eq g51.symm)))
                        have fx368 := SC.ext xt367
                        have fx369 := SF.ext xt367
                        have xt370 := (own_ext_wr xt360 W364 (Nat.le_of_eq g51.symm))
                        have fx371 := Ox48.ext xt370
                        refine own_callS X364 hx hZ (y := (⟨"com/example/tenantd/tenantd/RoleTypeOfTextPinLaw", "ch", "(Ljava/lang/String;IIICI)C"⟩ : MethodName)) hown (hw _ (List.mem_of_getElem? (i := 27) rfl)) (hw _ (List.mem_of_getElem? (i := 28) rfl)) (hw _ (List.mem_of_getElem? (i := 2) rfl)) (hw _ (List.mem_of_getElem? (i := 29) rfl)) (by decide) (W := 2) (own_ch l Z a0 hw [] x (own_lit (p1 &&& (3 : Int32))) mm ch zc i0 9 fm h364 n0 sz364 fx368 hzc fx369 hfm fx371 hsl.2.2 hc hsl.2.1 (by omega) (by decide) hk9) e364  (pc := 371) (Ls := #[.val (.int p1), .val (.int p2), .val (.int p3), .val (.int p4), .val (.int (p1 &&& (3 : Int32))), .val (.int mm), .val (.ref x), .val (.int (Int32.ofNat (own_lit (p1 &&& (3 : Int32))).length)), .val (.int (Int32.ofNat i0)), .val (.int ch), .val (.int N), .val (.ref b), .unset, .unset, .unset]) (argsL := [(.ref x), (.int (Int32.ofNat (own_lit (p1 &&& (3 : Int32))).length)), (.int mm), (.int (Int32.ofNat i0)), (.int ch), (.int (9 : Int32))]) (rest := [(.int (9 : Int32)), (.ref b)]) (by rw [hml]; rfl) (lenOf own_pd11 rfl) rfl (hb hby at_371) (by decide) (by decide) (by decide) (by decide) ?_
                        intro v372 T372 L372 X372 hQ372
                        obtain ⟨rfl, N372, e372⟩ := hQ372
                        show OGo p e below (T372.setTop (mkF m 374 #[.val (.int p1), .val (.int p2), .val (.int p3), .val (.int p4), .val (.int (p1 &&& (3 : Int32))), .val (.int mm), .val (.ref x), .val (.int (Int32.ofNat (own_lit (p1 &&& (3 : Int32))).length)), .val (.int (Int32.ofNat i0)), .val (.int ch), .val (.int N), .val (.ref b), .unset, .unset, .unset] [(.int ((own_T (own_lit (p1 &&& (3 : Int32))) mm i0 ch).getD 9 0)), (.int (9 : Int32)), (.ref b)])) _
                        have Nc372 := Fr.app Nf364 N372
                        obtain ⟨cA373, A373, q373, S373, M373, H373, G373⟩ := id (Vn363.pad (pad_rep _ _ 1))
                        obtain ⟨T374, h374, X374, e374, W374, st374⟩ := stC X372 hx hZ e372 A373 (j := (9 : Int32)) (inb_of S373 ⟨by decide, hf9⟩) (g := (mkF m 374 #[.val (.int p1), .val (.int p2), .val (.int p3), .val (.int p4), .val (.int (p1 &&& (3 : Int32))), .val (.int mm), .val (.ref x), .val (.int (Int32.ofNat (own_lit (p1 &&& (3 : Int32))).length)), .val (.int (Int32.ofNat i0)), .val (.int ch), .val (.int N), .val (.ref b), .unset, .unset, .unset] [(.int ((own_T (own_lit (p1 &&& (3 : Int32))) mm i0 ch).getD 9 0)), (.int (9 : Int32)), (.ref b)])) rfl rfl (hb hby at_374)
                        refine OGo.step st374 ?_
                        show OGo p e below (T374.setTop (mkF m 375 #[.val (.int p1), .val (.int p2), .val (.int p3), .val (.int p4), .val (.int (p1 &&& (3 : Int32))), .val (.int mm), .val (.ref x), .val (.int (Int32.ofNat (own_lit (p1 &&& (3 : Int32))).length)), .val (.int (Int32.ofNat i0)), .val (.int ch), .val (.int N), .val (.ref b), .unset, .unset, .unset] [])) _
                        have Vn373 : Arv Z h374 b k51 .char N (((own_T (own_lit (p1 &&& (3 : Int32))) mm i0 ch).take 10).map Value.int) (.int (0 : Int32)) := by rw [← own_ts hk9 hT.2]; exact Arv.set A373 q373 S373 M373 H373 G373 (fits_nar_char _) W374 9 rfl (own_tl hk9)
                        have KK374 := KK364.wr W374 (Or.inl (List.mem_of_getElem? (i := 0) rfl))
                        have Nf374 := Fr.snoc X374 Nc372 gf_b
                        have sz374 : n0 ≤ h374.size := by rw [W374.size]; exact sz364
                        have sw375 := (Safe.arr (EL := consts_1) OW366.2.1.alike A373 (by decide))
                        have OW376 := OW366.wr W374 sw375
                        refine OGo.step (fun _ kk => XS.iload X374.here hx rfl (hb hby at_375) rfl kk) ?_
                        show OGo p e below (T374.setTop (mkF m 377 #[.val (.int p1), .val (.int p2), .val (.int p3), .val (.int p4), .val (.int (p1 &&& (3 : Int32))), .val (.int mm), .val (.ref x), .val (.int (Int32.ofNat (own_lit (p1 &&& (3 : Int32))).length)), .val (.int (Int32.ofNat i0)), .val (.int ch), .val (.int N), .val (.ref b), .unset, .unset, .unset] [(.int N)])) _
                        refine OGo.step (fun _ kk => XS.bipush X374.here hx rfl (hb hby at_377) kk) ?_
                        show OGo p e below (T374.setTop (mkF m 379 #[.val (.int p1), .val (.int p2), .val (.int p3), .val (.int p4), .val (.int (p1 &&& (3 : Int32))), .val (.int mm), .val (.ref x), .val (.int (Int32.ofNat (own_lit (p1 &&& (3 : Int32))).length)), .val (.int (Int32.ofNat i0)), .val (.int ch), .val (.int N), .val (.ref b), .unset, .unset, .unset] [(.int (10 : Int32)), (.int N)])) _
                        by_cases hf10 : (10 : Int32) < N
                        · refine OGo.step (fun _ kk => XS.icmpNo X374.here hx rfl (hb hby at_379) rfl (tlt hf10).2.2.2 kk) ?_
                          show OGo p e below (T374.setTop (mkF m 382 #[.val (.int p1), .val (.int p2), .val (.int p3), .val (.int p4), .val (.int (p1 &&& (3 : Int32))), .val (.int mm), .val (.ref x), .val (.int (Int32.ofNat (own_lit (p1 &&& (3 : Int32))).length)), .val (.int (Int32.ofNat i0)), .val (.int ch), .val (.int N), .val (.ref b), .unset, .unset, .unset] [])) _
                          have hk10 := own_lt14 10 (by decide) _ hT.1 (by rw [← hN]; exact hf10)
                          refine OGo.step (fun _ kk => XS.aload X374.here hx rfl (hb hby at_382) rfl rfl kk) ?_
                          show OGo p e below (T374.setTop (mkF m 384 #[.val (.int p1), .val (.int p2), .val (.int p3), .val (.int p4), .val (.int (p1 &&& (3 : Int32))), .val (.int mm), .val (.ref x), .val (.int (Int32.ofNat (own_lit (p1 &&& (3 : Int32))).length)), .val (.int (Int32.ofNat i0)), .val (.int ch), .val (.int N), .val (.ref b), .unset, .unset, .unset] [(.ref b)])) _
                          refine OGo.step (fun _ kk => XS.bipush X374.here hx rfl (hb hby at_384) kk) ?_
                          show OGo p e below (T374.setTop (mkF m 386 #[.val (.int p1), .val (.int p2), .val (.int p3), .val (.int p4), .val (.int (p1 &&& (3 : Int32))), .val (.int mm), .val (.ref x), .val (.int (Int32.ofNat (own_lit (p1 &&& (3 : Int32))).length)), .val (.int (Int32.ofNat i0)), .val (.int ch), .val (.int N), .val (.ref b), .unset, .unset, .unset] [(.int (10 : Int32)), (.ref b)])) _
                          refine OGo.step (fun _ kk => XS.aload X374.here hx rfl (hb hby at_386) rfl rfl kk) ?_
                          show OGo p e below (T374.setTop (mkF m 388 #[.val (.int p1), .val (.int p2), .val (.int p3), .val (.int p4), .val (.int (p1 &&& (3 : Int32))), .val (.int mm), .val (.ref x), .val (.int (Int32.ofNat (own_lit (p1 &&& (3 : Int32))).length)), .val (.int (Int32.ofNat i0)), .val (.int ch), .val (.int N), .val (.ref b), .unset, .unset, .unset] [(.ref x), (.int (10 : Int32)), (.ref b)])) _
                          refine OGo.step (fun _ kk => XS.iload X374.here hx rfl (hb hby at_388) rfl kk) ?_
                          show OGo p e below (T374.setTop (mkF m 390 #[.val (.int p1), .val (.int p2), .val (.int p3), .val (.int p4), .val (.int (p1 &&& (3 : Int32))), .val (.int mm), .val (.ref x), .val (.int (Int32.ofNat (own_lit (p1 &&& (3 : Int32))).length)), .val (.int (Int32.ofNat i0)), .val (.int ch), .val (.int N), .val (.ref b), .unset, .unset, .unset] [(.int (Int32.ofNat (own_lit (p1 &&& (3 : Int32))).length)), (.ref x), (.int (10 : Int32)), (.ref b)])) _
                          refine OGo.step (fun _ kk => XS.iload X374.here hx rfl (hb hby at_390) rfl kk) ?_
                          show OGo p e below (T374.setTop (mkF m 392 #[.val (.int p1), .val (.int p2), .val (.int p3), .val (.int p4), .val (.int (p1 &&& (3 : Int32))), .val (.int mm), .val (.ref x), .val (.int (Int32.ofNat (own_lit (p1 &&& (3 : Int32))).length)), .val (.int (Int32.ofNat i0)), .val (.int ch), .val (.int N), .val (.ref b), .unset, .unset, .unset] [(.int mm), (.int (Int32.ofNat (own_lit (p1 &&& (3 : Int32))).length)), (.ref x), (.int (10 : Int32)), (.ref b)])) _
                          refine OGo.step (fun _ kk => XS.iload X374.here hx rfl (hb hby at_392) rfl kk) ?_
                          show OGo p e below (T374.setTop (mkF m 394 #[.val (.int p1), .val (.int p2), .val (.int p3), .val (.int p4), .val (.int (p1 &&& (3 : Int32))), .val (.int mm), .val (.ref x), .val (.int (Int32.ofNat (own_lit (p1 &&& (3 : Int32))).length)), .val (.int (Int32.ofNat i0)), .val (.int ch), .val (.int N), .val (.ref b), .unset, .unset, .unset] [(.int (Int32.ofNat i0)), (.int mm), (.int (Int32.ofNat (own_lit (p1 &&& (3 : Int32))).length)), (.ref x), (.int (10 : Int32)), (.ref b)])) _
                          refine OGo.step (fun _ kk => XS.iload X374.here hx rfl (hb hby at_394) rfl kk) ?_
                          show OGo p e below (T374.setTop (mkF m 396 #[.val (.int p1), .val (.int p2), .val (.int p3), .val (.int p4), .val (.int (p1 &&& (3 : Int32))), .val (.int mm), .val (.ref x), .val (.int (Int32.ofNat (own_lit (p1 &&& (3 : Int32))).length)), .val (.int (Int32.ofNat i0)), .val (.int ch), .val (.int N), .val (.ref b), .unset, .unset, .unset] [(.int ch), (.int (Int32.ofNat i0)), (.int mm), (.int (Int32.ofNat (own_lit (p1 &&& (3 : Int32))).length)), (.ref x), (.int (10 : Int32)), (.ref b)])) _
                          refine OGo.step (fun _ kk => XS.bipush X374.here hx rfl (hb hby at_396) kk) ?_
                          show OGo p e below (T374.setTop (mkF m 398 #[.val (.int p1), .val (.int p2), .val (.int p3), .val (.int p4), .val (.int (p1 &&& (3 : Int32))), .val (.int mm), .val (.ref x), .val (.int (Int32.ofNat (own_lit (p1 &&& (3 : Int32))).length)), .val (.int (Int32.ofNat i0)), .val (.int ch), .val (.int N), .val (.ref b), .unset, .unset, .unset] [(.int (10 : Int32)), (.int ch), (.int (Int32.ofNat i0)), (.int mm), (.int (Int32.ofNat (own_lit (p1 &&& (3 : Int32))).length)), (.ref x), (.int (10 : Int32)), (.ref b)])) _
                          have xt377 := (own_ext_wr xt367 W374 (Nat.le_trans Xe48.1 (Nat.le_of_eq g51.symm)))
                          have fx378 := SC.ext xt377
                          have fx379 := SF.ext xt377
                          have xt380 := (own_ext_wr xt370 W374 (Nat.le_of_eq g51.symm))
                          have fx381 := Ox48.ext xt380
                          refine own_callS X374 hx hZ (y := (⟨"com/example/tenantd/tenantd/RoleTypeOfTextPinLaw", "ch", "(Ljava/lang/String;IIICI)C"⟩ : MethodName)) hown (hw _ (List.mem_of_getElem? (i := 27) rfl)) (hw _ (List.mem_of_getElem? (i := 28) rfl)) (hw _ (List.mem_of_getElem? (i := 2) rfl)) (hw _ (List.mem_of_getElem? (i := 29) rfl)) (by decide) (W := 2) (own_ch l Z a0 hw [] x (own_lit (p1 &&& (3 : Int32))) mm ch zc i0 10 fm h374 n0 sz374 fx378 hzc fx379 hfm fx381 hsl.2.2 hc hsl.2.1 (by omega) (by decide) hk10) e374  (pc := 398) (Ls := #[.val (.int p1), .val (.int p2), .val (.int p3), .val (.int p4), .val (.int (p1 &&& (3 : Int32))), .val (.int mm), .val (.ref x), .val (.int (Int32.ofNat (own_lit (p1 &&& (3 : Int32))).length)), .val (.int (Int32.ofNat i0)), .val (.int ch), .val (.int N), .val (.ref b), .unset, .unset, .unset]) (argsL := [(.ref x), (.int (Int32.ofNat (own_lit (p1 &&& (3 : Int32))).length)), (.int mm), (.int (Int32.ofNat i0)), (.int ch), (.int (10 : Int32))]) (rest := [(.int (10 : Int32)), (.ref b)]) (by rw [hml]; rfl) (lenOf own_pd11 rfl) rfl (hb hby at_398) (by decide) (by decide) (by decide) (by decide) ?_
                          intro v382 T382 L382 X382 hQ382
                          obtain ⟨rfl, N382, e382⟩ := hQ382
                          show OGo p e below (T382.setTop (mkF m 401 #[.val (.int p1), .val (.int p2), .val (.int p3), .val (.int p4), .val (.int (p1 &&& (3 : Int32))), .val (.int mm), .val (.ref x), .val (.int (Int32.ofNat (own_lit (p1 &&& (3 : Int32))).length)), .val (.int (Int32.ofNat i0)), .val (.int ch), .val (.int N), .val (.ref b), .unset, .unset, .unset] [(.int ((own_T (own_lit (p1 &&& (3 : Int32))) mm i0 ch).getD 10 0)), (.int (10 : Int32)), (.ref b)])) _
                          have Nc382 := Fr.app Nf374 N382
                          obtain ⟨cA383, A383, q383, S383, M383, H383, G383⟩ := id (Vn373.pad (pad_rep _ _ 1))
                          obtain ⟨T384, h384, X384, e384, W384, st384⟩ := stC X382 hx hZ e382 A383 (j := (10 : Int32)) (inb_of S383 ⟨by decide, hf10⟩) (g := (mkF m 401 #[.val (.int p1), .val (.int p2), .val (.int p3), .val (.int p4), .val (.int (p1 &&& (3 : Int32))), .val (.int mm), .val (.ref x), .val (.int (Int32.ofNat (own_lit (p1 &&& (3 : Int32))).length)), .val (.int (Int32.ofNat i0)), .val (.int ch), .val (.int N), .val (.ref b), .unset, .unset, .unset] [(.int ((own_T (own_lit (p1 &&& (3 : Int32))) mm i0 ch).getD 10 0)), (.int (10 : Int32)), (.ref b)])) rfl rfl (hb hby at_401)
                          refine OGo.step st384 ?_
                          show OGo p e below (T384.setTop (mkF m 402 #[.val (.int p1), .val (.int p2), .val (.int p3), .val (.int p4), .val (.int (p1 &&& (3 : Int32))), .val (.int mm), .val (.ref x), .val (.int (Int32.ofNat (own_lit (p1 &&& (3 : Int32))).length)), .val (.int (Int32.ofNat i0)), .val (.int ch), .val (.int N), .val (.ref b), .unset, .unset, .unset] [])) _
                          have Vn383 : Arv Z h384 b k51 .char N (((own_T (own_lit (p1 &&& (3 : Int32))) mm i0 ch).take 11).map Value.int) (.int (0 : Int32)) := by rw [← own_ts hk10 hT.2]; exact Arv.set A383 q383 S383 M383 H383 G383 (fits_nar_char _) W384 10 rfl (own_tl hk10)
                          have KK384 := KK374.wr W384 (Or.inl (List.mem_of_getElem? (i := 0) rfl))
                          have Nf384 := Fr.snoc X384 Nc382 gf_b
                          have sz384 : n0 ≤ h384.size := by rw [W384.size]; exact sz374
                          have sw385 := (Safe.arr (EL := consts_1) OW376.2.1.alike A383 (by decide))
                          have OW386 := OW376.wr W384 sw385
                          refine OGo.step (fun _ kk => XS.iload X384.here hx rfl (hb hby at_402) rfl kk) ?_
                          show OGo p e below (T384.setTop (mkF m 404 #[.val (.int p1), .val (.int p2), .val (.int p3), .val (.int p4), .val (.int (p1 &&& (3 : Int32))), .val (.int mm), .val (.ref x), .val (.int (Int32.ofNat (own_lit (p1 &&& (3 : Int32))).length)), .val (.int (Int32.ofNat i0)), .val (.int ch), .val (.int N), .val (.ref b), .unset, .unset, .unset] [(.int N)])) _
                          refine OGo.step (fun _ kk => XS.bipush X384.here hx rfl (hb hby at_404) kk) ?_
                          show OGo p e below (T384.setTop (mkF m 406 #[.val (.int p1), .val (.int p2), .val (.int p3), .val (.int p4), .val (.int (p1 &&& (3 : Int32))), .val (.int mm), .val (.ref x), .val (.int (Int32.ofNat (own_lit (p1 &&& (3 : Int32))).length)), .val (.int (Int32.ofNat i0)), .val (.int ch), .val (.int N), .val (.ref b), .unset, .unset, .unset] [(.int (11 : Int32)), (.int N)])) _
                          by_cases hf11 : (11 : Int32) < N
                          · refine OGo.step (fun _ kk => XS.icmpNo X384.here hx rfl (hb hby at_406) rfl (tlt hf11).2.2.2 kk) ?_
                            show OGo p e below (T384.setTop (mkF m 409 #[.val (.int p1), .val (.int p2), .val (.int p3), .val (.int p4), .val (.int (p1 &&& (3 : Int32))), .val (.int mm), .val (.ref x), .val (.int (Int32.ofNat (own_lit (p1 &&& (3 : Int32))).length)), .val (.int (Int32.ofNat i0)), .val (.int ch), .val (.int N), .val (.ref b), .unset, .unset, .unset] [])) _
                            have hk11 := own_lt14 11 (by decide) _ hT.1 (by rw [← hN]; exact hf11)
                            refine OGo.step (fun _ kk => XS.aload X384.here hx rfl (hb hby at_409) rfl rfl kk) ?_
                            show OGo p e below (T384.setTop (mkF m 411 #[.val (.int p1), .val (.int p2), .val (.int p3), .val (.int p4), .val (.int (p1 &&& (3 : Int32))), .val (.int mm), .val (.ref x), .val (.int (Int32.ofNat (own_lit (p1 &&& (3 : Int32))).length)), .val (.int (Int32.ofNat i0)), .val (.int ch), .val (.int N), .val (.ref b), .unset, .unset, .unset] [(.ref b)])) _
                            refine OGo.step (fun _ kk => XS.bipush X384.here hx rfl (hb hby at_411) kk) ?_
                            show OGo p e below (T384.setTop (mkF m 413 #[.val (.int p1), .val (.int p2), .val (.int p3), .val (.int p4), .val (.int (p1 &&& (3 : Int32))), .val (.int mm), .val (.ref x), .val (.int (Int32.ofNat (own_lit (p1 &&& (3 : Int32))).length)), .val (.int (Int32.ofNat i0)), .val (.int ch), .val (.int N), .val (.ref b), .unset, .unset, .unset] [(.int (11 : Int32)), (.ref b)])) _
                            refine OGo.step (fun _ kk => XS.aload X384.here hx rfl (hb hby at_413) rfl rfl kk) ?_
                            show OGo p e below (T384.setTop (mkF m 415 #[.val (.int p1), .val (.int p2), .val (.int p3), .val (.int p4), .val (.int (p1 &&& (3 : Int32))), .val (.int mm), .val (.ref x), .val (.int (Int32.ofNat (own_lit (p1 &&& (3 : Int32))).length)), .val (.int (Int32.ofNat i0)), .val (.int ch), .val (.int N), .val (.ref b), .unset, .unset, .unset] [(.ref x), (.int (11 : Int32)), (.ref b)])) _
                            refine OGo.step (fun _ kk => XS.iload X384.here hx rfl (hb hby at_415) rfl kk) ?_
                            show OGo p e below (T384.setTop (mkF m 417 #[.val (.int p1), .val (.int p2), .val (.int p3), .val (.int p4), .val (.int (p1 &&& (3 : Int32))), .val (.int mm), .val (.ref x), .val (.int (Int32.ofNat (own_lit (p1 &&& (3 : Int32))).length)), .val (.int (Int32.ofNat i0)), .val (.int ch), .val (.int N), .val (.ref b), .unset, .unset, .unset] [(.int (Int32.ofNat (own_lit (p1 &&& (3 : Int32))).length)), (.ref x), (.int (11 : Int32)), (.ref b)])) _
                            refine OGo.step (fun _ kk => XS.iload X384.here hx rfl (hb hby at_417) rfl kk) ?_
                            show OGo p e below (T384.setTop (mkF m 419 #[.val (.int p1), .val (.int p2), .val (.int p3), .val (.int p4), .val (.int (p1 &&& (3 : Int32))), .val (.int mm), .val (.ref x), .val (.int (Int32.ofNat (own_lit (p1 &&& (3 : Int32))).length)), .val (.int (Int32.ofNat i0)), .val (.int ch), .val (.int N), .val (.ref b), .unset, .unset, .unset] [(.int mm), (.int (Int32.ofNat (own_lit (p1 &&& (3 : Int32))).length)), (.ref x), (.int (11 : Int32)), (.ref b)])) _
                            refine OGo.step (fun _ kk => XS.iload X384.here hx rfl (hb hby at_419) rfl kk) ?_
                            show OGo p e below (T384.setTop (mkF m 421 #[.val (.int p1), .val (.int p2), .val (.int p3), .val (.int p4), .val (.int (p1 &&& (3 : Int32))), .val (.int mm), .val (.ref x), .val (.int (Int32.ofNat (own_lit (p1 &&& (3 : Int32))).length)), .val (.int (Int32.ofNat i0)), .val (.int ch), .val (.int N), .val (.ref b), .unset, .unset, .unset] [(.int (Int32.ofNat i0)), (.int mm), (.int (Int32.ofNat (own_lit (p1 &&& (3 : Int32))).length)), (.ref x), (.int (11 : Int32)), (.ref b)])) _
                            refine OGo.step (fun _ kk => XS.iload X384.here hx rfl (hb hby at_421) rfl kk) ?_
                            show OGo p e below (T384.setTop (mkF m 423 #[.val (.int p1), .val (.int p2), .val (.int p3), .val (.int p4), .val (.int (p1 &&& (3 : Int32))), .val (.int mm), .val (.ref x), .val (.int (Int32.ofNat (own_lit (p1 &&& (3 : Int32))).length)), .val (.int (Int32.ofNat i0)), .val (.int ch), .val (.int N), .val (.ref b), .unset, .unset, .unset] [(.int ch), (.int (Int32.ofNat i0)), (.int mm), (.int (Int32.ofNat (own_lit (p1 &&& (3 : Int32))).length)), (.ref x), (.int (11 : Int32)), (.ref b)])) _
                            refine OGo.step (fun _ kk => XS.bipush X384.here hx rfl (hb hby at_423) kk) ?_
                            show OGo p e below (T384.setTop (mkF m 425 #[.val (.int p1), .val (.int p2), .val (.int p3), .val (.int p4), .val (.int (p1 &&& (3 : Int32))), .val (.int mm), .val (.ref x), .val (.int (Int32.ofNat (own_lit (p1 &&& (3 : Int32))).length)), .val (.int (Int32.ofNat i0)), .val (.int ch), .val (.int N), .val (.ref b), .unset, .unset, .unset] [(.int (11 : Int32)), (.int ch), (.int (Int32.ofNat i0)), (.int mm), (.int (Int32.ofNat (own_lit (p1 &&& (3 : Int32))).length)), (.ref x), (.int (11 : Int32)), (.ref b)])) _
                            have xt387 := (own_ext_wr xt377 W384 (Nat.le_trans Xe48.1 (Nat.le_of_eq g51.symm)))
                            have fx388 := SC.ext xt387
                            have fx389 := SF.ext xt387
                            have xt390 := (own_ext_wr xt380 W384 (Nat.le_of_eq g51.symm))
                            have fx391 := Ox48.ext xt390
                            refine own_callS X384 hx hZ (y := (⟨"com/example/tenantd/tenantd/RoleTypeOfTextPinLaw", "ch", "(Ljava/lang/String;IIICI)C"⟩ : MethodName)) hown (hw _ (List.mem_of_getElem? (i := 27) rfl)) (hw _ (List.mem_of_getElem? (i := 28) rfl)) (hw _ (List.mem_of_getElem? (i := 2) rfl)) (hw _ (List.mem_of_getElem? (i := 29) rfl)) (by decide) (W := 2) (own_ch l Z a0 hw [] x (own_lit (p1 &&& (3 : Int32))) mm ch zc i0 11 fm h384 n0 sz384 fx388 hzc fx389 hfm fx391 hsl.2.2 hc hsl.2.1 (by omega) (by decide) hk11) e384  (pc := 425) (Ls := #[.val (.int p1), .val (.int p2), .val (.int p3), .val (.int p4), .val (.int (p1 &&& (3 : Int32))), .val (.int mm), .val (.ref x), .val (.int (Int32.ofNat (own_lit (p1 &&& (3 : Int32))).length)), .val (.int (Int32.ofNat i0)), .val (.int ch), .val (.int N), .val (.ref b), .unset, .unset, .unset]) (argsL := [(.ref x), (.int (Int32.ofNat (own_lit (p1 &&& (3 : Int32))).length)), (.int mm), (.int (Int32.ofNat i0)), (.int ch), (.int (11 : Int32))]) (rest := [(.int (11 : Int32)), (.ref b)]) (by rw [hml]; rfl) (lenOf own_pd11 rfl) rfl (hb hby at_425) (by decide) (by decide) (by decide) (by decide) ?_
                            intro v392 T392 L392 X392 hQ392
                            obtain ⟨rfl, N392, e392⟩ := hQ392
                            show OGo p e below (T392.setTop (mkF m 428 #[.val (.int p1), .val (.int p2), .val (.int p3), .val (.int p4), .val (.int (p1 &&& (3 : Int32))), .val (.int mm), .val (.ref x), .val (.int (Int32.ofNat (own_lit (p1 &&& (3 : Int32))).length)), .val (.int (Int32.ofNat i0)), .val (.int ch), .val (.int N), .val (.ref b), .unset, .unset, .unset] [(.int ((own_T (own_lit (p1 &&& (3 : Int32))) mm i0 ch).getD 11 0)), (.int (11 : Int32)), (.ref b)])) _
                            have Nc392 := Fr.app Nf384 N392
                            obtain ⟨cA393, A393, q393, S393, M393, H393, G393⟩ := id (Vn383.pad (pad_rep _ _ 1))
                            obtain ⟨T394, h394, X394, e394, W394, st394⟩ := stC X392 hx hZ e392 A393 (j := (11 : Int32)) (inb_of S393 ⟨by decide, hf11⟩) (g := (mkF m 428 #[.val (.int p1), .val (.int p2), .val (.int p3), .val (.int p4), .val (.int (p1 &&& (3 : Int32))), .val (.int mm), .val (.ref x), .val (.int (Int32.ofNat (own_lit (p1 &&& (3 : Int32))).length)), .val (.int (Int32.ofNat i0)), .val (.int ch), .val (.int N), .val (.ref b), .unset, .unset, .unset] [(.int ((own_T (own_lit (p1 &&& (3 : Int32))) mm i0 ch).getD 11 0)), (.int (11 : Int32)), (.ref b)])) rfl rfl (hb hby at_428)
                            refine OGo.step st394 ?_
                            show OGo p e below (T394.setTop (mkF m 429 #[.val (.int p1), .val (.int p2), .val (.int p3), .val (.int p4), .val (.int (p1 &&& (3 : Int32))), .val (.int mm), .val (.ref x), .val (.int (Int32.ofNat (own_lit (p1 &&& (3 : Int32))).length)), .val (.int (Int32.ofNat i0)), .val (.int ch), .val (.int N), .val (.ref b), .unset, .unset, .unset] [])) _
                            have Vn393 : Arv Z h394 b k51 .char N (((own_T (own_lit (p1 &&& (3 : Int32))) mm i0 ch).take 12).map Value.int) (.int (0 : Int32)) := by rw [← own_ts hk11 hT.2]; exact Arv.set A393 q393 S393 M393 H393 G393 (fits_nar_char _) W394 11 rfl (own_tl hk11)
                            have KK394 := KK384.wr W394 (Or.inl (List.mem_of_getElem? (i := 0) rfl))
                            have Nf394 := Fr.snoc X394 Nc392 gf_b
                            have sz394 : n0 ≤ h394.size := by rw [W394.size]; exact sz384
                            have sw395 := (Safe.arr (EL := consts_1) OW386.2.1.alike A393 (by decide))
                            have OW396 := OW386.wr W394 sw395
                            refine OGo.step (fun _ kk => XS.iload X394.here hx rfl (hb hby at_429) rfl kk) ?_
                            show OGo p e below (T394.setTop (mkF m 431 #[.val (.int p1), .val (.int p2), .val (.int p3), .val (.int p4), .val (.int (p1 &&& (3 : Int32))), .val (.int mm), .val (.ref x), .val (.int (Int32.ofNat (own_lit (p1 &&& (3 : Int32))).length)), .val (.int (Int32.ofNat i0)), .val (.int ch), .val (.int N), .val (.ref b), .unset, .unset, .unset] [(.int N)])) _
                            refine OGo.step (fun _ kk => XS.bipush X394.here hx rfl (hb hby at_431) kk) ?_
                            show OGo p e below (T394.setTop (mkF m 433 #[.val (.int p1), .val (.int p2), .val (.int p3), .val (.int p4), .val (.int (p1 &&& (3 : Int32))), .val (.int mm), .val (.ref x), .val (.int (Int32.ofNat (own_lit (p1 &&& (3 : Int32))).length)), .val (.int (Int32.ofNat i0)), .val (.int ch), .val (.int N), .val (.ref b), .unset, .unset, .unset] [(.int (12 : Int32)), (.int N)])) _
                            by_cases hf12 : (12 : Int32) < N
                            · refine OGo.step (fun _ kk => XS.icmpNo X394.here hx rfl (hb hby at_433) rfl (tlt hf12).2.2.2 kk) ?_
                              show OGo p e below (T394.setTop (mkF m 436 #[.val (.int p1), .val (.int p2), .val (.int p3), .val (.int p4), .val (.int (p1 &&& (3 : Int32))), .val (.int mm), .val (.ref x), .val (.int (Int32.ofNat (own_lit (p1 &&& (3 : Int32))).length)), .val (.int (Int32.ofNat i0)), .val (.int ch), .val (.int N), .val (.ref b), .unset, .unset, .unset] [])) _
                              have hk12 := own_lt14 12 (by decide) _ hT.1 (by rw [← hN]; exact hf12)
                              refine OGo.step (fun _ kk => XS.aload X394.here hx rfl (hb hby at_436) rfl rfl kk) ?_
                              show OGo p e below (T394.setTop (mkF m 438 #[.val (.int p1), .val (.int p2), .val (.int p3), .val (.int p4), .val (.int (p1 &&& (3 : Int32))), .val (.int mm), .val (.ref x), .val (.int (Int32.ofNat (own_lit (p1 &&& (3 : Int32))).length)), .val (.int (Int32.ofNat i0)), .val (.int ch), .val (.int N), .val (.ref b), .unset, .unset, .unset] [(.ref b)])) _
                              refine OGo.step (fun _ kk => XS.bipush X394.here hx rfl (hb hby at_438) kk) ?_
                              show OGo p e below (T394.setTop (mkF m 440 #[.val (.int p1), .val (.int p2), .val (.int p3), .val (.int p4), .val (.int (p1 &&& (3 : Int32))), .val (.int mm), .val (.ref x), .val (.int (Int32.ofNat (own_lit (p1 &&& (3 : Int32))).length)), .val (.int (Int32.ofNat i0)), .val (.int ch), .val (.int N), .val (.ref b), .unset, .unset, .unset] [(.int (12 : Int32)), (.ref b)])) _
                              refine OGo.step (fun _ kk => XS.aload X394.here hx rfl (hb hby at_440) rfl rfl kk) ?_
                              show OGo p e below (T394.setTop (mkF m 442 #[.val (.int p1), .val (.int p2), .val (.int p3), .val (.int p4), .val (.int (p1 &&& (3 : Int32))), .val (.int mm), .val (.ref x), .val (.int (Int32.ofNat (own_lit (p1 &&& (3 : Int32))).length)), .val (.int (Int32.ofNat i0)), .val (.int ch), .val (.int N), .val (.ref b), .unset, .unset, .unset] [(.ref x), (.int (12 : Int32)), (.ref b)])) _
                              refine OGo.step (fun _ kk => XS.iload X394.here hx rfl (hb hby at_442) rfl kk) ?_
                              show OGo p e below (T394.setTop (mkF m 444 #[.val (.int p1), .val (.int p2), .val (.int p3), .val (.int p4), .val (.int (p1 &&& (3 : Int32))), .val (.int mm), .val (.ref x), .val (.int (Int32.ofNat (own_lit (p1 &&& (3 : Int32))).length)), .val (.int (Int32.ofNat i0)), .val (.int ch), .val (.int N), .val (.ref b), .unset, .unset, .unset] [(.int (Int32.ofNat (own_lit (p1 &&& (3 : Int32))).length)), (.ref x), (.int (12 : Int32)), (.ref b)])) _
                              refine OGo.step (fun _ kk => XS.iload X394.here hx rfl (hb hby at_444) rfl kk) ?_
                              show OGo p e below (T394.setTop (mkF m 446 #[.val (.int p1), .val (.int p2), .val (.int p3), .val (.int p4), .val (.int (p1 &&& (3 : Int32))), .val (.int mm), .val (.ref x), .val (.int (Int32.ofNat (own_lit (p1 &&& (3 : Int32))).length)), .val (.int (Int32.ofNat i0)), .val (.int ch), .val (.int N), .val (.ref b), .unset, .unset, .unset] [(.int mm), (.int (Int32.ofNat (own_lit (p1 &&& (3 : Int32))).length)), (.ref x), (.int (12 : Int32)), (.ref b)])) _
                              refine OGo.step (fun _ kk => XS.iload X394.here hx rfl (hb hby at_446) rfl kk) ?_
                              show OGo p e below (T394.setTop (mkF m 448 #[.val (.int p1), .val (.int p2), .val (.int p3), .val (.int p4), .val (.int (p1 &&& (3 : Int32))), .val (.int mm), .val (.ref x), .val (.int (Int32.ofNat (own_lit (p1 &&& (3 : Int32))).length)), .val (.int (Int32.ofNat i0)), .val (.int ch), .val (.int N), .val (.ref b), .unset, .unset, .unset] [(.int (Int32.ofNat i0)), (.int mm), (.int (Int32.ofNat (own_lit (p1 &&& (3 : Int32))).length)), (.ref x), (.int (12 : Int32)), (.ref b)])) _
                              refine OGo.step (fun _ kk => XS.iload X394.here hx rfl (hb hby at_448) rfl kk) ?_
                              show OGo p e below (T394.setTop (mkF m 450 #[.val (.int p1), .val (.int p2), .val (.int p3), .val (.int p4), .val (.int (p1 &&& (3 : Int32))), .val (.int mm), .val (.ref x), .val (.int (Int32.ofNat (own_lit (p1 &&& (3 : Int32))).length)), .val (.int (Int32.ofNat i0)), .val (.int ch), .val (.int N), .val (.ref b), .unset, .unset, .unset] [(.int ch), (.int (Int32.ofNat i0)), (.int mm), (.int (Int32.ofNat (own_lit (p1 &&& (3 : Int32))).length)), (.ref x), (.int (12 : Int32)), (.ref b)])) _
                              refine OGo.step (fun _ kk => XS.bipush X394.here hx rfl (hb hby at_450) kk) ?_
                              show OGo p e below (T394.setTop (mkF m 452 #[.val (.int p1), .val (.int p2), .val (.int p3), .val (.int p4), .val (.int (p1 &&& (3 : Int32))), .val (.int mm), .val (.ref x), .val (.int (Int32.ofNat (own_lit (p1 &&& (3 : Int32))).length)), .val (.int (Int32.ofNat i0)), .val (.int ch), .val (.int N), .val (.ref b), .unset, .unset, .unset] [(.int (12 : Int32)), (.int ch), (.int (Int32.ofNat i0)), (.int mm), (.int (Int32.ofNat (own_lit (p1 &&& (3 : Int32))).length)), (.ref x), (.int (12 : Int32)), (.ref b)])) _
                              have xt397 := (own_ext_wr xt387 W394 (Nat.le_trans Xe48.1 (Nat.le_of_eq g51.symm)))
                              have fx398 := SC.ext xt397
                              have fx399 := SF.ext xt397
                              have xt400 := (own_ext_wr xt390 W394 (Nat.le_of_eq g51.symm))
                              have fx401 := Ox48.ext xt400
                              refine own_callS X394 hx hZ (y := (⟨"com/example/tenantd/tenantd/RoleTypeOfTextPinLaw", "ch", "(Ljava/lang/String;IIICI)C"⟩ : MethodName)) hown (hw _ (List.mem_of_getElem? (i := 27) rfl)) (hw _ (List.mem_of_getElem? (i := 28) rfl)) (hw _ (List.mem_of_getElem? (i := 2) rfl)) (hw _ (List.mem_of_getElem? (i := 29) rfl)) (by decide) (W := 2) (own_ch l Z a0 hw [] x (own_lit (p1 &&& (3 : Int32))) mm ch zc i0 12 fm h394 n0 sz394 fx398 hzc fx399 hfm fx401 hsl.2.2 hc hsl.2.1 (by omega) (by decide) hk12) e394  (pc := 452) (Ls := #[.val (.int p1), .val (.int p2), .val (.int p3), .val (.int p4), .val (.int (p1 &&& (3 : Int32))), .val (.int mm), .val (.ref x), .val (.int (Int32.ofNat (own_lit (p1 &&& (3 : Int32))).length)), .val (.int (Int32.ofNat i0)), .val (.int ch), .val (.int N), .val (.ref b), .unset, .unset, .unset]) (argsL := [(.ref x), (.int (Int32.ofNat (own_lit (p1 &&& (3 : Int32))).length)), (.int mm), (.int (Int32.ofNat i0)), (.int ch), (.int (12 : Int32))]) (rest := [(.int (12 : Int32)), (.ref b)]) (by rw [hml]; rfl) (lenOf own_pd11 rfl) rfl (hb hby at_452) (by decide) (by decide) (by decide) (by decide) ?_
                              intro v402 T402 L402 X402 hQ402
                              obtain ⟨rfl, N402, e402⟩ := hQ402
                              show OGo p e below (T402.setTop (mkF m 455 #[.val (.int p1), .val (.int p2), .val (.int p3), .val (.int p4), .val (.int (p1 &&& (3 : Int32))), .val (.int mm), .val (.ref x), .val (.int (Int32.ofNat (own_lit (p1 &&& (3 : Int32))).length)), .val (.int (Int32.ofNat i0)), .val (.int ch), .val (.int N), .val (.ref b), .unset, .unset, .unset] [(.int ((own_T (own_lit (p1 &&& (3 : Int32))) mm i0 ch).getD 12 0)), (.int (12 : Int32)), (.ref b)])) _
                              have Nc402 := Fr.app Nf394 N402
                              obtain ⟨cA403, A403, q403, S403, M403, H403, G403⟩ := id (Vn393.pad (pad_rep _ _ 1))
                              obtain ⟨T404, h404, X404, e404, W404, st404⟩ := stC X402 hx hZ e402 A403 (j := (12 : Int32)) (inb_of S403 ⟨by decide, hf12⟩) (g := (mkF m 455 #[.val (.int p1), .val (.int p2), .val (.int p3), .val (.int p4), .val (.int (p1 &&& (3 : Int32))), .val (.int mm), .val (.ref x), .val (.int (Int32.ofNat (own_lit (p1 &&& (3 : Int32))).length)), .val (.int (Int32.ofNat i0)), .val (.int ch), .val (.int N), .val (.ref b), .unset, .unset, .unset] [(.int ((own_T (own_lit (p1 &&& (3 : Int32))) mm i0 ch).getD 12 0)), (.int (12 : Int32)), (.ref b)])) rfl rfl (hb hby at_455)
                              refine OGo.step st404 ?_
                              show OGo p e below (T404.setTop (mkF m 456 #[.val (.int p1), .val (.int p2), .val (.int p3), .val (.int p4), .val (.int (p1 &&& (3 : Int32))), .val (.int mm), .val (.ref x), .val (.int (Int32.ofNat (own_lit (p1 &&& (3 : Int32))).length)), .val (.int (Int32.ofNat i0)), .val (.int ch), .val (.int N), .val (.ref b), .unset, .unset, .unset] [])) _
                              have Vn403 : Arv Z h404 b k51 .char N (((own_T (own_lit (p1 &&& (3 : Int32))) mm i0 ch).take 13).map Value.int) (.int (0 : Int32)) := by rw [← own_ts hk12 hT.2]; exact Arv.set A403 q403 S403 M403 H403 G403 (fits_nar_char _) W404 12 rfl (own_tl hk12)
                              have KK404 := KK394.wr W404 (Or.inl (List.mem_of_getElem? (i := 0) rfl))
                              have Nf404 := Fr.snoc X404 Nc402 gf_b
                              have sz404 : n0 ≤ h404.size := by rw [W404.size]; exact sz394
                              have sw405 := (Safe.arr (EL := consts_1) OW396.2.1.alike A403 (by decide))
                              have OW406 := OW396.wr W404 sw405
                              refine OGo.step (fun _ kk => XS.iload X404.here hx rfl (hb hby at_456) rfl kk) ?_
                              show OGo p e below (T404.setTop (mkF m 458 #[.val (.int p1), .val (.int p2), .val (.int p3), .val (.int p4), .val (.int (p1 &&& (3 : Int32))), .val (.int mm), .val (.ref x), .val (.int (Int32.ofNat (own_lit (p1 &&& (3 : Int32))).length)), .val (.int (Int32.ofNat i0)), .val (.int ch), .val (.int N), .val (.ref b), .unset, .unset, .unset] [(.int N)])) _
                              refine OGo.step (fun _ kk => XS.bipush X404.here hx rfl (hb hby at_458) kk) ?_
                              show OGo p e below (T404.setTop (mkF m 460 #[.val (.int p1), .val (.int p2), .val (.int p3), .val (.int p4), .val (.int (p1 &&& (3 : Int32))), .val (.int mm), .val (.ref x), .val (.int (Int32.ofNat (own_lit (p1 &&& (3 : Int32))).length)), .val (.int (Int32.ofNat i0)), .val (.int ch), .val (.int N), .val (.ref b), .unset, .unset, .unset] [(.int (13 : Int32)), (.int N)])) _
                              by_cases hf13 : (13 : Int32) < N
                              · refine OGo.step (fun _ kk => XS.icmpNo X404.here hx rfl (hb hby at_460) rfl (tlt hf13).2.2.2 kk) ?_
                                show OGo p e below (T404.setTop (mkF m 463 #[.val (.int p1), .val (.int p2), .val (.int p3), .val (.int p4), .val (.int (p1 &&& (3 : Int32))), .val (.int mm), .val (.ref x), .val (.int (Int32.ofNat (own_lit (p1 &&& (3 : Int32))).length)), .val (.int (Int32.ofNat i0)), .val (.int ch), .val (.int N), .val (.ref b), .unset, .unset, .unset] [])) _
                                have hk13 := own_lt14 13 (by decide) _ hT.1 (by rw [← hN]; exact hf13)
                                refine OGo.step (fun _ kk => XS.aload X404.here hx rfl (hb hby at_463) rfl rfl kk) ?_
                                show OGo p e below (T404.setTop (mkF m 465 #[.val (.int p1), .val (.int p2), .val (.int p3), .val (.int p4), .val (.int (p1 &&& (3 : Int32))), .val (.int mm), .val (.ref x), .val (.int (Int32.ofNat (own_lit (p1 &&& (3 : Int32))).length)), .val (.int (Int32.ofNat i0)), .val (.int ch), .val (.int N), .val (.ref b), .unset, .unset, .unset] [(.ref b)])) _
                                refine OGo.step (fun _ kk => XS.bipush X404.here hx rfl (hb hby at_465) kk) ?_
                                show OGo p e below (T404.setTop (mkF m 467 #[.val (.int p1), .val (.int p2), .val (.int p3), .val (.int p4), .val (.int (p1 &&& (3 : Int32))), .val (.int mm), .val (.ref x), .val (.int (Int32.ofNat (own_lit (p1 &&& (3 : Int32))).length)), .val (.int (Int32.ofNat i0)), .val (.int ch), .val (.int N), .val (.ref b), .unset, .unset, .unset] [(.int (13 : Int32)), (.ref b)])) _
                                refine OGo.step (fun _ kk => XS.aload X404.here hx rfl (hb hby at_467) rfl rfl kk) ?_
                                show OGo p e below (T404.setTop (mkF m 469 #[.val (.int p1), .val (.int p2), .val (.int p3), .val (.int p4), .val (.int (p1 &&& (3 : Int32))), .val (.int mm), .val (.ref x), .val (.int (Int32.ofNat (own_lit (p1 &&& (3 : Int32))).length)), .val (.int (Int32.ofNat i0)), .val (.int ch), .val (.int N), .val (.ref b), .unset, .unset, .unset] [(.ref x), (.int (13 : Int32)), (.ref b)])) _
                                refine OGo.step (fun _ kk => XS.iload X404.here hx rfl (hb hby at_469) rfl kk) ?_
                                show OGo p e below (T404.setTop (mkF m 471 #[.val (.int p1), .val (.int p2), .val (.int p3), .val (.int p4), .val (.int (p1 &&& (3 : Int32))), .val (.int mm), .val (.ref x), .val (.int (Int32.ofNat (own_lit (p1 &&& (3 : Int32))).length)), .val (.int (Int32.ofNat i0)), .val (.int ch), .val (.int N), .val (.ref b), .unset, .unset, .unset] [(.int (Int32.ofNat (own_lit (p1 &&& (3 : Int32))).length)), (.ref x), (.int (13 : Int32)), (.ref b)])) _
                                refine OGo.step (fun _ kk => XS.iload X404.here hx rfl (hb hby at_471) rfl kk) ?_
                                show OGo p e below (T404.setTop (mkF m 473 #[.val (.int p1), .val (.int p2), .val (.int p3), .val (.int p4), .val (.int (p1 &&& (3 : Int32))), .val (.int mm), .val (.ref x), .val (.int (Int32.ofNat (own_lit (p1 &&& (3 : Int32))).length)), .val (.int (Int32.ofNat i0)), .val (.int ch), .val (.int N), .val (.ref b), .unset, .unset, .unset] [(.int mm), (.int (Int32.ofNat (own_lit (p1 &&& (3 : Int32))).length)), (.ref x), (.int (13 : Int32)), (.ref b)])) _
                                refine OGo.step (fun _ kk => XS.iload X404.here hx rfl (hb hby at_473) rfl kk) ?_
                                show OGo p e below (T404.setTop (mkF m 475 #[.val (.int p1), .val (.int p2), .val (.int p3), .val (.int p4), .val (.int (p1 &&& (3 : Int32))), .val (.int mm), .val (.ref x), .val (.int (Int32.ofNat (own_lit (p1 &&& (3 : Int32))).length)), .val (.int (Int32.ofNat i0)), .val (.int ch), .val (.int N), .val (.ref b), .unset, .unset, .unset] [(.int (Int32.ofNat i0)), (.int mm), (.int (Int32.ofNat (own_lit (p1 &&& (3 : Int32))).length)), (.ref x), (.int (13 : Int32)), (.ref b)])) _
                                refine OGo.step (fun _ kk => XS.iload X404.here hx rfl (hb hby at_475) rfl kk) ?_
                                show OGo p e below (T404.setTop (mkF m 477 #[.val (.int p1), .val (.int p2), .val (.int p3), .val (.int p4), .val (.int (p1 &&& (3 : Int32))), .val (.int mm), .val (.ref x), .val (.int (Int32.ofNat (own_lit (p1 &&& (3 : Int32))).length)), .val (.int (Int32.ofNat i0)), .val (.int ch), .val (.int N), .val (.ref b), .unset, .unset, .unset] [(.int ch), (.int (Int32.ofNat i0)), (.int mm), (.int (Int32.ofNat (own_lit (p1 &&& (3 : Int32))).length)), (.ref x), (.int (13 : Int32)), (.ref b)])) _
                                refine OGo.step (fun _ kk => XS.bipush X404.here hx rfl (hb hby at_477) kk) ?_
                                show OGo p e below (T404.setTop (mkF m 479 #[.val (.int p1), .val (.int p2), .val (.int p3), .val (.int p4), .val (.int (p1 &&& (3 : Int32))), .val (.int mm), .val (.ref x), .val (.int (Int32.ofNat (own_lit (p1 &&& (3 : Int32))).length)), .val (.int (Int32.ofNat i0)), .val (.int ch), .val (.int N), .val (.ref b), .unset, .unset, .unset] [(.int (13 : Int32)), (.int ch), (.int (Int32.ofNat i0)), (.int mm), (.int (Int32.ofNat (own_lit (p1 &&& (3 : Int32))).length)), (.ref x), (.int (13 : Int32)), (.ref b)])) _
                                have xt407 := (own_ext_wr xt397 W404 (Nat.le_trans Xe48.1 (Nat.le_of_eq g51.symm)))
                                have fx408 := SC.ext xt407
                                have fx409 := SF.ext xt407
                                have xt410 := (own_ext_wr xt400 W404 (Nat.le_of_eq g51.symm))
                                have fx411 := Ox48.ext xt410
                                refine own_callS X404 hx hZ (y := (⟨"com/example/tenantd/tenantd/RoleTypeOfTextPinLaw", "ch", "(Ljava/lang/String;IIICI)C"⟩ : MethodName)) hown (hw _ (List.mem_of_getElem? (i := 27) rfl)) (hw _ (List.mem_of_getElem? (i := 28) rfl)) (hw _ (List.mem_of_getElem? (i := 2) rfl)) (hw _ (List.mem_of_getElem? (i := 29) rfl)) (by decide) (W := 2) (own_ch l Z a0 hw [] x (own_lit (p1 &&& (3 : Int32))) mm ch zc i0 13 fm h404 n0 sz404 fx408 hzc fx409 hfm fx411 hsl.2.2 hc hsl.2.1 (by omega) (by decide) hk13) e404  (pc := 479) (Ls := #[.val (.int p1), .val (.int p2), .val (.int p3), .val (.int p4), .val (.int (p1 &&& (3 : Int32))), .val (.int mm), .val (.ref x), .val (.int (Int32.ofNat (own_lit (p1 &&& (3 : Int32))).length)), .val (.int (Int32.ofNat i0)), .val (.int ch), .val (.int N), .val (.ref b), .unset, .unset, .unset]) (argsL := [(.ref x), (.int (Int32.ofNat (own_lit (p1 &&& (3 : Int32))).length)), (.int mm), (.int (Int32.ofNat i0)), (.int ch), (.int (13 : Int32))]) (rest := [(.int (13 : Int32)), (.ref b)]) (by rw [hml]; rfl) (lenOf own_pd11 rfl) rfl (hb hby at_479) (by decide) (by decide) (by decide) (by decide) ?_
                                intro v412 T412 L412 X412 hQ412
                                obtain ⟨rfl, N412, e412⟩ := hQ412
                                show OGo p e below (T412.setTop (mkF m 482 #[.val (.int p1), .val (.int p2), .val (.int p3), .val (.int p4), .val (.int (p1 &&& (3 : Int32))), .val (.int mm), .val (.ref x), .val (.int (Int32.ofNat (own_lit (p1 &&& (3 : Int32))).length)), .val (.int (Int32.ofNat i0)), .val (.int ch), .val (.int N), .val (.ref b), .unset, .unset, .unset] [(.int ((own_T (own_lit (p1 &&& (3 : Int32))) mm i0 ch).getD 13 0)), (.int (13 : Int32)), (.ref b)])) _
                                have Nc412 := Fr.app Nf404 N412
                                obtain ⟨cA413, A413, q413, S413, M413, H413, G413⟩ := id (Vn403.pad (pad_rep _ _ 1))
                                obtain ⟨T414, h414, X414, e414, W414, st414⟩ := stC X412 hx hZ e412 A413 (j := (13 : Int32)) (inb_of S413 ⟨by decide, hf13⟩) (g := (mkF m 482 #[.val (.int p1), .val (.int p2), .val (.int p3), .val (.int p4), .val (.int (p1 &&& (3 : Int32))), .val (.int mm), .val (.ref x), .val (.int (Int32.ofNat (own_lit (p1 &&& (3 : Int32))).length)), .val (.int (Int32.ofNat i0)), .val (.int ch), .val (.int N), .val (.ref b), .unset, .unset, .unset] [(.int ((own_T (own_lit (p1 &&& (3 : Int32))) mm i0 ch).getD 13 0)), (.int (13 : Int32)), (.ref b)])) rfl rfl (hb hby at_482)
                                refine OGo.step st414 ?_
                                show OGo p e below (T414.setTop (mkF m 483 #[.val (.int p1), .val (.int p2), .val (.int p3), .val (.int p4), .val (.int (p1 &&& (3 : Int32))), .val (.int mm), .val (.ref x), .val (.int (Int32.ofNat (own_lit (p1 &&& (3 : Int32))).length)), .val (.int (Int32.ofNat i0)), .val (.int ch), .val (.int N), .val (.ref b), .unset, .unset, .unset] [])) _
                                have Vn413 : Arv Z h414 b k51 .char N (((own_T (own_lit (p1 &&& (3 : Int32))) mm i0 ch).take 14).map Value.int) (.int (0 : Int32)) := by rw [← own_ts hk13 hT.2]; exact Arv.set A413 q413 S413 M413 H413 G413 (fits_nar_char _) W414 13 rfl (own_tl hk13)
                                have KK414 := KK404.wr W414 (Or.inl (List.mem_of_getElem? (i := 0) rfl))
                                have Nf414 := Fr.snoc X414 Nc412 gf_b
                                have sz414 : n0 ≤ h414.size := by rw [W414.size]; exact sz404
                                have sw415 := (Safe.arr (EL := consts_1) OW406.2.1.alike A413 (by decide))
                                have OW416 := OW406.wr W414 sw415
                                exact S_14 _ _ _ X414 e414 OW416 KK414 (by have q := Vn413; rw [List.take_of_length_le hT.1] at q; exact q) Nf414 sz414 hT.1
                              · refine OGo.step (fun _ kk => XS.icmpYes X404.here hx rfl (pc0 := 460) (pc' := 483) rfl (hb hby at_460) rfl (flt hf13).2.2.2 (by decide) (by decide) kk) ?_
                                show OGo p e below (T404.setTop (mkF m 483 #[.val (.int p1), .val (.int p2), .val (.int p3), .val (.int p4), .val (.int (p1 &&& (3 : Int32))), .val (.int mm), .val (.ref x), .val (.int (Int32.ofNat (own_lit (p1 &&& (3 : Int32))).length)), .val (.int (Int32.ofNat i0)), .val (.int ch), .val (.int N), .val (.ref b), .unset, .unset, .unset] [])) _
                                have hle := own_nge14 13 (by decide) _ hT.1 (by rw [← hN]; exact hf13)
                                exact S_14 _ _ _ X404 e404 OW406 KK404 (by have q := Vn403; rw [List.take_of_length_le hle] at q; exact q) Nf404 sz404 (Nat.le_succ_of_le hle)
                            · refine OGo.step (fun _ kk => XS.icmpYes X394.here hx rfl (pc0 := 433) (pc' := 456) rfl (hb hby at_433) rfl (flt hf12).2.2.2 (by decide) (by decide) kk) ?_
                              show OGo p e below (T394.setTop (mkF m 456 #[.val (.int p1), .val (.int p2), .val (.int p3), .val (.int p4), .val (.int (p1 &&& (3 : Int32))), .val (.int mm), .val (.ref x), .val (.int (Int32.ofNat (own_lit (p1 &&& (3 : Int32))).length)), .val (.int (Int32.ofNat i0)), .val (.int ch), .val (.int N), .val (.ref b), .unset, .unset, .unset] [])) _
                              have hle := own_nge14 12 (by decide) _ hT.1 (by rw [← hN]; exact hf12)
                              exact S_13 _ _ _ X394 e394 OW396 KK394 (by have q := Vn393; rw [List.take_of_length_le hle] at q; exact q) Nf394 sz394 (Nat.le_succ_of_le hle)
                          · refine OGo.step (fun _ kk => XS.icmpYes X384.here hx rfl (pc0 := 406) (pc' := 429) rfl (hb hby at_406) rfl (flt hf11).2.2.2 (by decide) (by decide) kk) ?_
                            show OGo p e below (T384.setTop (mkF m 429 #[.val (.int p1), .val (.int p2), .val (.int p3), .val (.int p4), .val (.int (p1 &&& (3 : Int32))), .val (.int mm), .val (.ref x), .val (.int (Int32.ofNat (own_lit (p1 &&& (3 : Int32))).length)), .val (.int (Int32.ofNat i0)), .val (.int ch), .val (.int N), .val (.ref b), .unset, .unset, .unset] [])) _
                            have hle := own_nge14 11 (by decide) _ hT.1 (by rw [← hN]; exact hf11)
                            exact S_12 _ _ _ X384 e384 OW386 KK384 (by have q := Vn383; rw [List.take_of_length_le hle] at q; exact q) Nf384 sz384 (Nat.le_succ_of_le hle)
                        · refine OGo.step (fun _ kk => XS.icmpYes X374.here hx rfl (pc0 := 379) (pc' := 402) rfl (hb hby at_379) rfl (flt hf10).2.2.2 (by decide) (by decide) kk) ?_
                          show OGo p e below (T374.setTop (mkF m 402 #[.val (.int p1), .val (.int p2), .val (.int p3), .val (.int p4), .val (.int (p1 &&& (3 : Int32))), .val (.int mm), .val (.ref x), .val (.int (Int32.ofNat (own_lit (p1 &&& (3 : Int32))).length)), .val (.int (Int32.ofNat i0)), .val (.int ch), .val (.int N), .val (.ref b), .unset, .unset, .unset] [])) _
                          have hle := own_nge14 10 (by decide) _ hT.1 (by rw [← hN]; exact hf10)
                          exact S_11 _ _ _ X374 e374 OW376 KK374 (by have q := Vn373; rw [List.take_of_length_le hle] at q; exact q) Nf374 sz374 (Nat.le_succ_of_le hle)
                      · refine OGo.step (fun _ kk => XS.icmpYes X364.here hx rfl (pc0 := 352) (pc' := 375) rfl (hb hby at_352) rfl (flt hf9).2.2.2 (by decide) (by decide) kk) ?_
                        show OGo p e below (T364.setTop (mkF m 375 #[.val (.int p1), .val (.int p2), .val (.int p3), .val (.int p4), .val (.int (p1 &&& (3 : Int32))), .val (.int mm), .val (.ref x), .val (.int (Int32.ofNat (own_lit (p1 &&& (3 : Int32))).length)), .val (.int (Int32.ofNat i0)), .val (.int ch), .val (.int N), .val (.ref b), .unset, .unset, .unset] [])) _
                        have hle := own_nge14 9 (by decide) _ hT.1 (by rw [← hN]; exact hf9)
                        exact S_10 _ _ _ X364 e364 OW366 KK364 (by have q := Vn363; rw [List.take_of_length_le hle] at q; exact q) Nf364 sz364 (Nat.le_succ_of_le hle)
                    · refine OGo.step (fun _ kk => XS.icmpYes X354.here hx rfl (pc0 := 325) (pc' := 348) rfl (hb hby at_325) rfl (flt hf8).2.2.2 (by decide) (by decide) kk) ?_
                      show OGo p e below (T354.setTop (mkF m 348 #[.val (.int p1), .val (.int p2), .val (.int p3), .val (.int p4), .val (.int (p1 &&& (3 : Int32))), .val (.int mm), .val (.ref x), .val (.int (Int32.ofNat (own_lit (p1 &&& (3 : Int32))).length)), .val (.int (Int32.ofNat i0)), .val (.int ch), .val (.int N), .val (.ref b), .unset, .unset, .unset] [])) _
                      have hle := own_nge14 8 (by decide) _ hT.1 (by rw [← hN]; exact hf8)
                      exact S_9 _ _ _ X354 e354 OW356 KK354 (by have q := Vn353; rw [List.take_of_length_le hle] at q; exact q) Nf354 sz354 (Nat.le_succ_of_le hle)
                  · refine OGo.step (fun _ kk => XS.icmpYes X344.here hx rfl (pc0 := 298) (pc' := 321) rfl (hb hby at_298) rfl (flt hf7).2.2.2 (by decide) (by decide) kk) ?_
                    show OGo p e below (T344.setTop (mkF m 321 #[.val (.int p1), .val (.int p2), .val (.int p3), .val (.int p4), .val (.int (p1 &&& (3 : Int32))), .val (.int mm), .val (.ref x), .val (.int (Int32.ofNat (own_lit (p1 &&& (3 : Int32))).length)), .val (.int (Int32.ofNat i0)), .val (.int ch), .val (.int N), .val (.ref b), .unset, .unset, .unset] [])) _
                    have hle := own_nge14 7 (by decide) _ hT.1 (by rw [← hN]; exact hf7)
                    exact S_8 _ _ _ X344 e344 OW346 KK344 (by have q := Vn343; rw [List.take_of_length_le hle] at q; exact q) Nf344 sz344 (Nat.le_succ_of_le hle)
                · refine OGo.step (fun _ kk => XS.icmpYes X334.here hx rfl (pc0 := 271) (pc' := 294) rfl (hb hby at_271) rfl (flt hf6).2.2.2 (by decide) (by decide) kk) ?_
                  show OGo p e below (T334.setTop (mkF m 294 #[.val (.int p1), .val (.int p2), .val (.int p3), .val (.int p4), .val (.int (p1 &&& (3 : Int32))), .val (.int mm), .val (.ref x), .val (.int (Int32.ofNat (own_lit (p1 &&& (3 : Int32))).length)), .val (.int (Int32.ofNat i0)), .val (.int ch), .val (.int N), .val (.ref b), .unset, .unset, .unset] [])) _
                  have hle := own_nge14 6 (by decide) _ hT.1 (by rw [← hN]; exact hf6)
                  exact S_7 _ _ _ X334 e334 OW336 KK334 (by have q := Vn333; rw [List.take_of_length_le hle] at q; exact q) Nf334 sz334 (Nat.le_succ_of_le hle)
              · refine OGo.step (fun _ kk => XS.icmpYes X324.here hx rfl (pc0 := 246) (pc' := 267) rfl (hb hby at_246) rfl (flt hf5).2.2.2 (by decide) (by decide) kk) ?_
                show OGo p e below (T324.setTop (mkF m 267 #[.val (.int p1), .val (.int p2), .val (.int p3), .val (.int p4), .val (.int (p1 &&& (3 : Int32))), .val (.int mm), .val (.ref x), .val (.int (Int32.ofNat (own_lit (p1 &&& (3 : Int32))).length)), .val (.int (Int32.ofNat i0)), .val (.int ch), .val (.int N), .val (.ref b), .unset, .unset, .unset] [])) _
                have hle := own_nge14 5 (by decide) _ hT.1 (by rw [← hN]; exact hf5)
                exact S_6 _ _ _ X324 e324 OW326 KK324 (by have q := Vn323; rw [List.take_of_length_le hle] at q; exact q) Nf324 sz324 (Nat.le_succ_of_le hle)
            · refine OGo.step (fun _ kk => XS.icmpYes X314.here hx rfl (pc0 := 222) (pc' := 243) rfl (hb hby at_222) rfl (flt hf4).2.2.2 (by decide) (by decide) kk) ?_
              show OGo p e below (T314.setTop (mkF m 243 #[.val (.int p1), .val (.int p2), .val (.int p3), .val (.int p4), .val (.int (p1 &&& (3 : Int32))), .val (.int mm), .val (.ref x), .val (.int (Int32.ofNat (own_lit (p1 &&& (3 : Int32))).length)), .val (.int (Int32.ofNat i0)), .val (.int ch), .val (.int N), .val (.ref b), .unset, .unset, .unset] [])) _
              have hle := own_nge14 4 (by decide) _ hT.1 (by rw [← hN]; exact hf4)
              exact S_5 _ _ _ X314 e314 OW316 KK314 (by have q := Vn313; rw [List.take_of_length_le hle] at q; exact q) Nf314 sz314 (Nat.le_succ_of_le hle)
          · refine OGo.step (fun _ kk => XS.icmpYes X304.here hx rfl (pc0 := 198) (pc' := 219) rfl (hb hby at_198) rfl (flt hf3).2.2.2 (by decide) (by decide) kk) ?_
            show OGo p e below (T304.setTop (mkF m 219 #[.val (.int p1), .val (.int p2), .val (.int p3), .val (.int p4), .val (.int (p1 &&& (3 : Int32))), .val (.int mm), .val (.ref x), .val (.int (Int32.ofNat (own_lit (p1 &&& (3 : Int32))).length)), .val (.int (Int32.ofNat i0)), .val (.int ch), .val (.int N), .val (.ref b), .unset, .unset, .unset] [])) _
            have hle := own_nge14 3 (by decide) _ hT.1 (by rw [← hN]; exact hf3)
            exact S_4 _ _ _ X304 e304 OW306 KK304 (by have q := Vn303; rw [List.take_of_length_le hle] at q; exact q) Nf304 sz304 (Nat.le_succ_of_le hle)
        · refine OGo.step (fun _ kk => XS.icmpYes X294.here hx rfl (pc0 := 174) (pc' := 195) rfl (hb hby at_174) rfl (flt hf2).2.2.2 (by decide) (by decide) kk) ?_
          show OGo p e below (T294.setTop (mkF m 195 #[.val (.int p1), .val (.int p2), .val (.int p3), .val (.int p4), .val (.int (p1 &&& (3 : Int32))), .val (.int mm), .val (.ref x), .val (.int (Int32.ofNat (own_lit (p1 &&& (3 : Int32))).length)), .val (.int (Int32.ofNat i0)), .val (.int ch), .val (.int N), .val (.ref b), .unset, .unset, .unset] [])) _
          have hle := own_nge14 2 (by decide) _ hT.1 (by rw [← hN]; exact hf2)
          exact S_3 _ _ _ X294 e294 OW296 KK294 (by have q := Vn293; rw [List.take_of_length_le hle] at q; exact q) Nf294 sz294 (Nat.le_succ_of_le hle)
      · refine OGo.step (fun _ kk => XS.icmpYes X284.here hx rfl (pc0 := 150) (pc' := 171) rfl (hb hby at_150) rfl (flt hf1).2.2.2 (by decide) (by decide) kk) ?_
        show OGo p e below (T284.setTop (mkF m 171 #[.val (.int p1), .val (.int p2), .val (.int p3), .val (.int p4), .val (.int (p1 &&& (3 : Int32))), .val (.int mm), .val (.ref x), .val (.int (Int32.ofNat (own_lit (p1 &&& (3 : Int32))).length)), .val (.int (Int32.ofNat i0)), .val (.int ch), .val (.int N), .val (.ref b), .unset, .unset, .unset] [])) _
        have hle := own_nge14 1 (by decide) _ hT.1 (by rw [← hN]; exact hf1)
        exact S_2 _ _ _ X284 e284 OW286 KK284 (by have q := Vn283; rw [List.take_of_length_le hle] at q; exact q) Nf284 sz284 (Nat.le_succ_of_le hle)
    · refine OGo.step (fun _ kk => XS.ifYes X51.here hx rfl (pc0 := 126) (pc' := 147) rfl (hb hby at_126) rfl ((if0 _ _).trans (flt hf0).2.2.2) (by decide) (by decide) kk) ?_
      show OGo p e below (T51.setTop (mkF m 147 #[.val (.int p1), .val (.int p2), .val (.int p3), .val (.int p4), .val (.int (p1 &&& (3 : Int32))), .val (.int mm), .val (.ref x), .val (.int (Int32.ofNat (own_lit (p1 &&& (3 : Int32))).length)), .val (.int (Int32.ofNat i0)), .val (.int ch), .val (.int N), .val (.ref b), .unset, .unset, .unset] [])) _
      have hle := own_nge14 0 (by decide) _ hT.1 (by rw [← hN]; exact hf0)
      exact S_1 _ _ _ X51 e51 OW52 (Keep.refl h51 [b]) (by have q := V0_; rw [List.take_of_length_le hle] at q; exact q) Nc50 sz51 (Nat.le_succ_of_le hle)
  by_cases g0 : mm = (0 : Int32)
  · refine OGo.step (fun _ kk => XS.ifYes X50.here hx rfl (pc0 := 44) (pc' := 53) rfl (hb hby at_44) rfl ((if0 _ _).trans (teq g0).1) (by decide) (by decide) kk) ?_
    show OGo p e below (T50.setTop (mkF m 53 #[.val (.int p1), .val (.int p2), .val (.int p3), .val (.int p4), .val (.int (p1 &&& (3 : Int32))), .val (.int mm), .val (.ref x), .val (.int (Int32.ofNat (own_lit (p1 &&& (3 : Int32))).length)), .val (.int (Int32.ofNat i0)), .val (.int ch), .unset, .unset, .unset, .unset, .unset] [])) _
    refine OGo.step (fun _ kk => XS.iload X50.here hx rfl (hb hby at_53) rfl kk) ?_
    show OGo p e below (T50.setTop (mkF m 55 #[.val (.int p1), .val (.int p2), .val (.int p3), .val (.int p4), .val (.int (p1 &&& (3 : Int32))), .val (.int mm), .val (.ref x), .val (.int (Int32.ofNat (own_lit (p1 &&& (3 : Int32))).length)), .val (.int (Int32.ofNat i0)), .val (.int ch), .unset, .unset, .unset, .unset, .unset] [(.int (Int32.ofNat (own_lit (p1 &&& (3 : Int32))).length))])) _
    refine OGo.step (fun _ kk => XS.istore X50.here hx rfl (hb hby at_55) rfl (l' := #[.val (.int p1), .val (.int p2), .val (.int p3), .val (.int p4), .val (.int (p1 &&& (3 : Int32))), .val (.int mm), .val (.ref x), .val (.int (Int32.ofNat (own_lit (p1 &&& (3 : Int32))).length)), .val (.int (Int32.ofNat i0)), .val (.int ch), .val (.int (Int32.ofNat (own_lit (p1 &&& (3 : Int32))).length)), .unset, .unset, .unset, .unset]) rfl kk) ?_
    show OGo p e below (T50.setTop (mkF m 57 #[.val (.int p1), .val (.int p2), .val (.int p3), .val (.int p4), .val (.int (p1 &&& (3 : Int32))), .val (.int mm), .val (.ref x), .val (.int (Int32.ofNat (own_lit (p1 &&& (3 : Int32))).length)), .val (.int (Int32.ofNat i0)), .val (.int ch), .val (.int (Int32.ofNat (own_lit (p1 &&& (3 : Int32))).length)), .unset, .unset, .unset, .unset] [])) _
    refine OGo.step (fun _ kk => XS.goto X50.here hx rfl (pc0 := 57) (pc' := 118) rfl (hb hby at_57) (by decide) (by decide) kk) ?_
    show OGo p e below (T50.setTop (mkF m 118 #[.val (.int p1), .val (.int p2), .val (.int p3), .val (.int p4), .val (.int (p1 &&& (3 : Int32))), .val (.int mm), .val (.ref x), .val (.int (Int32.ofNat (own_lit (p1 &&& (3 : Int32))).length)), .val (.int (Int32.ofNat i0)), .val (.int ch), .val (.int (Int32.ofNat (own_lit (p1 &&& (3 : Int32))).length)), .unset, .unset, .unset, .unset] [])) _
    exact K118 _ (by rw [own_len01 (Or.inl g0)])
  · refine OGo.step (fun _ kk => XS.ifNo X50.here hx rfl (hb hby at_44) rfl ((if0 _ _).trans (feq g0).1) kk) ?_
    show OGo p e below (T50.setTop (mkF m 47 #[.val (.int p1), .val (.int p2), .val (.int p3), .val (.int p4), .val (.int (p1 &&& (3 : Int32))), .val (.int mm), .val (.ref x), .val (.int (Int32.ofNat (own_lit (p1 &&& (3 : Int32))).length)), .val (.int (Int32.ofNat i0)), .val (.int ch), .unset, .unset, .unset, .unset, .unset] [])) _
    refine OGo.step (fun _ kk => XS.iload X50.here hx rfl (hb hby at_47) rfl kk) ?_
    show OGo p e below (T50.setTop (mkF m 49 #[.val (.int p1), .val (.int p2), .val (.int p3), .val (.int p4), .val (.int (p1 &&& (3 : Int32))), .val (.int mm), .val (.ref x), .val (.int (Int32.ofNat (own_lit (p1 &&& (3 : Int32))).length)), .val (.int (Int32.ofNat i0)), .val (.int ch), .unset, .unset, .unset, .unset, .unset] [(.int mm)])) _
    refine OGo.step (fun _ kk => XS.iconst X50.here hx rfl (hb hby at_49) kk) ?_
    show OGo p e below (T50.setTop (mkF m 50 #[.val (.int p1), .val (.int p2), .val (.int p3), .val (.int p4), .val (.int (p1 &&& (3 : Int32))), .val (.int mm), .val (.ref x), .val (.int (Int32.ofNat (own_lit (p1 &&& (3 : Int32))).length)), .val (.int (Int32.ofNat i0)), .val (.int ch), .unset, .unset, .unset, .unset, .unset] [(.int (1 : Int32)), (.int mm)])) _
    by_cases g1 : mm = (1 : Int32)
    · refine OGo.step (fun _ kk => XS.icmpNo X50.here hx rfl (hb hby at_50) rfl (teq g1).2 kk) ?_
      show OGo p e below (T50.setTop (mkF m 53 #[.val (.int p1), .val (.int p2), .val (.int p3), .val (.int p4), .val (.int (p1 &&& (3 : Int32))), .val (.int mm), .val (.ref x), .val (.int (Int32.ofNat (own_lit (p1 &&& (3 : Int32))).length)), .val (.int (Int32.ofNat i0)), .val (.int ch), .unset, .unset, .unset, .unset, .unset] [])) _
      refine OGo.step (fun _ kk => XS.iload X50.here hx rfl (hb hby at_53) rfl kk) ?_
      show OGo p e below (T50.setTop (mkF m 55 #[.val (.int p1), .val (.int p2), .val (.int p3), .val (.int p4), .val (.int (p1 &&& (3 : Int32))), .val (.int mm), .val (.ref x), .val (.int (Int32.ofNat (own_lit (p1 &&& (3 : Int32))).length)), .val (.int (Int32.ofNat i0)), .val (.int ch), .unset, .unset, .unset, .unset, .unset] [(.int (Int32.ofNat (own_lit (p1 &&& (3 : Int32))).length))])) _
      refine OGo.step (fun _ kk => XS.istore X50.here hx rfl (hb hby at_55) rfl (l' := #[.val (.int p1), .val (.int p2), .val (.int p3), .val (.int p4), .val (.int (p1 &&& (3 : Int32))), .val (.int mm), .val (.ref x), .val (.int (Int32.ofNat (own_lit (p1 &&& (3 : Int32))).length)), .val (.int (Int32.ofNat i0)), .val (.int ch), .val (.int (Int32.ofNat (own_lit (p1 &&& (3 : Int32))).length)), .unset, .unset, .unset, .unset]) rfl kk) ?_
      show OGo p e below (T50.setTop (mkF m 57 #[.val (.int p1), .val (.int p2), .val (.int p3), .val (.int p4), .val (.int (p1 &&& (3 : Int32))), .val (.int mm), .val (.ref x), .val (.int (Int32.ofNat (own_lit (p1 &&& (3 : Int32))).length)), .val (.int (Int32.ofNat i0)), .val (.int ch), .val (.int (Int32.ofNat (own_lit (p1 &&& (3 : Int32))).length)), .unset, .unset, .unset, .unset] [])) _
      refine OGo.step (fun _ kk => XS.goto X50.here hx rfl (pc0 := 57) (pc' := 118) rfl (hb hby at_57) (by decide) (by decide) kk) ?_
      show OGo p e below (T50.setTop (mkF m 118 #[.val (.int p1), .val (.int p2), .val (.int p3), .val (.int p4), .val (.int (p1 &&& (3 : Int32))), .val (.int mm), .val (.ref x), .val (.int (Int32.ofNat (own_lit (p1 &&& (3 : Int32))).length)), .val (.int (Int32.ofNat i0)), .val (.int ch), .val (.int (Int32.ofNat (own_lit (p1 &&& (3 : Int32))).length)), .unset, .unset, .unset, .unset] [])) _
      exact K118 _ (by rw [own_len01 (Or.inr g1)])
    · refine OGo.step (fun _ kk => XS.icmpYes X50.here hx rfl (pc0 := 50) (pc' := 60) rfl (hb hby at_50) rfl (feq g1).2 (by decide) (by decide) kk) ?_
      show OGo p e below (T50.setTop (mkF m 60 #[.val (.int p1), .val (.int p2), .val (.int p3), .val (.int p4), .val (.int (p1 &&& (3 : Int32))), .val (.int mm), .val (.ref x), .val (.int (Int32.ofNat (own_lit (p1 &&& (3 : Int32))).length)), .val (.int (Int32.ofNat i0)), .val (.int ch), .unset, .unset, .unset, .unset, .unset] [])) _
      refine OGo.step (fun _ kk => XS.iload X50.here hx rfl (hb hby at_60) rfl kk) ?_
      show OGo p e below (T50.setTop (mkF m 62 #[.val (.int p1), .val (.int p2), .val (.int p3), .val (.int p4), .val (.int (p1 &&& (3 : Int32))), .val (.int mm), .val (.ref x), .val (.int (Int32.ofNat (own_lit (p1 &&& (3 : Int32))).length)), .val (.int (Int32.ofNat i0)), .val (.int ch), .unset, .unset, .unset, .unset, .unset] [(.int mm)])) _
      refine OGo.step (fun _ kk => XS.iconst X50.here hx rfl (hb hby at_62) kk) ?_
      show OGo p e below (T50.setTop (mkF m 63 #[.val (.int p1), .val (.int p2), .val (.int p3), .val (.int p4), .val (.int (p1 &&& (3 : Int32))), .val (.int mm), .val (.ref x), .val (.int (Int32.ofNat (own_lit (p1 &&& (3 : Int32))).length)), .val (.int (Int32.ofNat i0)), .val (.int ch), .unset, .unset, .unset, .unset, .unset] [(.int (2 : Int32)), (.int mm)])) _
      by_cases g2 : mm = (2 : Int32)
      · refine OGo.step (fun _ kk => XS.icmpYes X50.here hx rfl (pc0 := 63) (pc' := 72) rfl (hb hby at_63) rfl (teq g2).1 (by decide) (by decide) kk) ?_
        show OGo p e below (T50.setTop (mkF m 72 #[.val (.int p1), .val (.int p2), .val (.int p3), .val (.int p4), .val (.int (p1 &&& (3 : Int32))), .val (.int mm), .val (.ref x), .val (.int (Int32.ofNat (own_lit (p1 &&& (3 : Int32))).length)), .val (.int (Int32.ofNat i0)), .val (.int ch), .unset, .unset, .unset, .unset, .unset] [])) _
        refine OGo.step (fun _ kk => XS.iload X50.here hx rfl (hb hby at_72) rfl kk) ?_
        show OGo p e below (T50.setTop (mkF m 74 #[.val (.int p1), .val (.int p2), .val (.int p3), .val (.int p4), .val (.int (p1 &&& (3 : Int32))), .val (.int mm), .val (.ref x), .val (.int (Int32.ofNat (own_lit (p1 &&& (3 : Int32))).length)), .val (.int (Int32.ofNat i0)), .val (.int ch), .unset, .unset, .unset, .unset, .unset] [(.int (Int32.ofNat (own_lit (p1 &&& (3 : Int32))).length))])) _
        refine OGo.step (fun _ kk => XS.iconst X50.here hx rfl (hb hby at_74) kk) ?_
        show OGo p e below (T50.setTop (mkF m 75 #[.val (.int p1), .val (.int p2), .val (.int p3), .val (.int p4), .val (.int (p1 &&& (3 : Int32))), .val (.int mm), .val (.ref x), .val (.int (Int32.ofNat (own_lit (p1 &&& (3 : Int32))).length)), .val (.int (Int32.ofNat i0)), .val (.int ch), .unset, .unset, .unset, .unset, .unset] [(.int (1 : Int32)), (.int (Int32.ofNat (own_lit (p1 &&& (3 : Int32))).length))])) _
        refine OGo.step (fun _ kk => XS.isub X50.here hx rfl (hb hby at_75) rfl kk) ?_
        show OGo p e below (T50.setTop (mkF m 76 #[.val (.int p1), .val (.int p2), .val (.int p3), .val (.int p4), .val (.int (p1 &&& (3 : Int32))), .val (.int mm), .val (.ref x), .val (.int (Int32.ofNat (own_lit (p1 &&& (3 : Int32))).length)), .val (.int (Int32.ofNat i0)), .val (.int ch), .unset, .unset, .unset, .unset, .unset] [(.int ((Int32.ofNat (own_lit (p1 &&& (3 : Int32))).length) - (1 : Int32)))])) _
        refine OGo.step (fun _ kk => XS.istore X50.here hx rfl (hb hby at_76) rfl (l' := #[.val (.int p1), .val (.int p2), .val (.int p3), .val (.int p4), .val (.int (p1 &&& (3 : Int32))), .val (.int mm), .val (.ref x), .val (.int (Int32.ofNat (own_lit (p1 &&& (3 : Int32))).length)), .val (.int (Int32.ofNat i0)), .val (.int ch), .val (.int ((Int32.ofNat (own_lit (p1 &&& (3 : Int32))).length) - (1 : Int32))), .unset, .unset, .unset, .unset]) rfl kk) ?_
        show OGo p e below (T50.setTop (mkF m 78 #[.val (.int p1), .val (.int p2), .val (.int p3), .val (.int p4), .val (.int (p1 &&& (3 : Int32))), .val (.int mm), .val (.ref x), .val (.int (Int32.ofNat (own_lit (p1 &&& (3 : Int32))).length)), .val (.int (Int32.ofNat i0)), .val (.int ch), .val (.int ((Int32.ofNat (own_lit (p1 &&& (3 : Int32))).length) - (1 : Int32))), .unset, .unset, .unset, .unset] [])) _
        refine OGo.step (fun _ kk => XS.goto X50.here hx rfl (pc0 := 78) (pc' := 118) rfl (hb hby at_78) (by decide) (by decide) kk) ?_
        show OGo p e below (T50.setTop (mkF m 118 #[.val (.int p1), .val (.int p2), .val (.int p3), .val (.int p4), .val (.int (p1 &&& (3 : Int32))), .val (.int mm), .val (.ref x), .val (.int (Int32.ofNat (own_lit (p1 &&& (3 : Int32))).length)), .val (.int (Int32.ofNat i0)), .val (.int ch), .val (.int ((Int32.ofNat (own_lit (p1 &&& (3 : Int32))).length) - (1 : Int32))), .unset, .unset, .unset, .unset] [])) _
        exact K118 _ (by rw [own_len24 (Or.inl g2)]; exact own_sub1 _ hsl.2.1 (by omega))
      · refine OGo.step (fun _ kk => XS.icmpNo X50.here hx rfl (hb hby at_63) rfl (feq g2).1 kk) ?_
        show OGo p e below (T50.setTop (mkF m 66 #[.val (.int p1), .val (.int p2), .val (.int p3), .val (.int p4), .val (.int (p1 &&& (3 : Int32))), .val (.int mm), .val (.ref x), .val (.int (Int32.ofNat (own_lit (p1 &&& (3 : Int32))).length)), .val (.int (Int32.ofNat i0)), .val (.int ch), .unset, .unset, .unset, .unset, .unset] [])) _
        refine OGo.step (fun _ kk => XS.iload X50.here hx rfl (hb hby at_66) rfl kk) ?_
        show OGo p e below (T50.setTop (mkF m 68 #[.val (.int p1), .val (.int p2), .val (.int p3), .val (.int p4), .val (.int (p1 &&& (3 : Int32))), .val (.int mm), .val (.ref x), .val (.int (Int32.ofNat (own_lit (p1 &&& (3 : Int32))).length)), .val (.int (Int32.ofNat i0)), .val (.int ch), .unset, .unset, .unset, .unset, .unset] [(.int mm)])) _
        refine OGo.step (fun _ kk => XS.iconst X50.here hx rfl (hb hby at_68) kk) ?_
        show OGo p e below (T50.setTop (mkF m 69 #[.val (.int p1), .val (.int p2), .val (.int p3), .val (.int p4), .val (.int (p1 &&& (3 : Int32))), .val (.int mm), .val (.ref x), .val (.int (Int32.ofNat (own_lit (p1 &&& (3 : Int32))).length)), .val (.int (Int32.ofNat i0)), .val (.int ch), .unset, .unset, .unset, .unset, .unset] [(.int (4 : Int32)), (.int mm)])) _
        by_cases g4 : mm = (4 : Int32)
        · refine OGo.step (fun _ kk => XS.icmpNo X50.here hx rfl (hb hby at_69) rfl (teq g4).2 kk) ?_
          show OGo p e below (T50.setTop (mkF m 72 #[.val (.int p1), .val (.int p2), .val (.int p3), .val (.int p4), .val (.int (p1 &&& (3 : Int32))), .val (.int mm), .val (.ref x), .val (.int (Int32.ofNat (own_lit (p1 &&& (3 : Int32))).length)), .val (.int (Int32.ofNat i0)), .val (.int ch), .unset, .unset, .unset, .unset, .unset] [])) _
          refine OGo.step (fun _ kk => XS.iload X50.here hx rfl (hb hby at_72) rfl kk) ?_
          show OGo p e below (T50.setTop (mkF m 74 #[.val (.int p1), .val (.int p2), .val (.int p3), .val (.int p4), .val (.int (p1 &&& (3 : Int32))), .val (.int mm), .val (.ref x), .val (.int (Int32.ofNat (own_lit (p1 &&& (3 : Int32))).length)), .val (.int (Int32.ofNat i0)), .val (.int ch), .unset, .unset, .unset, .unset, .unset] [(.int (Int32.ofNat (own_lit (p1 &&& (3 : Int32))).length))])) _
          refine OGo.step (fun _ kk => XS.iconst X50.here hx rfl (hb hby at_74) kk) ?_
          show OGo p e below (T50.setTop (mkF m 75 #[.val (.int p1), .val (.int p2), .val (.int p3), .val (.int p4), .val (.int (p1 &&& (3 : Int32))), .val (.int mm), .val (.ref x), .val (.int (Int32.ofNat (own_lit (p1 &&& (3 : Int32))).length)), .val (.int (Int32.ofNat i0)), .val (.int ch), .unset, .unset, .unset, .unset, .unset] [(.int (1 : Int32)), (.int (Int32.ofNat (own_lit (p1 &&& (3 : Int32))).length))])) _
          refine OGo.step (fun _ kk => XS.isub X50.here hx rfl (hb hby at_75) rfl kk) ?_
          show OGo p e below (T50.setTop (mkF m 76 #[.val (.int p1), .val (.int p2), .val (.int p3), .val (.int p4), .val (.int (p1 &&& (3 : Int32))), .val (.int mm), .val (.ref x), .val (.int (Int32.ofNat (own_lit (p1 &&& (3 : Int32))).length)), .val (.int (Int32.ofNat i0)), .val (.int ch), .unset, .unset, .unset, .unset, .unset] [(.int ((Int32.ofNat (own_lit (p1 &&& (3 : Int32))).length) - (1 : Int32)))])) _
          refine OGo.step (fun _ kk => XS.istore X50.here hx rfl (hb hby at_76) rfl (l' := #[.val (.int p1), .val (.int p2), .val (.int p3), .val (.int p4), .val (.int (p1 &&& (3 : Int32))), .val (.int mm), .val (.ref x), .val (.int (Int32.ofNat (own_lit (p1 &&& (3 : Int32))).length)), .val (.int (Int32.ofNat i0)), .val (.int ch), .val (.int ((Int32.ofNat (own_lit (p1 &&& (3 : Int32))).length) - (1 : Int32))), .unset, .unset, .unset, .unset]) rfl kk) ?_
          show OGo p e below (T50.setTop (mkF m 78 #[.val (.int p1), .val (.int p2), .val (.int p3), .val (.int p4), .val (.int (p1 &&& (3 : Int32))), .val (.int mm), .val (.ref x), .val (.int (Int32.ofNat (own_lit (p1 &&& (3 : Int32))).length)), .val (.int (Int32.ofNat i0)), .val (.int ch), .val (.int ((Int32.ofNat (own_lit (p1 &&& (3 : Int32))).length) - (1 : Int32))), .unset, .unset, .unset, .unset] [])) _
          refine OGo.step (fun _ kk => XS.goto X50.here hx rfl (pc0 := 78) (pc' := 118) rfl (hb hby at_78) (by decide) (by decide) kk) ?_
          show OGo p e below (T50.setTop (mkF m 118 #[.val (.int p1), .val (.int p2), .val (.int p3), .val (.int p4), .val (.int (p1 &&& (3 : Int32))), .val (.int mm), .val (.ref x), .val (.int (Int32.ofNat (own_lit (p1 &&& (3 : Int32))).length)), .val (.int (Int32.ofNat i0)), .val (.int ch), .val (.int ((Int32.ofNat (own_lit (p1 &&& (3 : Int32))).length) - (1 : Int32))), .unset, .unset, .unset, .unset] [])) _
          exact K118 _ (by rw [own_len24 (Or.inr g4)]; exact own_sub1 _ hsl.2.1 (by omega))
        · refine OGo.step (fun _ kk => XS.icmpYes X50.here hx rfl (pc0 := 69) (pc' := 81) rfl (hb hby at_69) rfl (feq g4).2 (by decide) (by decide) kk) ?_
          show OGo p e below (T50.setTop (mkF m 81 #[.val (.int p1), .val (.int p2), .val (.int p3), .val (.int p4), .val (.int (p1 &&& (3 : Int32))), .val (.int mm), .val (.ref x), .val (.int (Int32.ofNat (own_lit (p1 &&& (3 : Int32))).length)), .val (.int (Int32.ofNat i0)), .val (.int ch), .unset, .unset, .unset, .unset, .unset] [])) _
          refine OGo.step (fun _ kk => XS.iload X50.here hx rfl (hb hby at_81) rfl kk) ?_
          show OGo p e below (T50.setTop (mkF m 83 #[.val (.int p1), .val (.int p2), .val (.int p3), .val (.int p4), .val (.int (p1 &&& (3 : Int32))), .val (.int mm), .val (.ref x), .val (.int (Int32.ofNat (own_lit (p1 &&& (3 : Int32))).length)), .val (.int (Int32.ofNat i0)), .val (.int ch), .unset, .unset, .unset, .unset, .unset] [(.int mm)])) _
          refine OGo.step (fun _ kk => XS.iconst X50.here hx rfl (hb hby at_83) kk) ?_
          show OGo p e below (T50.setTop (mkF m 84 #[.val (.int p1), .val (.int p2), .val (.int p3), .val (.int p4), .val (.int (p1 &&& (3 : Int32))), .val (.int mm), .val (.ref x), .val (.int (Int32.ofNat (own_lit (p1 &&& (3 : Int32))).length)), .val (.int (Int32.ofNat i0)), .val (.int ch), .unset, .unset, .unset, .unset, .unset] [(.int (3 : Int32)), (.int mm)])) _
          by_cases g3 : mm = (3 : Int32)
          · refine OGo.step (fun _ kk => XS.icmpYes X50.here hx rfl (pc0 := 84) (pc' := 93) rfl (hb hby at_84) rfl (teq g3).1 (by decide) (by decide) kk) ?_
            show OGo p e below (T50.setTop (mkF m 93 #[.val (.int p1), .val (.int p2), .val (.int p3), .val (.int p4), .val (.int (p1 &&& (3 : Int32))), .val (.int mm), .val (.ref x), .val (.int (Int32.ofNat (own_lit (p1 &&& (3 : Int32))).length)), .val (.int (Int32.ofNat i0)), .val (.int ch), .unset, .unset, .unset, .unset, .unset] [])) _
            refine OGo.step (fun _ kk => XS.iload X50.here hx rfl (hb hby at_93) rfl kk) ?_
            show OGo p e below (T50.setTop (mkF m 95 #[.val (.int p1), .val (.int p2), .val (.int p3), .val (.int p4), .val (.int (p1 &&& (3 : Int32))), .val (.int mm), .val (.ref x), .val (.int (Int32.ofNat (own_lit (p1 &&& (3 : Int32))).length)), .val (.int (Int32.ofNat i0)), .val (.int ch), .unset, .unset, .unset, .unset, .unset] [(.int (Int32.ofNat (own_lit (p1 &&& (3 : Int32))).length))])) _
            refine OGo.step (fun _ kk => XS.iconst X50.here hx rfl (hb hby at_95) kk) ?_
            show OGo p e below (T50.setTop (mkF m 96 #[.val (.int p1), .val (.int p2), .val (.int p3), .val (.int p4), .val (.int (p1 &&& (3 : Int32))), .val (.int mm), .val (.ref x), .val (.int (Int32.ofNat (own_lit (p1 &&& (3 : Int32))).length)), .val (.int (Int32.ofNat i0)), .val (.int ch), .unset, .unset, .unset, .unset, .unset] [(.int (1 : Int32)), (.int (Int32.ofNat (own_lit (p1 &&& (3 : Int32))).length))])) _
            refine OGo.step (fun _ kk => XS.iadd X50.here hx rfl (hb hby at_96) rfl kk) ?_
            show OGo p e below (T50.setTop (mkF m 97 #[.val (.int p1), .val (.int p2), .val (.int p3), .val (.int p4), .val (.int (p1 &&& (3 : Int32))), .val (.int mm), .val (.ref x), .val (.int (Int32.ofNat (own_lit (p1 &&& (3 : Int32))).length)), .val (.int (Int32.ofNat i0)), .val (.int ch), .unset, .unset, .unset, .unset, .unset] [(.int ((Int32.ofNat (own_lit (p1 &&& (3 : Int32))).length) + (1 : Int32)))])) _
            refine OGo.step (fun _ kk => XS.istore X50.here hx rfl (hb hby at_97) rfl (l' := #[.val (.int p1), .val (.int p2), .val (.int p3), .val (.int p4), .val (.int (p1 &&& (3 : Int32))), .val (.int mm), .val (.ref x), .val (.int (Int32.ofNat (own_lit (p1 &&& (3 : Int32))).length)), .val (.int (Int32.ofNat i0)), .val (.int ch), .val (.int ((Int32.ofNat (own_lit (p1 &&& (3 : Int32))).length) + (1 : Int32))), .unset, .unset, .unset, .unset]) rfl kk) ?_
            show OGo p e below (T50.setTop (mkF m 99 #[.val (.int p1), .val (.int p2), .val (.int p3), .val (.int p4), .val (.int (p1 &&& (3 : Int32))), .val (.int mm), .val (.ref x), .val (.int (Int32.ofNat (own_lit (p1 &&& (3 : Int32))).length)), .val (.int (Int32.ofNat i0)), .val (.int ch), .val (.int ((Int32.ofNat (own_lit (p1 &&& (3 : Int32))).length) + (1 : Int32))), .unset, .unset, .unset, .unset] [])) _
            refine OGo.step (fun _ kk => XS.goto X50.here hx rfl (pc0 := 99) (pc' := 118) rfl (hb hby at_99) (by decide) (by decide) kk) ?_
            show OGo p e below (T50.setTop (mkF m 118 #[.val (.int p1), .val (.int p2), .val (.int p3), .val (.int p4), .val (.int (p1 &&& (3 : Int32))), .val (.int mm), .val (.ref x), .val (.int (Int32.ofNat (own_lit (p1 &&& (3 : Int32))).length)), .val (.int (Int32.ofNat i0)), .val (.int ch), .val (.int ((Int32.ofNat (own_lit (p1 &&& (3 : Int32))).length) + (1 : Int32))), .unset, .unset, .unset, .unset] [])) _
            exact K118 _ (by rw [own_len35 (Or.inl g3)]; exact own_add1 _ hsl.2.1)
          · refine OGo.step (fun _ kk => XS.icmpNo X50.here hx rfl (hb hby at_84) rfl (feq g3).1 kk) ?_
            show OGo p e below (T50.setTop (mkF m 87 #[.val (.int p1), .val (.int p2), .val (.int p3), .val (.int p4), .val (.int (p1 &&& (3 : Int32))), .val (.int mm), .val (.ref x), .val (.int (Int32.ofNat (own_lit (p1 &&& (3 : Int32))).length)), .val (.int (Int32.ofNat i0)), .val (.int ch), .unset, .unset, .unset, .unset, .unset] [])) _
            refine OGo.step (fun _ kk => XS.iload X50.here hx rfl (hb hby at_87) rfl kk) ?_
            show OGo p e below (T50.setTop (mkF m 89 #[.val (.int p1), .val (.int p2), .val (.int p3), .val (.int p4), .val (.int (p1 &&& (3 : Int32))), .val (.int mm), .val (.ref x), .val (.int (Int32.ofNat (own_lit (p1 &&& (3 : Int32))).length)), .val (.int (Int32.ofNat i0)), .val (.int ch), .unset, .unset, .unset, .unset, .unset] [(.int mm)])) _
            refine OGo.step (fun _ kk => XS.iconst X50.here hx rfl (hb hby at_89) kk) ?_
            show OGo p e below (T50.setTop (mkF m 90 #[.val (.int p1), .val (.int p2), .val (.int p3), .val (.int p4), .val (.int (p1 &&& (3 : Int32))), .val (.int mm), .val (.ref x), .val (.int (Int32.ofNat (own_lit (p1 &&& (3 : Int32))).length)), .val (.int (Int32.ofNat i0)), .val (.int ch), .unset, .unset, .unset, .unset, .unset] [(.int (5 : Int32)), (.int mm)])) _
            by_cases g5 : mm = (5 : Int32)
            · refine OGo.step (fun _ kk => XS.icmpNo X50.here hx rfl (hb hby at_90) rfl (teq g5).2 kk) ?_
              show OGo p e below (T50.setTop (mkF m 93 #[.val (.int p1), .val (.int p2), .val (.int p3), .val (.int p4), .val (.int (p1 &&& (3 : Int32))), .val (.int mm), .val (.ref x), .val (.int (Int32.ofNat (own_lit (p1 &&& (3 : Int32))).length)), .val (.int (Int32.ofNat i0)), .val (.int ch), .unset, .unset, .unset, .unset, .unset] [])) _
              refine OGo.step (fun _ kk => XS.iload X50.here hx rfl (hb hby at_93) rfl kk) ?_
              show OGo p e below (T50.setTop (mkF m 95 #[.val (.int p1), .val (.int p2), .val (.int p3), .val (.int p4), .val (.int (p1 &&& (3 : Int32))), .val (.int mm), .val (.ref x), .val (.int (Int32.ofNat (own_lit (p1 &&& (3 : Int32))).length)), .val (.int (Int32.ofNat i0)), .val (.int ch), .unset, .unset, .unset, .unset, .unset] [(.int (Int32.ofNat (own_lit (p1 &&& (3 : Int32))).length))])) _
              refine OGo.step (fun _ kk => XS.iconst X50.here hx rfl (hb hby at_95) kk) ?_
              show OGo p e below (T50.setTop (mkF m 96 #[.val (.int p1), .val (.int p2), .val (.int p3), .val (.int p4), .val (.int (p1 &&& (3 : Int32))), .val (.int mm), .val (.ref x), .val (.int (Int32.ofNat (own_lit (p1 &&& (3 : Int32))).length)), .val (.int (Int32.ofNat i0)), .val (.int ch), .unset, .unset, .unset, .unset, .unset] [(.int (1 : Int32)), (.int (Int32.ofNat (own_lit (p1 &&& (3 : Int32))).length))])) _
              refine OGo.step (fun _ kk => XS.iadd X50.here hx rfl (hb hby at_96) rfl kk) ?_
              show OGo p e below (T50.setTop (mkF m 97 #[.val (.int p1), .val (.int p2), .val (.int p3), .val (.int p4), .val (.int (p1 &&& (3 : Int32))), .val (.int mm), .val (.ref x), .val (.int (Int32.ofNat (own_lit (p1 &&& (3 : Int32))).length)), .val (.int (Int32.ofNat i0)), .val (.int ch), .unset, .unset, .unset, .unset, .unset] [(.int ((Int32.ofNat (own_lit (p1 &&& (3 : Int32))).length) + (1 : Int32)))])) _
              refine OGo.step (fun _ kk => XS.istore X50.here hx rfl (hb hby at_97) rfl (l' := #[.val (.int p1), .val (.int p2), .val (.int p3), .val (.int p4), .val (.int (p1 &&& (3 : Int32))), .val (.int mm), .val (.ref x), .val (.int (Int32.ofNat (own_lit (p1 &&& (3 : Int32))).length)), .val (.int (Int32.ofNat i0)), .val (.int ch), .val (.int ((Int32.ofNat (own_lit (p1 &&& (3 : Int32))).length) + (1 : Int32))), .unset, .unset, .unset, .unset]) rfl kk) ?_
              show OGo p e below (T50.setTop (mkF m 99 #[.val (.int p1), .val (.int p2), .val (.int p3), .val (.int p4), .val (.int (p1 &&& (3 : Int32))), .val (.int mm), .val (.ref x), .val (.int (Int32.ofNat (own_lit (p1 &&& (3 : Int32))).length)), .val (.int (Int32.ofNat i0)), .val (.int ch), .val (.int ((Int32.ofNat (own_lit (p1 &&& (3 : Int32))).length) + (1 : Int32))), .unset, .unset, .unset, .unset] [])) _
              refine OGo.step (fun _ kk => XS.goto X50.here hx rfl (pc0 := 99) (pc' := 118) rfl (hb hby at_99) (by decide) (by decide) kk) ?_
              show OGo p e below (T50.setTop (mkF m 118 #[.val (.int p1), .val (.int p2), .val (.int p3), .val (.int p4), .val (.int (p1 &&& (3 : Int32))), .val (.int mm), .val (.ref x), .val (.int (Int32.ofNat (own_lit (p1 &&& (3 : Int32))).length)), .val (.int (Int32.ofNat i0)), .val (.int ch), .val (.int ((Int32.ofNat (own_lit (p1 &&& (3 : Int32))).length) + (1 : Int32))), .unset, .unset, .unset, .unset] [])) _
              exact K118 _ (by rw [own_len35 (Or.inr g5)]; exact own_add1 _ hsl.2.1)
            · refine OGo.step (fun _ kk => XS.icmpYes X50.here hx rfl (pc0 := 90) (pc' := 102) rfl (hb hby at_90) rfl (feq g5).2 (by decide) (by decide) kk) ?_
              show OGo p e below (T50.setTop (mkF m 102 #[.val (.int p1), .val (.int p2), .val (.int p3), .val (.int p4), .val (.int (p1 &&& (3 : Int32))), .val (.int mm), .val (.ref x), .val (.int (Int32.ofNat (own_lit (p1 &&& (3 : Int32))).length)), .val (.int (Int32.ofNat i0)), .val (.int ch), .unset, .unset, .unset, .unset, .unset] [])) _
              refine OGo.step (fun _ kk => XS.iload X50.here hx rfl (hb hby at_102) rfl kk) ?_
              show OGo p e below (T50.setTop (mkF m 104 #[.val (.int p1), .val (.int p2), .val (.int p3), .val (.int p4), .val (.int (p1 &&& (3 : Int32))), .val (.int mm), .val (.ref x), .val (.int (Int32.ofNat (own_lit (p1 &&& (3 : Int32))).length)), .val (.int (Int32.ofNat i0)), .val (.int ch), .unset, .unset, .unset, .unset, .unset] [(.int mm)])) _
              refine OGo.step (fun _ kk => XS.bipush X50.here hx rfl (hb hby at_104) kk) ?_
              show OGo p e below (T50.setTop (mkF m 106 #[.val (.int p1), .val (.int p2), .val (.int p3), .val (.int p4), .val (.int (p1 &&& (3 : Int32))), .val (.int mm), .val (.ref x), .val (.int (Int32.ofNat (own_lit (p1 &&& (3 : Int32))).length)), .val (.int (Int32.ofNat i0)), .val (.int ch), .unset, .unset, .unset, .unset, .unset] [(.int (6 : Int32)), (.int mm)])) _
              by_cases g6 : mm = (6 : Int32)
              · refine OGo.step (fun _ kk => XS.icmpNo X50.here hx rfl (hb hby at_106) rfl (teq g6).2 kk) ?_
                show OGo p e below (T50.setTop (mkF m 109 #[.val (.int p1), .val (.int p2), .val (.int p3), .val (.int p4), .val (.int (p1 &&& (3 : Int32))), .val (.int mm), .val (.ref x), .val (.int (Int32.ofNat (own_lit (p1 &&& (3 : Int32))).length)), .val (.int (Int32.ofNat i0)), .val (.int ch), .unset, .unset, .unset, .unset, .unset] [])) _
                refine OGo.step (fun _ kk => XS.iconst X50.here hx rfl (hb hby at_109) kk) ?_
                show OGo p e below (T50.setTop (mkF m 110 #[.val (.int p1), .val (.int p2), .val (.int p3), .val (.int p4), .val (.int (p1 &&& (3 : Int32))), .val (.int mm), .val (.ref x), .val (.int (Int32.ofNat (own_lit (p1 &&& (3 : Int32))).length)), .val (.int (Int32.ofNat i0)), .val (.int ch), .unset, .unset, .unset, .unset, .unset] [(.int (1 : Int32))])) _
                refine OGo.step (fun _ kk => XS.istore X50.here hx rfl (hb hby at_110) rfl (l' := #[.val (.int p1), .val (.int p2), .val (.int p3), .val (.int p4), .val (.int (p1 &&& (3 : Int32))), .val (.int mm), .val (.ref x), .val (.int (Int32.ofNat (own_lit (p1 &&& (3 : Int32))).length)), .val (.int (Int32.ofNat i0)), .val (.int ch), .val (.int (1 : Int32)), .unset, .unset, .unset, .unset]) rfl kk) ?_
                show OGo p e below (T50.setTop (mkF m 112 #[.val (.int p1), .val (.int p2), .val (.int p3), .val (.int p4), .val (.int (p1 &&& (3 : Int32))), .val (.int mm), .val (.ref x), .val (.int (Int32.ofNat (own_lit (p1 &&& (3 : Int32))).length)), .val (.int (Int32.ofNat i0)), .val (.int ch), .val (.int (1 : Int32)), .unset, .unset, .unset, .unset] [])) _
                refine OGo.step (fun _ kk => XS.goto X50.here hx rfl (pc0 := 112) (pc' := 118) rfl (hb hby at_112) (by decide) (by decide) kk) ?_
                show OGo p e below (T50.setTop (mkF m 118 #[.val (.int p1), .val (.int p2), .val (.int p3), .val (.int p4), .val (.int (p1 &&& (3 : Int32))), .val (.int mm), .val (.ref x), .val (.int (Int32.ofNat (own_lit (p1 &&& (3 : Int32))).length)), .val (.int (Int32.ofNat i0)), .val (.int ch), .val (.int (1 : Int32)), .unset, .unset, .unset, .unset] [])) _
                exact K118 _ (by rw [own_len6 g6]; rfl)
              · refine OGo.step (fun _ kk => XS.icmpYes X50.here hx rfl (pc0 := 106) (pc' := 115) rfl (hb hby at_106) rfl (feq g6).2 (by decide) (by decide) kk) ?_
                show OGo p e below (T50.setTop (mkF m 115 #[.val (.int p1), .val (.int p2), .val (.int p3), .val (.int p4), .val (.int (p1 &&& (3 : Int32))), .val (.int mm), .val (.ref x), .val (.int (Int32.ofNat (own_lit (p1 &&& (3 : Int32))).length)), .val (.int (Int32.ofNat i0)), .val (.int ch), .unset, .unset, .unset, .unset, .unset] [])) _
                refine OGo.step (fun _ kk => XS.iconst X50.here hx rfl (hb hby at_115) kk) ?_
                show OGo p e below (T50.setTop (mkF m 116 #[.val (.int p1), .val (.int p2), .val (.int p3), .val (.int p4), .val (.int (p1 &&& (3 : Int32))), .val (.int mm), .val (.ref x), .val (.int (Int32.ofNat (own_lit (p1 &&& (3 : Int32))).length)), .val (.int (Int32.ofNat i0)), .val (.int ch), .unset, .unset, .unset, .unset, .unset] [(.int (0 : Int32))])) _
                refine OGo.step (fun _ kk => XS.istore X50.here hx rfl (hb hby at_116) rfl (l' := #[.val (.int p1), .val (.int p2), .val (.int p3), .val (.int p4), .val (.int (p1 &&& (3 : Int32))), .val (.int mm), .val (.ref x), .val (.int (Int32.ofNat (own_lit (p1 &&& (3 : Int32))).length)), .val (.int (Int32.ofNat i0)), .val (.int ch), .val (.int (0 : Int32)), .unset, .unset, .unset, .unset]) rfl kk) ?_
                show OGo p e below (T50.setTop (mkF m 118 #[.val (.int p1), .val (.int p2), .val (.int p3), .val (.int p4), .val (.int (p1 &&& (3 : Int32))), .val (.int mm), .val (.ref x), .val (.int (Int32.ofNat (own_lit (p1 &&& (3 : Int32))).length)), .val (.int (Int32.ofNat i0)), .val (.int ch), .val (.int (0 : Int32)), .unset, .unset, .unset, .unset] [])) _
                exact K118 _ (by rw [own_len7 g0 g1 g2 g3 g4 g5 g6]; rfl)

set_option maxRecDepth 65536 in
set_option maxHeartbeats 40000000 in
theorem comes_1 {Post : Tables → Env → Array Value → State → Outcome → State → Prop} (hpost : ∀ tb e args s v u, (limb_1_1.after args s (.returned v) u = true ∧ limb_1_2.after args s (.returned v) u = true ∧ True) → ReturnedEndW s (.returned v) u (Jvm.fieldLocs frame_1_writes args s ++ Jvm.arrayLocs frame_1_arrays args s ++ Jvm.staticLocs frame_1_statics s) 32 5312 → Post tb e args s (.returned v) u) :
    ArmFor flags0 classFile x code maxLocals ret World_1 tables_1 room_1 Calls_1 rest_1 Pre_1 Post := by
  intro l hfl _ _ p e ha hc hk s m args below hf hA hF happ hP
  obtain ⟨hcalls, hrest, hpre⟩ := hP
  obtain ⟨-, -, -, hnamed, -, -, -, hat⟩ := (Spec.applies_iff hf).mp happ
  obtain ⟨hg, hn⟩ := and_e (Cond.before_iff.mp (show (Jvm.Cond.and given_1 narrow_1).before args s = true from hpre))
  obtain ⟨k417, k417'⟩ := and_e hg
  obtain ⟨k418, k418'⟩ := and_e k417'
  obtain ⟨k419, k419'⟩ := and_e k418'
  obtain ⟨k420, k420'⟩ := and_e k419'
  obtain ⟨w0_, w1_, w2_, w3_, rfl⟩ : ∃ w0_ w1_ w2_ w3_ : Value, args = #[w0_, w1_, w2_, w3_] := by
    have hs : args.size = 4 := by simpa [Cond.value, given_1] using k417
    obtain ⟨L⟩ := args
    match L, hs with
    | [w0_, w1_, w2_, w3_], _ => exact ⟨w0_, w1_, w2_, w3_, rfl⟩
  have hw := fun d (hd : d ∈ tables_1) => atoms_spec (ws := Jvm.Cond.code x code maxLocals ret :: tables_1) hat d (List.mem_cons_of_mem _ hd)
  have hfit : Fit s := fun {y c} hc i hi => by
    obtain ⟨ha, rfl⟩ := Array.getElem?_eq_some_iff.mp hc
    have q := List.all_eq_true.mp ((Array.all_eq_true_iff_forall_mem.mp hF) _ (Array.getElem_mem ha)) i (List.mem_range.mpr hi)
    simpa [Array.getElem?_eq_getElem hi] using q
  obtain ⟨hsets, hown0⟩ := atoms_of _ (rest_1_c_eq ▸ (show rest_1_c.before _ s = true from hrest))
  obtain ⟨i0, ei0⟩ := is_v k418
  obtain rfl : w0_ = (.int i0) := Option.some.inj ei0
  obtain ⟨i1, ei1⟩ := is_v k419
  obtain rfl : w1_ = (.int i1) := Option.some.inj ei1
  obtain ⟨i2, ei2⟩ := is_v k420
  obtain rfl : w2_ = (.int i2) := Option.some.inj ei2
  obtain ⟨i3, ei3⟩ := is_v k420'
  obtain rfl : w3_ = (.int i3) := Option.some.inj ei3
  obtain ⟨k421, k421'⟩ := and_e hn
  obtain ⟨k422, k422'⟩ := and_e k421'
  obtain ⟨k423, k423'⟩ := and_e k422'
  obtain ⟨k424, k424'⟩ := and_e k423'
  obtain ⟨k425, k425'⟩ := and_e k424'
  obtain ⟨k426, k426'⟩ := and_e k425'
  obtain ⟨k427, k427'⟩ := and_e k426'
  obtain ⟨k428, k428'⟩ := and_e k427'
  obtain ⟨k429, k429'⟩ := and_e k428'
  obtain ⟨k430, k430'⟩ := and_e k429'
  obtain ⟨k431, k431'⟩ := and_e k430'
  obtain ⟨k432, k432'⟩ := and_e k431'
  obtain ⟨k433, k433'⟩ := and_e k432'
  obtain ⟨k434, k434'⟩ := and_e k433'
  obtain ⟨k435, k435'⟩ := and_e k434'
  obtain ⟨k436, k436'⟩ := and_e k435'
  obtain ⟨k437, k437'⟩ := and_e k436'
  obtain ⟨k438, k438'⟩ := and_e k437'
  obtain ⟨k439, k439'⟩ := and_e k438'
  obtain ⟨k440, k440'⟩ := and_e k439'
  obtain ⟨k441, k441'⟩ := and_e k440'
  obtain ⟨k442, k442'⟩ := and_e k441'
  obtain ⟨k443, k443'⟩ := and_e k442'
  obtain ⟨k444, k444'⟩ := and_e k443'
  obtain ⟨k445, k445'⟩ := and_e k444'
  obtain ⟨k446, k446'⟩ := and_e k445'
  obtain ⟨k447, k447'⟩ := and_e k446'
  obtain ⟨k448, k448'⟩ := and_e k447'
  obtain ⟨k449, k449'⟩ := and_e k448'
  obtain ⟨k450, k450'⟩ := and_e k449'
  obtain ⟨k451, k451'⟩ := and_e k450'
  obtain ⟨k452, k452'⟩ := and_e k451'
  obtain ⟨k453, k453'⟩ := and_e k452'
  obtain ⟨k454, k454'⟩ := and_e k453'
  obtain ⟨k455, k455'⟩ := and_e k454'
  obtain ⟨k456, k456'⟩ := and_e k455'
  obtain ⟨k457, k457'⟩ := and_e k456'
  obtain ⟨k458, k458'⟩ := and_e k457'
  obtain ⟨k459, k459'⟩ := and_e k458'
  obtain ⟨k460, k460'⟩ := and_e k459'
  obtain ⟨k461, k461'⟩ := and_e k460'
  obtain ⟨k462, k462'⟩ := and_e k461'
  obtain ⟨k463, k463'⟩ := and_e k462'
  obtain ⟨k464, k464'⟩ := and_e k463'
  obtain ⟨k465, k465'⟩ := and_e k464'
  obtain ⟨k466, k466'⟩ := and_e k465'
  obtain ⟨k467, k467'⟩ := and_e k466'
  obtain ⟨k468, k468'⟩ := and_e k467'
  obtain ⟨k469, k469'⟩ := and_e k468'
  obtain ⟨k470, k470'⟩ := and_e k469'
  obtain ⟨k471, k471'⟩ := and_e k470'
  obtain ⟨k472, k472'⟩ := and_e k471'
  obtain ⟨k473, k473'⟩ := and_e k472'
  obtain ⟨k474, k474'⟩ := and_e k473'
  obtain ⟨k475, k475'⟩ := and_e k474'
  obtain ⟨k476, k476'⟩ := and_e k475'
  obtain ⟨k477, k477'⟩ := and_e k476'
  obtain ⟨k478, k478'⟩ := and_e k477'
  obtain ⟨k479, k479'⟩ := and_e k478'
  obtain ⟨a__VALUES, ev__VALUES⟩ := arr_v k421
  have S__VALUES := Sta.start ev__VALUES (Or.inr ⟨(hw _ (List.mem_of_getElem? (i := 75) rfl)), (hw _ (List.mem_of_getElem? (i := 81) rfl))⟩)
  obtain ⟨c__VALUES, Ar__VALUES⟩ := Arr.start ev__VALUES k421
  have E__VALUES := Exa.start ev__VALUES k422
  obtain ⟨a_ADMIN, ev_ADMIN⟩ := exa_v k424
  have S_ADMIN := Sta.start ev_ADMIN (Or.inr ⟨(hw _ (List.mem_of_getElem? (i := 75) rfl)), (hw _ (List.mem_of_getElem? (i := 89) rfl))⟩)
  have E_ADMIN := Exa.start ev_ADMIN k424
  obtain ⟨a_RESOURCE_ADMIN, ev_RESOURCE_ADMIN⟩ := exa_v k426
  have S_RESOURCE_ADMIN := Sta.start ev_RESOURCE_ADMIN (Or.inr ⟨(hw _ (List.mem_of_getElem? (i := 75) rfl)), (hw _ (List.mem_of_getElem? (i := 90) rfl))⟩)
  have E_RESOURCE_ADMIN := Exa.start ev_RESOURCE_ADMIN k426
  obtain ⟨a_DOMAIN_ADMIN, ev_DOMAIN_ADMIN⟩ := exa_v k428
  have S_DOMAIN_ADMIN := Sta.start ev_DOMAIN_ADMIN (Or.inr ⟨(hw _ (List.mem_of_getElem? (i := 75) rfl)), (hw _ (List.mem_of_getElem? (i := 91) rfl))⟩)
  have E_DOMAIN_ADMIN := Exa.start ev_DOMAIN_ADMIN k428
  obtain ⟨a_USER, ev_USER⟩ := exa_v k430
  have S_USER := Sta.start ev_USER (Or.inr ⟨(hw _ (List.mem_of_getElem? (i := 75) rfl)), (hw _ (List.mem_of_getElem? (i := 92) rfl))⟩)
  have E_USER := Exa.start ev_USER k430
  have len__VALUES := own_len ev__VALUES Ar__VALUES (own_eqv k423 rfl)
  have el__VALUES_0 := own_elem ev__VALUES Ar__VALUES (own_eqv k425 ev_ADMIN)
  have el__VALUES_1 := own_elem ev__VALUES Ar__VALUES (own_eqv k427 ev_RESOURCE_ADMIN)
  have el__VALUES_2 := own_elem ev__VALUES Ar__VALUES (own_eqv k429 ev_DOMAIN_ADMIN)
  have el__VALUES_3 := own_elem ev__VALUES Ar__VALUES (own_eqv k431 ev_USER)
  -- left: k432 : (Jvm.Cond.exactly (Jvm.Term.field (Jvm.Term.static "com/example/tenantd/tenantd/RoleType" "ADMIN" "Lcom/example/tenantd/tenantd/RoleType;") "com/example/tenantd/tenantd/RoleType" "text" "Ljava/lang/St
  -- left: k433 : (Jvm.Cond.eq (Jvm.Term.field (Jvm.Term.field (Jvm.Term.static "com/example/tenantd/tenantd/RoleType" "ADMIN" "Lcom/example/tenantd/tenantd/RoleType;") "com/example/tenantd/tenantd/RoleType" "text" "Lj
  -- left: k434 : (Jvm.Cond.arrayOf (Jvm.Term.field (Jvm.Term.field (Jvm.Term.static "com/example/tenantd/tenantd/RoleType" "ADMIN" "Lcom/example/tenantd/tenantd/RoleType;") "com/example/tenantd/tenantd/RoleType" "text
  -- left: k435 : (Jvm.Cond.eq (Jvm.Term.length (Jvm.Term.field (Jvm.Term.field (Jvm.Term.static "com/example/tenantd/tenantd/RoleType" "ADMIN" "Lcom/example/tenantd/tenantd/RoleType;") "com/example/tenantd/tenantd/Rol
  -- left: k436 : (Jvm.Cond.exactly (Jvm.Term.field (Jvm.Term.static "com/example/tenantd/tenantd/RoleType" "RESOURCE_ADMIN" "Lcom/example/tenantd/tenantd/RoleType;") "com/example/tenantd/tenantd/RoleType" "text" "Ljav
  -- left: k437 : (Jvm.Cond.eq (Jvm.Term.field (Jvm.Term.field (Jvm.Term.static "com/example/tenantd/tenantd/RoleType" "RESOURCE_ADMIN" "Lcom/example/tenantd/tenantd/RoleType;") "com/example/tenantd/tenantd/RoleType" "
  -- left: k438 : (Jvm.Cond.arrayOf (Jvm.Term.field (Jvm.Term.field (Jvm.Term.static "com/example/tenantd/tenantd/RoleType" "RESOURCE_ADMIN" "Lcom/example/tenantd/tenantd/RoleType;") "com/example/tenantd/tenantd/RoleTy
  -- left: k439 : (Jvm.Cond.eq (Jvm.Term.length (Jvm.Term.field (Jvm.Term.field (Jvm.Term.static "com/example/tenantd/tenantd/RoleType" "RESOURCE_ADMIN" "Lcom/example/tenantd/tenantd/RoleType;") "com/example/tenantd/te
  -- left: k440 : (Jvm.Cond.exactly (Jvm.Term.field (Jvm.Term.static "com/example/tenantd/tenantd/RoleType" "DOMAIN_ADMIN" "Lcom/example/tenantd/tenantd/RoleType;") "com/example/tenantd/tenantd/RoleType" "text" "Ljava/
  -- left: k441 : (Jvm.Cond.eq (Jvm.Term.field (Jvm.Term.field (Jvm.Term.static "com/example/tenantd/tenantd/RoleType" "DOMAIN_ADMIN" "Lcom/example/tenantd/tenantd/RoleType;") "com/example/tenantd/tenantd/RoleType" "te
  -- left: k442 : (Jvm.Cond.arrayOf (Jvm.Term.field (Jvm.Term.field (Jvm.Term.static "com/example/tenantd/tenantd/RoleType" "DOMAIN_ADMIN" "Lcom/example/tenantd/tenantd/RoleType;") "com/example/tenantd/tenantd/RoleType
  -- left: k443 : (Jvm.Cond.eq (Jvm.Term.length (Jvm.Term.field (Jvm.Term.field (Jvm.Term.static "com/example/tenantd/tenantd/RoleType" "DOMAIN_ADMIN" "Lcom/example/tenantd/tenantd/RoleType;") "com/example/tenantd/tena
  -- left: k444 : (Jvm.Cond.exactly (Jvm.Term.field (Jvm.Term.static "com/example/tenantd/tenantd/RoleType" "USER" "Lcom/example/tenantd/tenantd/RoleType;") "com/example/tenantd/tenantd/RoleType" "text" "Ljava/lang/Str
  -- left: k445 : (Jvm.Cond.eq (Jvm.Term.field (Jvm.Term.field (Jvm.Term.static "com/example/tenantd/tenantd/RoleType" "USER" "Lcom/example/tenantd/tenantd/RoleType;") "com/example/tenantd/tenantd/RoleType" "text" "Lja
  -- left: k446 : (Jvm.Cond.arrayOf (Jvm.Term.field (Jvm.Term.field (Jvm.Term.static "com/example/tenantd/tenantd/RoleType" "USER" "Lcom/example/tenantd/tenantd/RoleType;") "com/example/tenantd/tenantd/RoleType" "text"
  -- left: k447 : (Jvm.Cond.eq (Jvm.Term.length (Jvm.Term.field (Jvm.Term.field (Jvm.Term.static "com/example/tenantd/tenantd/RoleType" "USER" "Lcom/example/tenantd/tenantd/RoleType;") "com/example/tenantd/tenantd/Role
  -- left: k448 : (Jvm.Cond.eq (Jvm.Term.elem (Jvm.Term.field (Jvm.Term.field (Jvm.Term.static "com/example/tenantd/tenantd/RoleType" "USER" "Lcom/example/tenantd/tenantd/RoleType;") "com/example/tenantd/tenantd/RoleTy
  -- left: k449 : (Jvm.Cond.eq (Jvm.Term.elem (Jvm.Term.field (Jvm.Term.field (Jvm.Term.static "com/example/tenantd/tenantd/RoleType" "USER" "Lcom/example/tenantd/tenantd/RoleType;") "com/example/tenantd/tenantd/RoleTy
  -- left: k450 : (Jvm.Cond.eq (Jvm.Term.elem (Jvm.Term.field (Jvm.Term.field (Jvm.Term.static "com/example/tenantd/tenantd/RoleType" "USER" "Lcom/example/tenantd/tenantd/RoleType;") "com/example/tenantd/tenantd/RoleTy
  -- left: k451 : (Jvm.Cond.eq (Jvm.Term.elem (Jvm.Term.field (Jvm.Term.field (Jvm.Term.static "com/example/tenantd/tenantd/RoleType" "USER" "Lcom/example/tenantd/tenantd/RoleType;") "com/example/tenantd/tenantd/RoleTy
  -- left: k452 : (Jvm.Cond.eq (Jvm.Term.elem (Jvm.Term.field (Jvm.Term.field (Jvm.Term.static "com/example/tenantd/tenantd/RoleType" "ADMIN" "Lcom/example/tenantd/tenantd/RoleType;") "com/example/tenantd/tenantd/RoleT
  -- left: k453 : (Jvm.Cond.eq (Jvm.Term.elem (Jvm.Term.field (Jvm.Term.field (Jvm.Term.static "com/example/tenantd/tenantd/RoleType" "ADMIN" "Lcom/example/tenantd/tenantd/RoleType;") "com/example/tenantd/tenantd/RoleT
  -- left: k454 : (Jvm.Cond.eq (Jvm.Term.elem (Jvm.Term.field (Jvm.Term.field (Jvm.Term.static "com/example/tenantd/tenantd/RoleType" "ADMIN" "Lcom/example/tenantd/tenantd/RoleType;") "com/example/tenantd/tenantd/RoleT
  -- left: k455 : (Jvm.Cond.eq (Jvm.Term.elem (Jvm.Term.field (Jvm.Term.field (Jvm.Term.static "com/example/tenantd/tenantd/RoleType" "ADMIN" "Lcom/example/tenantd/tenantd/RoleType;") "com/example/tenantd/tenantd/RoleT
  -- left: k456 : (Jvm.Cond.eq (Jvm.Term.elem (Jvm.Term.field (Jvm.Term.field (Jvm.Term.static "com/example/tenantd/tenantd/RoleType" "ADMIN" "Lcom/example/tenantd/tenantd/RoleType;") "com/example/tenantd/tenantd/RoleT
  -- left: k457 : (Jvm.Cond.eq (Jvm.Term.elem (Jvm.Term.field (Jvm.Term.field (Jvm.Term.static "com/example/tenantd/tenantd/RoleType" "RESOURCE_ADMIN" "Lcom/example/tenantd/tenantd/RoleType;") "com/example/tenantd/tena
  -- left: k458 : (Jvm.Cond.eq (Jvm.Term.elem (Jvm.Term.field (Jvm.Term.field (Jvm.Term.static "com/example/tenantd/tenantd/RoleType" "RESOURCE_ADMIN" "Lcom/example/tenantd/tenantd/RoleType;") "com/example/tenantd/tena
  -- left: k459 : (Jvm.Cond.eq (Jvm.Term.elem (Jvm.Term.field (Jvm.Term.field (Jvm.Term.static "com/example/tenantd/tenantd/RoleType" "RESOURCE_ADMIN" "Lcom/example/tenantd/tenantd/RoleType;") "com/example/tenantd/tena
  -- left: k460 : (Jvm.Cond.eq (Jvm.Term.elem (Jvm.Term.field (Jvm.Term.field (Jvm.Term.static "com/example/tenantd/tenantd/RoleType" "RESOURCE_ADMIN" "Lcom/example/tenantd/tenantd/RoleType;") "com/example/tenantd/tena
  -- left: k461 : (Jvm.Cond.eq (Jvm.Term.elem (Jvm.Term.field (Jvm.Term.field (Jvm.Term.static "com/example/tenantd/tenantd/RoleType" "RESOURCE_ADMIN" "Lcom/example/tenantd/tenantd/RoleType;") "com/example/tenantd/tena
  -- left: k462 : (Jvm.Cond.eq (Jvm.Term.elem (Jvm.Term.field (Jvm.Term.field (Jvm.Term.static "com/example/tenantd/tenantd/RoleType" "RESOURCE_ADMIN" "Lcom/example/tenantd/tenantd/RoleType;") "com/example/tenantd/tena
  -- left: k463 : (Jvm.Cond.eq (Jvm.Term.elem (Jvm.Term.field (Jvm.Term.field (Jvm.Term.static "com/example/tenantd/tenantd/RoleType" "RESOURCE_ADMIN" "Lcom/example/tenantd/tenantd/RoleType;") "com/example/tenantd/tena
  -- left: k464 : (Jvm.Cond.eq (Jvm.Term.elem (Jvm.Term.field (Jvm.Term.field (Jvm.Term.static "com/example/tenantd/tenantd/RoleType" "RESOURCE_ADMIN" "Lcom/example/tenantd/tenantd/RoleType;") "com/example/tenantd/tena
  -- left: k465 : (Jvm.Cond.eq (Jvm.Term.elem (Jvm.Term.field (Jvm.Term.field (Jvm.Term.static "com/example/tenantd/tenantd/RoleType" "RESOURCE_ADMIN" "Lcom/example/tenantd/tenantd/RoleType;") "com/example/tenantd/tena
  -- left: k466 : (Jvm.Cond.eq (Jvm.Term.elem (Jvm.Term.field (Jvm.Term.field (Jvm.Term.static "com/example/tenantd/tenantd/RoleType" "RESOURCE_ADMIN" "Lcom/example/tenantd/tenantd/RoleType;") "com/example/tenantd/tena
  -- left: k467 : (Jvm.Cond.eq (Jvm.Term.elem (Jvm.Term.field (Jvm.Term.field (Jvm.Term.static "com/example/tenantd/tenantd/RoleType" "RESOURCE_ADMIN" "Lcom/example/tenantd/tenantd/RoleType;") "com/example/tenantd/tena
  -- left: k468 : (Jvm.Cond.eq (Jvm.Term.elem (Jvm.Term.field (Jvm.Term.field (Jvm.Term.static "com/example/tenantd/tenantd/RoleType" "RESOURCE_ADMIN" "Lcom/example/tenantd/tenantd/RoleType;") "com/example/tenantd/tena
  -- left: k469 : (Jvm.Cond.eq (Jvm.Term.elem (Jvm.Term.field (Jvm.Term.field (Jvm.Term.static "com/example/tenantd/tenantd/RoleType" "RESOURCE_ADMIN" "Lcom/example/tenantd/tenantd/RoleType;") "com/example/tenantd/tena
  -- left: k470 : (Jvm.Cond.eq (Jvm.Term.elem (Jvm.Term.field (Jvm.Term.field (Jvm.Term.static "com/example/tenantd/tenantd/RoleType" "DOMAIN_ADMIN" "Lcom/example/tenantd/tenantd/RoleType;") "com/example/tenantd/tenant
  -- left: k471 : (Jvm.Cond.eq (Jvm.Term.elem (Jvm.Term.field (Jvm.Term.field (Jvm.Term.static "com/example/tenantd/tenantd/RoleType" "DOMAIN_ADMIN" "Lcom/example/tenantd/tenantd/RoleType;") "com/example/tenantd/tenant
  -- left: k472 : (Jvm.Cond.eq (Jvm.Term.elem (Jvm.Term.field (Jvm.Term.field (Jvm.Term.static "com/example/tenantd/tenantd/RoleType" "DOMAIN_ADMIN" "Lcom/example/tenantd/tenantd/RoleType;") "com/example/tenantd/tenant
  -- left: k473 : (Jvm.Cond.eq (Jvm.Term.elem (Jvm.Term.field (Jvm.Term.field (Jvm.Term.static "com/example/tenantd/tenantd/RoleType" "DOMAIN_ADMIN" "Lcom/example/tenantd/tenantd/RoleType;") "com/example/tenantd/tenant
  -- left: k474 : (Jvm.Cond.eq (Jvm.Term.elem (Jvm.Term.field (Jvm.Term.field (Jvm.Term.static "com/example/tenantd/tenantd/RoleType" "DOMAIN_ADMIN" "Lcom/example/tenantd/tenantd/RoleType;") "com/example/tenantd/tenant
  -- left: k475 : (Jvm.Cond.eq (Jvm.Term.elem (Jvm.Term.field (Jvm.Term.field (Jvm.Term.static "com/example/tenantd/tenantd/RoleType" "DOMAIN_ADMIN" "Lcom/example/tenantd/tenantd/RoleType;") "com/example/tenantd/tenant
  -- left: k476 : (Jvm.Cond.eq (Jvm.Term.elem (Jvm.Term.field (Jvm.Term.field (Jvm.Term.static "com/example/tenantd/tenantd/RoleType" "DOMAIN_ADMIN" "Lcom/example/tenantd/tenantd/RoleType;") "com/example/tenantd/tenant
  -- left: k477 : (Jvm.Cond.eq (Jvm.Term.elem (Jvm.Term.field (Jvm.Term.field (Jvm.Term.static "com/example/tenantd/tenantd/RoleType" "DOMAIN_ADMIN" "Lcom/example/tenantd/tenantd/RoleType;") "com/example/tenantd/tenant
  -- left: k478 : (Jvm.Cond.eq (Jvm.Term.elem (Jvm.Term.field (Jvm.Term.field (Jvm.Term.static "com/example/tenantd/tenantd/RoleType" "DOMAIN_ADMIN" "Lcom/example/tenantd/tenantd/RoleType;") "com/example/tenantd/tenant
  -- left: k479 : (Jvm.Cond.eq (Jvm.Term.elem (Jvm.Term.field (Jvm.Term.field (Jvm.Term.static "com/example/tenantd/tenantd/RoleType" "DOMAIN_ADMIN" "Lcom/example/tenantd/tenantd/RoleType;") "com/example/tenantd/tenant
  -- left: k479' : (Jvm.Cond.eq (Jvm.Term.elem (Jvm.Term.field (Jvm.Term.field (Jvm.Term.static "com/example/tenantd/tenantd/RoleType" "DOMAIN_ADMIN" "Lcom/example/tenantd/tenantd/RoleType;") "com/example/tenantd/tenant
  obtain ⟨zc, ezc⟩ := is_v (Cond.before_iff.mp (hsets _ (List.mem_of_getElem? (i := 1) rfl)))
  have SC0 := Sta.start ezc (Or.inl (hsets _ (List.mem_of_getElem? (i := 0) rfl)))
  have hzc : ¬ zc = 0 := gotF (Cond.eq_ints ezc (Term.int_eval (0))) (not_v (Cond.before_iff.mp (hsets _ (List.mem_of_getElem? (i := 2) rfl))))
  obtain ⟨fm, efm, hfm⟩ := isR_v (Cond.before_iff.mp (hsets _ (List.mem_of_getElem? (i := 8) rfl)))
  have SF0 := Sta.start efm (Or.inl (hsets _ (List.mem_of_getElem? (i := 7) rfl)))
  have xE := Cond.before_iff.mp (hsets _ (List.mem_of_getElem? (i := 11) rfl))
  obtain ⟨eo, evE⟩ := exa_v xE
  have SE := Sta.start evE (Or.inl (hsets _ (List.mem_of_getElem? (i := 10) rfl)))
  have EO := Exa.start evE xE
  have FO := Fld.start ((fld_at evE).symm.trans (null_v (Cond.before_iff.mp (hsets _ (List.mem_of_getElem? (i := 12) rfl)))))
  have VS : c__VALUES.slots.size = 4 := by
    have q := len_toInt len__VALUES.1
    rw [len__VALUES.2] at q
    have z : (4 : Int32).toInt = 4 := rfl
    omega
  obtain ⟨t_ADMIN, et_ADMIN⟩ := exa_v k432
  have Et_ADMIN := Exa.start et_ADMIN k432
  have Ft_ADMIN := Fld.start ((fld_at ev_ADMIN).symm.trans et_ADMIN)
  have Fc_ADMIN := Fld.start ((fld_at et_ADMIN).symm.trans (own_eqv k433 rfl))
  obtain ⟨b_ADMIN, eb_ADMIN⟩ := arr_v k434
  obtain ⟨cb_ADMIN, Ab_ADMIN⟩ := Arr.start eb_ADMIN k434
  have Fv_ADMIN := Fld.start ((fld_at et_ADMIN).symm.trans eb_ADMIN)
  have lb_ADMIN := own_len eb_ADMIN Ab_ADMIN (own_eqv k435 rfl)
  have Av_ADMIN : Arv s s.heap b_ADMIN cb_ADMIN.cls .byte (5 : Int32) [.int (65 : Int32), .int (100 : Int32), .int (109 : Int32), .int (105 : Int32), .int (110 : Int32)] (.int (0 : Int32)) := Arv.start hfit Ab_ADMIN lb_ADMIN.1 lb_ADMIN.2 (by decide) (by decide) ⟨own_elem eb_ADMIN Ab_ADMIN (own_eqv k452 rfl), own_elem eb_ADMIN Ab_ADMIN (own_eqv k453 rfl), own_elem eb_ADMIN Ab_ADMIN (own_eqv k454 rfl), own_elem eb_ADMIN Ab_ADMIN (own_eqv k455 rfl), own_elem eb_ADMIN Ab_ADMIN (own_eqv k456 rfl), trivial⟩
  have cd_ADMIN : StrChars.Road.CodA ([65, 100, 109, 105, 110] : List Int32) 0 (5 : Int32) [.int (65 : Int32), .int (100 : Int32), .int (109 : Int32), .int (105 : Int32), .int (110 : Int32)] := StrChars.Road.codOf (cs := [65, 100, 109, 105, 110]) (n := 5) rfl (by decide)
  have O_ADMIN : OStr s s.heap t_ADMIN ([65, 100, 109, 105, 110] : List Int32) := ⟨b_ADMIN, _, 0, (5 : Int32), _, Et_ADMIN, Fv_ADMIN, Fc_ADMIN, Av_ADMIN, cd_ADMIN, by decide, by decide⟩
  obtain ⟨t_RESOURCE_ADMIN, et_RESOURCE_ADMIN⟩ := exa_v k436
  have Et_RESOURCE_ADMIN := Exa.start et_RESOURCE_ADMIN k436
  have Ft_RESOURCE_ADMIN := Fld.start ((fld_at ev_RESOURCE_ADMIN).symm.trans et_RESOURCE_ADMIN)
  have Fc_RESOURCE_ADMIN := Fld.start ((fld_at et_RESOURCE_ADMIN).symm.trans (own_eqv k437 rfl))
  obtain ⟨b_RESOURCE_ADMIN, eb_RESOURCE_ADMIN⟩ := arr_v k438
  obtain ⟨cb_RESOURCE_ADMIN, Ab_RESOURCE_ADMIN⟩ := Arr.start eb_RESOURCE_ADMIN k438
  have Fv_RESOURCE_ADMIN := Fld.start ((fld_at et_RESOURCE_ADMIN).symm.trans eb_RESOURCE_ADMIN)
  have lb_RESOURCE_ADMIN := own_len eb_RESOURCE_ADMIN Ab_RESOURCE_ADMIN (own_eqv k439 rfl)
  have Av_RESOURCE_ADMIN : Arv s s.heap b_RESOURCE_ADMIN cb_RESOURCE_ADMIN.cls .byte (13 : Int32) [.int (82 : Int32), .int (101 : Int32), .int (115 : Int32), .int (111 : Int32), .int (117 : Int32), .int (114 : Int32), .int (99 : Int32), .int (101 : Int32), .int (65 : Int32), .int (100 : Int32), .int (109 : Int32), .int (105 : Int32), .int (110 : Int32)] (.int (0 : Int32)) := Arv.start hfit Ab_RESOURCE_ADMIN lb_RESOURCE_ADMIN.1 lb_RESOURCE_ADMIN.2 (by decide) (by decide) ⟨own_elem eb_RESOURCE_ADMIN Ab_RESOURCE_ADMIN (own_eqv k457 rfl), own_elem eb_RESOURCE_ADMIN Ab_RESOURCE_ADMIN (own_eqv k458 rfl), own_elem eb_RESOURCE_ADMIN Ab_RESOURCE_ADMIN (own_eqv k459 rfl), own_elem eb_RESOURCE_ADMIN Ab_RESOURCE_ADMIN (own_eqv k460 rfl), own_elem eb_RESOURCE_ADMIN Ab_RESOURCE_ADMIN (own_eqv k461 rfl), own_elem eb_RESOURCE_ADMIN Ab_RESOURCE_ADMIN (own_eqv k462 rfl), own_elem eb_RESOURCE_ADMIN Ab_RESOURCE_ADMIN (own_eqv k463 rfl), own_elem eb_RESOURCE_ADMIN Ab_RESOURCE_ADMIN (own_eqv k464 rfl), own_elem eb_RESOURCE_ADMIN Ab_RESOURCE_ADMIN (own_eqv k465 rfl), own_elem eb_RESOURCE_ADMIN Ab_RESOURCE_ADMIN (own_eqv k466 rfl), own_elem eb_RESOURCE_ADMIN Ab_RESOURCE_ADMIN (own_eqv k467 rfl), own_elem eb_RESOURCE_ADMIN Ab_RESOURCE_ADMIN (own_eqv k468 rfl), own_elem eb_RESOURCE_ADMIN Ab_RESOURCE_ADMIN (own_eqv k469 rfl), trivial⟩
  have cd_RESOURCE_ADMIN : StrChars.Road.CodA ([82, 101, 115, 111, 117, 114, 99, 101, 65, 100, 109, 105, 110] : List Int32) 0 (13 : Int32) [.int (82 : Int32), .int (101 : Int32), .int (115 : Int32), .int (111 : Int32), .int (117 : Int32), .int (114 : Int32), .int (99 : Int32), .int (101 : Int32), .int (65 : Int32), .int (100 : Int32), .int (109 : Int32), .int (105 : Int32), .int (110 : Int32)] := StrChars.Road.codOf (cs := [82, 101, 115, 111, 117, 114, 99, 101, 65, 100, 109, 105, 110]) (n := 13) rfl (by decide)
  have O_RESOURCE_ADMIN : OStr s s.heap t_RESOURCE_ADMIN ([82, 101, 115, 111, 117, 114, 99, 101, 65, 100, 109, 105, 110] : List Int32) := ⟨b_RESOURCE_ADMIN, _, 0, (13 : Int32), _, Et_RESOURCE_ADMIN, Fv_RESOURCE_ADMIN, Fc_RESOURCE_ADMIN, Av_RESOURCE_ADMIN, cd_RESOURCE_ADMIN, by decide, by decide⟩
  obtain ⟨t_DOMAIN_ADMIN, et_DOMAIN_ADMIN⟩ := exa_v k440
  have Et_DOMAIN_ADMIN := Exa.start et_DOMAIN_ADMIN k440
  have Ft_DOMAIN_ADMIN := Fld.start ((fld_at ev_DOMAIN_ADMIN).symm.trans et_DOMAIN_ADMIN)
  have Fc_DOMAIN_ADMIN := Fld.start ((fld_at et_DOMAIN_ADMIN).symm.trans (own_eqv k441 rfl))
  obtain ⟨b_DOMAIN_ADMIN, eb_DOMAIN_ADMIN⟩ := arr_v k442
  obtain ⟨cb_DOMAIN_ADMIN, Ab_DOMAIN_ADMIN⟩ := Arr.start eb_DOMAIN_ADMIN k442
  have Fv_DOMAIN_ADMIN := Fld.start ((fld_at et_DOMAIN_ADMIN).symm.trans eb_DOMAIN_ADMIN)
  have lb_DOMAIN_ADMIN := own_len eb_DOMAIN_ADMIN Ab_DOMAIN_ADMIN (own_eqv k443 rfl)
  have Av_DOMAIN_ADMIN : Arv s s.heap b_DOMAIN_ADMIN cb_DOMAIN_ADMIN.cls .byte (11 : Int32) [.int (68 : Int32), .int (111 : Int32), .int (109 : Int32), .int (97 : Int32), .int (105 : Int32), .int (110 : Int32), .int (65 : Int32), .int (100 : Int32), .int (109 : Int32), .int (105 : Int32), .int (110 : Int32)] (.int (0 : Int32)) := Arv.start hfit Ab_DOMAIN_ADMIN lb_DOMAIN_ADMIN.1 lb_DOMAIN_ADMIN.2 (by decide) (by decide) ⟨own_elem eb_DOMAIN_ADMIN Ab_DOMAIN_ADMIN (own_eqv k470 rfl), own_elem eb_DOMAIN_ADMIN Ab_DOMAIN_ADMIN (own_eqv k471 rfl), own_elem eb_DOMAIN_ADMIN Ab_DOMAIN_ADMIN (own_eqv k472 rfl), own_elem eb_DOMAIN_ADMIN Ab_DOMAIN_ADMIN (own_eqv k473 rfl), own_elem eb_DOMAIN_ADMIN Ab_DOMAIN_ADMIN (own_eqv k474 rfl), own_elem eb_DOMAIN_ADMIN Ab_DOMAIN_ADMIN (own_eqv k475 rfl), own_elem eb_DOMAIN_ADMIN Ab_DOMAIN_ADMIN (own_eqv k476 rfl), own_elem eb_DOMAIN_ADMIN Ab_DOMAIN_ADMIN (own_eqv k477 rfl), own_elem eb_DOMAIN_ADMIN Ab_DOMAIN_ADMIN (own_eqv k478 rfl), own_elem eb_DOMAIN_ADMIN Ab_DOMAIN_ADMIN (own_eqv k479 rfl), own_elem eb_DOMAIN_ADMIN Ab_DOMAIN_ADMIN (own_eqv k479' rfl), trivial⟩
  have cd_DOMAIN_ADMIN : StrChars.Road.CodA ([68, 111, 109, 97, 105, 110, 65, 100, 109, 105, 110] : List Int32) 0 (11 : Int32) [.int (68 : Int32), .int (111 : Int32), .int (109 : Int32), .int (97 : Int32), .int (105 : Int32), .int (110 : Int32), .int (65 : Int32), .int (100 : Int32), .int (109 : Int32), .int (105 : Int32), .int (110 : Int32)] := StrChars.Road.codOf (cs := [68, 111, 109, 97, 105, 110, 65, 100, 109, 105, 110]) (n := 11) rfl (by decide)
  have O_DOMAIN_ADMIN : OStr s s.heap t_DOMAIN_ADMIN ([68, 111, 109, 97, 105, 110, 65, 100, 109, 105, 110] : List Int32) := ⟨b_DOMAIN_ADMIN, _, 0, (11 : Int32), _, Et_DOMAIN_ADMIN, Fv_DOMAIN_ADMIN, Fc_DOMAIN_ADMIN, Av_DOMAIN_ADMIN, cd_DOMAIN_ADMIN, by decide, by decide⟩
  obtain ⟨t_USER, et_USER⟩ := exa_v k444
  have Et_USER := Exa.start et_USER k444
  have Ft_USER := Fld.start ((fld_at ev_USER).symm.trans et_USER)
  have Fc_USER := Fld.start ((fld_at et_USER).symm.trans (own_eqv k445 rfl))
  obtain ⟨b_USER, eb_USER⟩ := arr_v k446
  obtain ⟨cb_USER, Ab_USER⟩ := Arr.start eb_USER k446
  have Fv_USER := Fld.start ((fld_at et_USER).symm.trans eb_USER)
  have lb_USER := own_len eb_USER Ab_USER (own_eqv k447 rfl)
  have Av_USER : Arv s s.heap b_USER cb_USER.cls .byte (4 : Int32) [.int (85 : Int32), .int (115 : Int32), .int (101 : Int32), .int (114 : Int32)] (.int (0 : Int32)) := Arv.start hfit Ab_USER lb_USER.1 lb_USER.2 (by decide) (by decide) ⟨own_elem eb_USER Ab_USER (own_eqv k448 rfl), own_elem eb_USER Ab_USER (own_eqv k449 rfl), own_elem eb_USER Ab_USER (own_eqv k450 rfl), own_elem eb_USER Ab_USER (own_eqv k451 rfl), trivial⟩
  have cd_USER : StrChars.Road.CodA ([85, 115, 101, 114] : List Int32) 0 (4 : Int32) [.int (85 : Int32), .int (115 : Int32), .int (101 : Int32), .int (114 : Int32)] := StrChars.Road.codOf (cs := [85, 115, 101, 114]) (n := 4) rfl (by decide)
  have O_USER : OStr s s.heap t_USER ([85, 115, 101, 114] : List Int32) := ⟨b_USER, _, 0, (4 : Int32), _, Et_USER, Fv_USER, Fc_USER, Av_USER, cd_USER, by decide, by decide⟩
  have hch : CHv s consts_1 s.vm s.heap := CHv.start (own_hEL hw) (fun p hp => hcalls.1 p hp) (hsets _ (List.mem_of_getElem? (i := 2) rfl)) (own_wS hw _ (by simp [Bundle.stringAtoms])) (own_wS hw _ (by simp [Bundle.stringAtoms, Bundle.sN]))
  obtain ⟨n, o, h1, h2, h3, _, L, rfl, ⟨rfl, N⟩, -, hq⟩ := own_rm0 l s _ hw tables_1 i0 i1 i2 i3 a__VALUES c__VALUES a_ADMIN a_RESOURCE_ADMIN a_DOMAIN_ADMIN a_USER t_ADMIN t_RESOURCE_ADMIN t_DOMAIN_ADMIN t_USER eo zc fm s.heap s.heap.size (Nat.le_refl _) SC0 hzc SF0 hfm S__VALUES Ar__VALUES E__VALUES (FitC.start hfit Ar__VALUES) VS el__VALUES_0 Ft_ADMIN O_ADMIN el__VALUES_1 Ft_RESOURCE_ADMIN O_RESOURCE_ADMIN el__VALUES_2 Ft_DOMAIN_ADMIN O_DOMAIN_ADMIN el__VALUES_3 Ft_USER O_USER SE EO FO S_ADMIN S_RESOURCE_ADMIN S_DOMAIN_ADMIN S_USER E_ADMIN E_RESOURCE_ADMIN E_DOMAIN_ADMIN E_USER p e ha hc hk s m _ below hf ((Spec.applies_iff_loose hf).mp happ).1 ⟨rfl, State.Warmed39.refl s, rfl, hch⟩ trivial
  exact ⟨n, _, h1, h2, h3, hpost _ _ _ _ _ _ ⟨Cond.after_iff.mpr rfl, Cond.after_iff.mpr (eq_i res_at (Term.int_eval (1)) rfl), trivial⟩ ⟨hq.1, hq.2.1, hq.2.2.1, (hq.2.2.2.sift fun y hy => Or.inr (N y hy)).mono (by decide) (by decide)⟩⟩
theorem main_1_1 : Claimed_1_1 := comes_1 fun _ _ _ _ _ _ h hF => ⟨h.1, hF⟩
theorem main_1_2 : Claimed_1_2 := comes_1 fun _ _ _ _ _ _ h hF => ⟨h.2.1, hF⟩
end Jvm.Pilot.@@N@@
namespace Jvm.Pilot.@@N@@
open Jvm Jvm.ClassFile Sem Op Lib Jvm.Free Jvm.Stand Jvm.Pilot.@@N@@.Jvm.D
/-! MADE BY PROGRAM (witnessworld.py) out of the Statement's table words and the real class files: 24 classes; the members and pool entries that the words name. The judged class is class 1, her method 4. -/
namespace start1
open Jvm.ClassFile
def u (s : String) : CpInfo := .utf8 (stringToUtf16 s)
/-- a pool by its gaps: so many unusable entries, then the entry; so many at the end -/
def gap : Nat → List CpInfo → List CpInfo
  | 0, r => r
  | n + 1, r => .unusable :: gap n r
def poolList (es : List (Nat × CpInfo)) (last : Nat) : List CpInfo := es.foldr (fun e r => gap e.1 (e.2 :: r)) (gap last [])
def pool (es : List (Nat × CpInfo)) (last : Nat) : Array CpInfo := ⟨poolList es last⟩
def fileOf (pool : Array CpInfo) (this : Nat) (attrs : Array Attribute := #[]) (ms : Array MethodInfo := #[]) (fl : Nat := 33) (sup : Nat := 0) (ifs : Array Nat := #[]) (fds : Array FieldInfo := #[]) : ClassFile where
  minorVersion := 0
  majorVersion := 65
  constantPool := pool
  accessFlags := fl
  thisClass := this
  superClass := sup
  interfaces := ifs
  fields := fds
  methods := ms
  attributes := attrs
def plain (name : String) (sup : Option ClassId) : Class where
  name := name
  kind := .ordinary
  loader := none
  accessFlags := 33
  super := sup
  interfaces := #[]
  cf := none
  fields := #[]
  methods := #[]
  instanceTypes := #[]
  staticTypes := #[]
  resolved := #[]
  callSites := []
  init := .initialized
  statics := none
  mirror := none

def pool0 : Array CpInfo := pool [(5, u "<init>"), (0, u "()V"), (1, .class_ 10), (1, u "java/lang/Object"), (85, u "clone"), (0, u "()Ljava/lang/Object;")] 26

def k0c0 : Code := { maxStack := 0, maxLocals := 1, code := object_method_1_code, exceptionTable := #[], attributes := #[] }
def k0m0 : Method := { name := "<init>", desc := "()V", sig := { parameters := [], returnType := none }, accessFlags := 1, code := some k0c0 }
def k0m1 : Method := { name := "clone", desc := "()Ljava/lang/Object;", sig := { parameters := [], returnType := some (.object "java/lang/Object") }, accessFlags := 260, code := none }
/-- java/lang/Object -/
def k0 : Class := { plain "java/lang/Object" none with
  accessFlags := 33
  interfaces := #[]
  cf := some (fileOf pool0 8 #[] #[{ accessFlags := 1, nameIndex := 5, descriptorIndex := 6, attributes := #[] }, { accessFlags := 260, nameIndex := 96, descriptorIndex := 97, attributes := #[] }] 33 0 #[] #[])
  fields := #[]
  methods := #[k0m0, k0m1]
  instanceTypes := #[]
  staticTypes := #[]
  resolved := Array.replicate 124 none
  statics := none }

def pool1 : Array CpInfo := pool [(2, .class_ 4), (1, u "java/lang/Object"), (0, u "<init>"), (0, u "()V"), (0, .string 8), (0, u "Admin"), (0, .string 10), (0, u "ResourceAdmin"), (0, .string 12), (0, u "DomainAdmin"), (0, .string 14), (0, u "User"), (0, .fieldref 16 17), (0, .class_ 18), (0, .nameAndType 19 20), (0, u "com/example/tenantd/tenantd/RoleType"), (0, u "ADMIN"), (0, u "Lcom/example/tenantd/tenantd/RoleType;"), (0, .fieldref 16 22), (0, .nameAndType 23 20), (0, u "RESOURCE_ADMIN"), (0, .fieldref 16 25), (0, .nameAndType 26 20), (0, u "DOMAIN_ADMIN"), (0, .fieldref 16 28), (0, .nameAndType 29 20), (0, u "USER"), (0, .methodref 31 32), (0, .class_ 33), (0, .nameAndType 34 35), (0, u "java/lang/String"), (0, u "charAt"), (0, u "(I)C"), (0, .methodref 37 38), (0, .class_ 39), (0, .nameAndType 40 41), (0, u "com/example/tenantd/tenantd/RoleTypeOfTextPinLaw"), (0, u "lit"), (0, u "(I)Ljava/lang/String;"), (0, .methodref 31 43), (0, .nameAndType 44 45), (0, u "length"), (0, u "()I"), (0, .integer 2147483647), (0, .methodref 37 48), (0, .nameAndType 49 50), (0, u "ch"), (0, u "(Ljava/lang/String;IIICI)C"), (0, .methodref 31 52), (0, .nameAndType 5 53), (0, u "([C)V"), (0, .methodref 37 55), (0, .nameAndType 56 57), (0, u "type"), (0, u "(I)Lcom/example/tenantd/tenantd/RoleType;"), (0, .methodref 16 59), (0, .nameAndType 60 61), (0, u "ofText"), (0, u "(Ljava/lang/String;)Ljava/util/Optional;"), (0, .methodref 63 64), (0, .class_ 65), (0, .nameAndType 66 67), (0, u "java/util/Optional"), (0, u "orElse"), (0, u "(Ljava/lang/Object;)Ljava/lang/Object;"), (3, u "law"), (0, u "(IIII)Z")] 4

def k1m0 : Method := { name := "<init>", desc := "()V", sig := { parameters := [], returnType := none }, accessFlags := 2, code := none }
def k1c1 : Code := { maxStack := 2, maxLocals := 1, code := method_2_code, exceptionTable := #[], attributes := #[] }
def k1m1 : Method := { name := "lit", desc := "(I)Ljava/lang/String;", sig := { parameters := [.int], returnType := some (.object "java/lang/String") }, accessFlags := 10, code := some k1c1 }
def k1c2 : Code := { maxStack := 2, maxLocals := 1, code := method_3_code, exceptionTable := #[], attributes := #[] }
def k1m2 : Method := { name := "type", desc := "(I)Lcom/example/tenantd/tenantd/RoleType;", sig := { parameters := [.int], returnType := some (.object "com/example/tenantd/tenantd/RoleType") }, accessFlags := 10, code := some k1c2 }
def k1c3 : Code := { maxStack := 3, maxLocals := 6, code := method_4_code, exceptionTable := #[], attributes := #[] }
def k1m3 : Method := { name := "ch", desc := "(Ljava/lang/String;IIICI)C", sig := { parameters := [(.object "java/lang/String"), .int, .int, .int, .char, .int], returnType := some .char }, accessFlags := 10, code := some k1c3 }
def k1c4 : Code := { maxStack := 8, maxLocals := 15, code := code, exceptionTable := #[], attributes := #[] }
def k1m4 : Method := { name := "law", desc := "(IIII)Z", sig := { parameters := [.int, .int, .int, .int], returnType := some .boolean }, accessFlags := 9, code := some k1c4 }
/-- com/example/tenantd/tenantd/RoleTypeOfTextPinLaw -/
def k1 : Class := { plain "com/example/tenantd/tenantd/RoleTypeOfTextPinLaw" (some 0) with
  accessFlags := 49
  interfaces := #[]
  cf := some (fileOf pool1 37 #[] #[{ accessFlags := 2, nameIndex := 5, descriptorIndex := 6, attributes := #[] }, { accessFlags := 10, nameIndex := 40, descriptorIndex := 41, attributes := #[] }, { accessFlags := 10, nameIndex := 56, descriptorIndex := 57, attributes := #[] }, { accessFlags := 10, nameIndex := 49, descriptorIndex := 50, attributes := #[] }, { accessFlags := 9, nameIndex := 71, descriptorIndex := 72, attributes := #[] }] 49 2 #[] #[])
  fields := #[]
  methods := #[k1m0, k1m1, k1m2, k1m3, k1m4]
  instanceTypes := #[]
  staticTypes := #[]
  resolved := Array.replicate 77 none
  statics := none }

def pool2 : Array CpInfo := pool [(1, .class_ 2), (0, u "java/io/Serializable"), (0, .class_ 4), (0, u "java/lang/Object")] 2

/-- java/io/Serializable -/
def k2 : Class := { plain "java/io/Serializable" (some 0) with
  accessFlags := 1537
  interfaces := #[]
  cf := some (fileOf pool2 1 #[] #[] 1537 3 #[] #[])
  fields := #[]
  methods := #[]
  instanceTypes := #[]
  staticTypes := #[]
  resolved := Array.replicate 7 none
  statics := none }

def pool3 : Array CpInfo := pool [(1, .class_ 2), (0, u "java/lang/Comparable"), (0, .class_ 4), (0, u "java/lang/Object")] 7

/-- java/lang/Comparable -/
def k3 : Class := { plain "java/lang/Comparable" (some 0) with
  accessFlags := 1537
  interfaces := #[]
  cf := some (fileOf pool3 1 #[] #[] 1537 3 #[] #[])
  fields := #[]
  methods := #[]
  instanceTypes := #[]
  staticTypes := #[]
  resolved := Array.replicate 12 none
  statics := none }

def pool4 : Array CpInfo := pool [(2, .class_ 4), (1, u "java/lang/CharSequence"), (42, .class_ 48), (0, u "java/lang/CharSequence$1CodePointIterator"), (10, .class_ 60), (0, u "java/lang/CharSequence$1CharIterator"), (5, .class_ 67), (0, u "java/lang/Object")] 63

/-- java/lang/CharSequence -/
def k4 : Class := { plain "java/lang/CharSequence" (some 0) with
  accessFlags := 1537
  interfaces := #[]
  cf := some (fileOf pool4 2 #[.nestMembers #[47, 59]] #[] 1537 66 #[] #[])
  fields := #[]
  methods := #[]
  instanceTypes := #[]
  staticTypes := #[]
  resolved := Array.replicate 131 none
  statics := none }

def pool5 : Array CpInfo := pool [(1, .class_ 2), (0, u "java/lang/constant/Constable"), (0, .class_ 4), (0, u "java/lang/Object")] 6

/-- java/lang/constant/Constable -/
def k5 : Class := { plain "java/lang/constant/Constable" (some 0) with
  accessFlags := 1537
  interfaces := #[]
  cf := some (fileOf pool5 1 #[] #[] 1537 3 #[] #[])
  fields := #[]
  methods := #[]
  instanceTypes := #[]
  staticTypes := #[]
  resolved := Array.replicate 11 none
  statics := none }

def pool6 : Array CpInfo := pool [(1, .class_ 2), (0, u "java/lang/constant/ConstantDesc"), (0, .class_ 4), (0, u "java/lang/Object")] 32

/-- java/lang/constant/ConstantDesc -/
def k6 : Class := { plain "java/lang/constant/ConstantDesc" (some 0) with
  accessFlags := 1537
  interfaces := #[]
  cf := some (fileOf pool6 1 #[] #[] 1537 3 #[] #[])
  fields := #[]
  methods := #[]
  instanceTypes := #[]
  staticTypes := #[]
  resolved := Array.replicate 37 none
  statics := none }

def pool7 : Array CpInfo := pool [(1, .methodref 2 3), (0, .class_ 4), (0, .nameAndType 5 6), (0, u "java/lang/Object"), (0, u "<init>"), (0, u "()V"), (0, .string 8), (0, u ""), (0, .fieldref 10 11), (0, .class_ 12), (0, .nameAndType 13 14), (0, u "java/lang/String"), (0, u "value"), (0, u "[B"), (0, .fieldref 10 16), (0, .nameAndType 17 18), (0, u "coder"), (0, u "B"), (2, u "hash"), (0, u "I"), (2, u "hashIsZero"), (0, u "Z"), (0, .methodref 10 28), (0, .nameAndType 5 29), (0, u "([CIILjava/lang/Void;)V"), (8, .fieldref 10 39), (0, .nameAndType 40 26), (0, u "COMPACT_STRINGS"), (1, .class_ 44), (1, u "java/lang/StringUTF16"), (0, u "compress"), (1, .methodref 42 48), (0, .nameAndType 49 50), (0, u "coderFromArrayLen"), (0, u "([BI)B"), (56, .class_ 109), (1, u "java/lang/StringLatin1"), (32, u "()Z"), (34, .methodref 42 178), (0, .nameAndType 45 179), (0, u "([CII)[B"), (154, u "()I"), (0, .methodref 10 336), (0, .nameAndType 17 337), (0, u "()B"), (25, u "([BI)C"), (27, u "(II)V"), (35, u "(I)C"), (64, .methodref 10 493), (0, .nameAndType 494 142), (0, u "isLatin1"), (0, .methodref 107 496), (0, .nameAndType 497 363), (0, u "charAt"), (3, u "checkIndex"), (5, u "length"), (33, .methodref 107 542), (0, .nameAndType 543 544), (0, u "equals"), (0, u "([B[B)Z"), (28, u "(Ljava/lang/Object;)Z"), (1, .class_ 576), (0, u "java/lang/CharSequence"), (22, u "CASE_INSENSITIVE_ORDER"), (0, u "Ljava/util/Comparator;"), (409, u "([C)V"), (42, .fieldref 1054 1055), (0, .class_ 1056), (0, .nameAndType 1057 1058), (0, u "jdk/internal/util/Preconditions"), (0, u "SIOOBE_FORMATTER"), (0, u "Ljava/util/function/BiFunction;"), (0, .methodref 1054 1060), (0, .nameAndType 501 1061), (0, u "(IILjava/util/function/BiFunction;)I"), (39, u "serialPersistentFields"), (0, u "[Ljava/io/ObjectStreamField;"), (0, .class_ 1104), (0, u "java/lang/String$CaseInsensitiveComparator"), (1, .class_ 1107), (0, u "java/io/Serializable"), (0, .class_ 1109), (0, u "java/lang/Comparable"), (0, .class_ 1111), (0, u "java/lang/constant/Constable"), (0, .class_ 1113), (0, u "java/lang/constant/ConstantDesc"), (2, u "serialVersionUID"), (0, u "J"), (3, u "REPL"), (0, u "C"), (2, u "LATIN1"), (1, u "UTF16")] 323

def k7m0 : Method := { name := "<init>", desc := "()V", sig := { parameters := [], returnType := none }, accessFlags := 1, code := none }
def k7c1 : Code := { maxStack := 5, maxLocals := 2, code := jdk_42_method_3_code, exceptionTable := #[], attributes := #[] }
def k7m1 : Method := { name := "<init>", desc := "([C)V", sig := { parameters := [(.array .char)], returnType := none }, accessFlags := 1, code := some k7c1 }
def k7c2 : Code := { maxStack := 2, maxLocals := 1, code := jdk_42_method_54_code, exceptionTable := #[], attributes := #[] }
def k7m2 : Method := { name := "length", desc := "()I", sig := { parameters := [], returnType := some .int }, accessFlags := 1, code := some k7c2 }
def k7c3 : Code := { maxStack := 2, maxLocals := 2, code := jdk_42_method_56_code, exceptionTable := #[], attributes := #[] }
def k7m3 : Method := { name := "charAt", desc := "(I)C", sig := { parameters := [.int], returnType := some .char }, accessFlags := 1, code := some k7c3 }
def k7c4 : Code := { maxStack := 2, maxLocals := 3, code := jdk_42_method_66_code, exceptionTable := #[], attributes := #[] }
def k7m4 : Method := { name := "equals", desc := "(Ljava/lang/Object;)Z", sig := { parameters := [(.object "java/lang/Object")], returnType := some .boolean }, accessFlags := 1, code := some k7c4 }
def k7c5 : Code := { maxStack := 4, maxLocals := 6, code := jdk_42_method_149_code, exceptionTable := #[], attributes := #[] }
def k7m5 : Method := { name := "<init>", desc := "([CIILjava/lang/Void;)V", sig := { parameters := [(.array .char), .int, .int, (.object "java/lang/Void")], returnType := none }, accessFlags := 2, code := some k7c5 }
def k7c6 : Code := { maxStack := 1, maxLocals := 1, code := jdk_42_method_152_code, exceptionTable := #[], attributes := #[] }
def k7m6 : Method := { name := "coder", desc := "()B", sig := { parameters := [], returnType := some .byte }, accessFlags := 0, code := some k7c6 }
def k7c7 : Code := { maxStack := 1, maxLocals := 1, code := jdk_42_method_154_code, exceptionTable := #[], attributes := #[] }
def k7m7 : Method := { name := "isLatin1", desc := "()Z", sig := { parameters := [], returnType := some .boolean }, accessFlags := 0, code := some k7c7 }
def k7c8 : Code := { maxStack := 3, maxLocals := 2, code := jdk_42_method_155_code, exceptionTable := #[], attributes := #[] }
def k7m8 : Method := { name := "checkIndex", desc := "(II)V", sig := { parameters := [.int, .int], returnType := none }, accessFlags := 8, code := some k7c8 }
/-- java/lang/String -/
def k7 : Class := { plain "java/lang/String" (some 0) with
  accessFlags := 49
  interfaces := #[2, 3, 4, 5, 6]
  cf := some (fileOf pool7 10 #[.nestMembers #[1103]] #[{ accessFlags := 1, nameIndex := 5, descriptorIndex := 6, attributes := #[] }, { accessFlags := 1, nameIndex := 5, descriptorIndex := 1010, attributes := #[] }, { accessFlags := 1, nameIndex := 507, descriptorIndex := 334, attributes := #[] }, { accessFlags := 1, nameIndex := 497, descriptorIndex := 427, attributes := #[] }, { accessFlags := 1, nameIndex := 543, descriptorIndex := 573, attributes := #[] }, { accessFlags := 2, nameIndex := 5, descriptorIndex := 29, attributes := #[] }, { accessFlags := 0, nameIndex := 17, descriptorIndex := 337, attributes := #[] }, { accessFlags := 0, nameIndex := 494, descriptorIndex := 142, attributes := #[] }, { accessFlags := 8, nameIndex := 501, descriptorIndex := 391, attributes := #[] }] 49 2 #[1106, 1108, 575, 1110, 1112] #[{ accessFlags := 18, nameIndex := 13, descriptorIndex := 14, attributes := #[] }, { accessFlags := 18, nameIndex := 17, descriptorIndex := 18, attributes := #[] }, { accessFlags := 2, nameIndex := 21, descriptorIndex := 22, attributes := #[] }, { accessFlags := 2, nameIndex := 25, descriptorIndex := 26, attributes := #[] }, { accessFlags := 26, nameIndex := 1116, descriptorIndex := 1117, attributes := #[] }, { accessFlags := 24, nameIndex := 40, descriptorIndex := 26, attributes := #[] }, { accessFlags := 26, nameIndex := 1101, descriptorIndex := 1102, attributes := #[] }, { accessFlags := 26, nameIndex := 1121, descriptorIndex := 1122, attributes := #[] }, { accessFlags := 25, nameIndex := 599, descriptorIndex := 600, attributes := #[] }, { accessFlags := 24, nameIndex := 1125, descriptorIndex := 18, attributes := #[] }, { accessFlags := 24, nameIndex := 1127, descriptorIndex := 18, attributes := #[] }])
  fields := #[{ name := "value", type := (.array .byte), accessFlags := 18, slot := 0, constantValue := 0 }, { name := "coder", type := .byte, accessFlags := 18, slot := 1, constantValue := 0 }, { name := "hash", type := .int, accessFlags := 2, slot := 2, constantValue := 0 }, { name := "hashIsZero", type := .boolean, accessFlags := 2, slot := 3, constantValue := 0 }, { name := "serialVersionUID", type := .long, accessFlags := 26, slot := 0, constantValue := 0 }, { name := "COMPACT_STRINGS", type := .boolean, accessFlags := 24, slot := 1, constantValue := 0 }, { name := "serialPersistentFields", type := (.array (.object "java/io/ObjectStreamField")), accessFlags := 26, slot := 2, constantValue := 0 }, { name := "REPL", type := .char, accessFlags := 26, slot := 3, constantValue := 0 }, { name := "CASE_INSENSITIVE_ORDER", type := (.object "java/util/Comparator"), accessFlags := 25, slot := 4, constantValue := 0 }, { name := "LATIN1", type := .byte, accessFlags := 24, slot := 5, constantValue := 0 }, { name := "UTF16", type := .byte, accessFlags := 24, slot := 6, constantValue := 0 }]
  methods := #[k7m0, k7m1, k7m2, k7m3, k7m4, k7m5, k7m6, k7m7, k7m8]
  instanceTypes := #[(.array .byte), .byte, .int, .boolean]
  staticTypes := #[.long, .boolean, (.array (.object "java/io/ObjectStreamField")), .char, (.object "java/util/Comparator"), .byte, .byte]
  resolved := Array.replicate 1451 none
  statics := some 0 }

def pool8 : Array CpInfo := pool [(1, .class_ 2), (0, u "java/lang/String"), (1, .class_ 6), (1, u "java/lang/Object"), (0, u "<init>"), (0, u "()V"), (0, .methodref 1 10), (0, .nameAndType 11 12), (0, u "checkIndex"), (0, u "(II)V"), (1, .class_ 16), (1, u "java/lang/StringLatin1"), (36, u "([BI)C"), (67, u "$assertionsDisabled"), (0, u "Z"), (98, .class_ 223), (1, u "java/lang/StringLatin1$LinesSpliterator"), (28, u "charAt"), (28, u "equals"), (0, u "([B[B)Z"), (107, .class_ 391), (0, u "java/lang/StringLatin1$CharsSpliterator")] 3

def k8m0 : Method := { name := "<init>", desc := "()V", sig := { parameters := [], returnType := none }, accessFlags := 0, code := none }
def k8c1 : Code := { maxStack := 2, maxLocals := 2, code := jdk_43_method_2_code, exceptionTable := #[], attributes := #[] }
def k8m1 : Method := { name := "charAt", desc := "([BI)C", sig := { parameters := [(.array .byte), .int], returnType := some .char }, accessFlags := 9, code := some k8c1 }
def k8c2 : Code := { maxStack := 3, maxLocals := 3, code := jdk_43_method_13_code, exceptionTable := #[], attributes := #[] }
def k8m2 : Method := { name := "equals", desc := "([B[B)Z", sig := { parameters := [(.array .byte), (.array .byte)], returnType := some .boolean }, accessFlags := 9, code := some k8c2 }
/-- java/lang/StringLatin1 -/
def k8 : Class := { plain "java/lang/StringLatin1" (some 0) with
  accessFlags := 48
  interfaces := #[]
  cf := some (fileOf pool8 14 #[.nestMembers #[390, 221]] #[{ accessFlags := 0, nameIndex := 7, descriptorIndex := 8, attributes := #[] }, { accessFlags := 9, nameIndex := 252, descriptorIndex := 53, attributes := #[] }, { accessFlags := 9, nameIndex := 281, descriptorIndex := 282, attributes := #[] }] 48 4 #[] #[{ accessFlags := 4120, nameIndex := 121, descriptorIndex := 122, attributes := #[] }])
  fields := #[{ name := "$assertionsDisabled", type := .boolean, accessFlags := 4120, slot := 0, constantValue := 0 }]
  methods := #[k8m0, k8m1, k8m2]
  instanceTypes := #[]
  staticTypes := #[.boolean]
  resolved := Array.replicate 395 none
  statics := none }

def pool9 : Array CpInfo := pool [(2, .class_ 4), (1, u "java/lang/Object"), (0, u "<init>"), (0, u "()V"), (17, .class_ 26), (1, u "jdk/internal/util/Preconditions"), (6, u "checkIndex"), (21, .class_ 56), (0, u "jdk/internal/util/Preconditions$4"), (57, .class_ 115), (0, u "jdk/internal/util/Preconditions$1"), (7, u "SIOOBE_FORMATTER"), (0, u "Ljava/util/function/BiFunction;"), (0, .class_ 126), (0, u "jdk/internal/util/Preconditions$2"), (3, u "AIOOBE_FORMATTER"), (0, .class_ 132), (0, u "jdk/internal/util/Preconditions$3"), (3, u "IOOBE_FORMATTER"), (41, u "(IILjava/util/function/BiFunction;)I")] 15

def k9m0 : Method := { name := "<init>", desc := "()V", sig := { parameters := [], returnType := none }, accessFlags := 1, code := none }
def k9c1 : Code := { maxStack := 3, maxLocals := 3, code := jdk_41_method_11_code, exceptionTable := #[], attributes := #[] }
def k9m1 : Method := { name := "checkIndex", desc := "(IILjava/util/function/BiFunction;)I", sig := { parameters := [.int, .int, (.object "java/util/function/BiFunction")], returnType := some .int }, accessFlags := 9, code := some k9c1 }
/-- jdk/internal/util/Preconditions -/
def k9 : Class := { plain "jdk/internal/util/Preconditions" (some 0) with
  accessFlags := 33
  interfaces := #[]
  cf := some (fileOf pool9 24 #[.nestMembers #[55, 131, 125, 114]] #[{ accessFlags := 1, nameIndex := 5, descriptorIndex := 6, attributes := #[] }, { accessFlags := 9, nameIndex := 33, descriptorIndex := 178, attributes := #[] }] 33 2 #[] #[{ accessFlags := 25, nameIndex := 123, descriptorIndex := 124, attributes := #[] }, { accessFlags := 25, nameIndex := 130, descriptorIndex := 124, attributes := #[] }, { accessFlags := 25, nameIndex := 136, descriptorIndex := 124, attributes := #[] }])
  fields := #[{ name := "SIOOBE_FORMATTER", type := (.object "java/util/function/BiFunction"), accessFlags := 25, slot := 0, constantValue := 0 }, { name := "AIOOBE_FORMATTER", type := (.object "java/util/function/BiFunction"), accessFlags := 25, slot := 1, constantValue := 0 }, { name := "IOOBE_FORMATTER", type := (.object "java/util/function/BiFunction"), accessFlags := 25, slot := 2, constantValue := 0 }]
  methods := #[k9m0, k9m1]
  instanceTypes := #[]
  staticTypes := #[(.object "java/util/function/BiFunction"), (.object "java/util/function/BiFunction"), (.object "java/util/function/BiFunction")]
  resolved := Array.replicate 194 none
  statics := some 1 }

def pool10 : Array CpInfo := pool [(6, .class_ 8), (1, u "java/lang/Object"), (0, u "<init>"), (0, u "()V"), (1, .class_ 14), (1, u "java/lang/StringUTF16"), (31, u "$assertionsDisabled"), (0, u "Z"), (13, u "HI_BYTE_SHIFT"), (0, u "I"), (2, u "LO_BYTE_SHIFT"), (49, .methodref 12 116), (0, .nameAndType 117 118), (0, u "compress"), (0, u "([CI[BII)I"), (3, u "([CII)[B"), (138, u "coderFromArrayLen"), (0, u "([BI)B"), (106, .class_ 371), (1, u "java/lang/StringUTF16$LinesSpliterator"), (58, u "MAX_LENGTH"), (196, .class_ 628), (0, u "java/lang/StringUTF16$CodePointsSpliterator"), (0, .class_ 630), (0, u "java/lang/StringUTF16$CharsSpliterator")] 4

def k10m0 : Method := { name := "<init>", desc := "()V", sig := { parameters := [], returnType := none }, accessFlags := 0, code := none }
def k10c1 : Code := { maxStack := 2, maxLocals := 2, code := jdk_52_method_15_code, exceptionTable := #[], attributes := #[] }
def k10m1 : Method := { name := "coderFromArrayLen", desc := "([BI)B", sig := { parameters := [(.array .byte), .int], returnType := some .byte }, accessFlags := 8, code := some k10c1 }
def k10c2 : Code := { maxStack := 5, maxLocals := 6, code := jdk_52_method_16_code, exceptionTable := #[], attributes := #[] }
def k10m2 : Method := { name := "compress", desc := "([CII)[B", sig := { parameters := [(.array .char), .int, .int], returnType := some (.array .byte) }, accessFlags := 9, code := some k10c2 }
def k10c3 : Code := { maxStack := 3, maxLocals := 7, code := jdk_52_method_21_code, exceptionTable := #[], attributes := #[] }
def k10m3 : Method := { name := "compress", desc := "([CI[BII)I", sig := { parameters := [(.array .char), .int, (.array .byte), .int, .int], returnType := some .int }, accessFlags := 9, code := some k10c3 }
/-- java/lang/StringUTF16 -/
def k10 : Class := { plain "java/lang/StringUTF16" (some 0) with
  accessFlags := 48
  interfaces := #[]
  cf := some (fileOf pool10 12 #[.nestMembers #[627, 629, 369]] #[{ accessFlags := 0, nameIndex := 9, descriptorIndex := 10, attributes := #[] }, { accessFlags := 8, nameIndex := 261, descriptorIndex := 262, attributes := #[] }, { accessFlags := 9, nameIndex := 117, descriptorIndex := 122, attributes := #[] }, { accessFlags := 9, nameIndex := 117, descriptorIndex := 118, attributes := #[] }] 48 6 #[] #[{ accessFlags := 26, nameIndex := 61, descriptorIndex := 62, attributes := #[] }, { accessFlags := 26, nameIndex := 65, descriptorIndex := 62, attributes := #[] }, { accessFlags := 24, nameIndex := 430, descriptorIndex := 62, attributes := #[] }, { accessFlags := 4120, nameIndex := 46, descriptorIndex := 47, attributes := #[] }])
  fields := #[{ name := "HI_BYTE_SHIFT", type := .int, accessFlags := 26, slot := 0, constantValue := 0 }, { name := "LO_BYTE_SHIFT", type := .int, accessFlags := 26, slot := 1, constantValue := 0 }, { name := "MAX_LENGTH", type := .int, accessFlags := 24, slot := 2, constantValue := 0 }, { name := "$assertionsDisabled", type := .boolean, accessFlags := 4120, slot := 3, constantValue := 0 }]
  methods := #[k10m0, k10m1, k10m2, k10m3]
  instanceTypes := #[]
  staticTypes := #[.int, .int, .int, .boolean]
  resolved := Array.replicate 635 none
  statics := none }

def pool11 : Array CpInfo := pool [(2, .class_ 4), (1, u "java/lang/Enum"), (0, u "name"), (0, u "Ljava/lang/String;"), (2, u "ordinal"), (0, u "I"), (1, .class_ 14), (1, u "java/lang/Object"), (4, u "hash"), (86, .class_ 108), (1, u "java/lang/Enum$EnumDesc"), (2, .class_ 112), (0, u "java/lang/constant/Constable"), (0, .class_ 114), (0, u "java/lang/Comparable"), (0, .class_ 116), (0, u "java/io/Serializable")] 87

/-- java/lang/Enum -/
def k11 : Class := { plain "java/lang/Enum" (some 0) with
  accessFlags := 1057
  interfaces := #[5, 3, 2]
  cf := some (fileOf pool11 2 #[.nestMembers #[106]] #[] 1057 12 #[111, 113, 115] #[{ accessFlags := 18, nameIndex := 5, descriptorIndex := 6, attributes := #[] }, { accessFlags := 18, nameIndex := 9, descriptorIndex := 10, attributes := #[] }, { accessFlags := 2, nameIndex := 19, descriptorIndex := 10, attributes := #[] }])
  fields := #[{ name := "name", type := (.object "java/lang/String"), accessFlags := 18, slot := 0, constantValue := 0 }, { name := "ordinal", type := .int, accessFlags := 18, slot := 1, constantValue := 0 }, { name := "hash", type := .int, accessFlags := 2, slot := 2, constantValue := 0 }]
  methods := #[]
  instanceTypes := #[(.object "java/lang/String"), .int, .int]
  staticTypes := #[]
  resolved := Array.replicate 204 none
  statics := none }

def pool12 : Array CpInfo := pool [(1, .class_ 2), (0, u "com/example/tenantd/tenantd/RoleType"), (2, u "ADMIN"), (0, u "Lcom/example/tenantd/tenantd/RoleType;"), (2, u "RESOURCE_ADMIN"), (2, u "DOMAIN_ADMIN"), (2, u "USER"), (0, .fieldref 1 17), (0, .nameAndType 18 19), (0, u "$VALUES"), (0, u "[Lcom/example/tenantd/tenantd/RoleType;"), (0, .methodref 21 22), (0, .class_ 19), (0, .nameAndType 23 24), (0, u "clone"), (0, u "()Ljava/lang/Object;"), (1, .class_ 28), (1, u "java/lang/Enum"), (6, .fieldref 1 36), (0, .nameAndType 37 38), (0, u "text"), (0, u "Ljava/lang/String;"), (2, u "defaultRoleName"), (2, u "accountType"), (0, u "I"), (0, .methodref 1 47), (0, .nameAndType 48 49), (0, u "values"), (0, u "()[Lcom/example/tenantd/tenantd/RoleType;"), (0, .methodref 51 52), (0, .class_ 53), (0, .nameAndType 54 55), (0, u "java/util/Optional"), (0, u "of"), (0, u "(Ljava/lang/Object;)Ljava/util/Optional;"), (0, .methodref 51 57), (0, .nameAndType 58 59), (0, u "empty"), (0, u "()Ljava/util/Optional;"), (0, .methodref 61 62), (0, .class_ 63), (0, .nameAndType 64 65), (0, u "java/lang/String"), (0, u "equals"), (0, u "(Ljava/lang/Object;)Z"), (36, u "ofText"), (0, u "(Ljava/lang/String;)Ljava/util/Optional;")] 6

def k12c0 : Code := { maxStack := 1, maxLocals := 0, code := prog_11_method_1_code, exceptionTable := #[], attributes := #[] }
def k12m0 : Method := { name := "values", desc := "()[Lcom/example/tenantd/tenantd/RoleType;", sig := { parameters := [], returnType := some (.array (.object "com/example/tenantd/tenantd/RoleType")) }, accessFlags := 9, code := some k12c0 }
def k12c1 : Code := { maxStack := 2, maxLocals := 5, code := prog_11_method_8_code, exceptionTable := #[], attributes := #[] }
def k12m1 : Method := { name := "ofText", desc := "(Ljava/lang/String;)Ljava/util/Optional;", sig := { parameters := [(.object "java/lang/String")], returnType := some (.object "java/util/Optional") }, accessFlags := 8, code := some k12c1 }
/-- com/example/tenantd/tenantd/RoleType -/
def k12 : Class := { plain "com/example/tenantd/tenantd/RoleType" (some 11) with
  accessFlags := 16432
  interfaces := #[]
  cf := some (fileOf pool12 1 #[] #[{ accessFlags := 9, nameIndex := 48, descriptorIndex := 49, attributes := #[] }, { accessFlags := 8, nameIndex := 102, descriptorIndex := 103, attributes := #[] }] 16432 26 #[] #[{ accessFlags := 16409, nameIndex := 5, descriptorIndex := 6, attributes := #[] }, { accessFlags := 16409, nameIndex := 9, descriptorIndex := 6, attributes := #[] }, { accessFlags := 16409, nameIndex := 12, descriptorIndex := 6, attributes := #[] }, { accessFlags := 16409, nameIndex := 15, descriptorIndex := 6, attributes := #[] }, { accessFlags := 18, nameIndex := 37, descriptorIndex := 38, attributes := #[] }, { accessFlags := 18, nameIndex := 41, descriptorIndex := 38, attributes := #[] }, { accessFlags := 18, nameIndex := 44, descriptorIndex := 45, attributes := #[] }, { accessFlags := 4122, nameIndex := 18, descriptorIndex := 19, attributes := #[] }])
  fields := #[{ name := "ADMIN", type := (.object "com/example/tenantd/tenantd/RoleType"), accessFlags := 16409, slot := 0, constantValue := 0 }, { name := "RESOURCE_ADMIN", type := (.object "com/example/tenantd/tenantd/RoleType"), accessFlags := 16409, slot := 1, constantValue := 0 }, { name := "DOMAIN_ADMIN", type := (.object "com/example/tenantd/tenantd/RoleType"), accessFlags := 16409, slot := 2, constantValue := 0 }, { name := "USER", type := (.object "com/example/tenantd/tenantd/RoleType"), accessFlags := 16409, slot := 3, constantValue := 0 }, { name := "text", type := (.object "java/lang/String"), accessFlags := 18, slot := 3, constantValue := 0 }, { name := "defaultRoleName", type := (.object "java/lang/String"), accessFlags := 18, slot := 4, constantValue := 0 }, { name := "accountType", type := .int, accessFlags := 18, slot := 5, constantValue := 0 }, { name := "$VALUES", type := (.array (.object "com/example/tenantd/tenantd/RoleType")), accessFlags := 4122, slot := 4, constantValue := 0 }]
  methods := #[k12m0, k12m1]
  instanceTypes := #[(.object "java/lang/String"), .int, .int, (.object "java/lang/String"), (.object "java/lang/String"), .int]
  staticTypes := #[(.object "com/example/tenantd/tenantd/RoleType"), (.object "com/example/tenantd/tenantd/RoleType"), (.object "com/example/tenantd/tenantd/RoleType"), (.object "com/example/tenantd/tenantd/RoleType"), (.array (.object "com/example/tenantd/tenantd/RoleType"))]
  resolved := Array.replicate 110 none
  statics := some 2 }

def pool13 : Array CpInfo := pool [(1, .class_ 2), (0, u "java/lang/Cloneable"), (0, .class_ 4), (0, u "java/lang/Object")] 2

/-- java/lang/Cloneable -/
def k13 : Class := { plain "java/lang/Cloneable" (some 0) with
  accessFlags := 1537
  interfaces := #[]
  cf := some (fileOf pool13 1 #[] #[] 1537 3 #[] #[])
  fields := #[]
  methods := #[]
  instanceTypes := #[]
  staticTypes := #[]
  resolved := Array.replicate 7 none
  statics := none }

def pool14 : Array CpInfo := pool [(1, .fieldref 2 3), (0, .class_ 4), (0, .nameAndType 5 6), (0, u "java/util/Optional"), (0, u "EMPTY"), (0, u "Ljava/util/Optional;"), (0, .methodref 8 9), (0, .class_ 10), (0, .nameAndType 11 12), (0, u "java/lang/Object"), (0, u "<init>"), (0, u "()V"), (0, .fieldref 2 14), (0, .nameAndType 15 16), (0, u "value"), (0, u "Ljava/lang/Object;"), (0, .methodref 18 19), (0, .class_ 20), (0, .nameAndType 21 22), (0, u "java/util/Objects"), (0, u "requireNonNull"), (0, u "(Ljava/lang/Object;)Ljava/lang/Object;"), (0, .methodref 2 24), (0, .nameAndType 11 25), (0, u "(Ljava/lang/Object;)V"), (29, u "empty"), (0, u "()Ljava/util/Optional;"), (8, u "(Ljava/lang/Object;)Ljava/util/Optional;"), (16, u "of"), (82, u "orElse")] 21

def k14c0 : Code := { maxStack := 1, maxLocals := 1, code := jdk_32_method_1_code, exceptionTable := #[], attributes := #[] }
def k14m0 : Method := { name := "empty", desc := "()Ljava/util/Optional;", sig := { parameters := [], returnType := some (.object "java/util/Optional") }, accessFlags := 9, code := some k14c0 }
def k14c1 : Code := { maxStack := 2, maxLocals := 2, code := jdk_32_method_2_code, exceptionTable := #[], attributes := #[] }
def k14m1 : Method := { name := "<init>", desc := "(Ljava/lang/Object;)V", sig := { parameters := [(.object "java/lang/Object")], returnType := none }, accessFlags := 2, code := some k14c1 }
def k14c2 : Code := { maxStack := 3, maxLocals := 1, code := jdk_32_method_3_code, exceptionTable := #[], attributes := #[] }
def k14m2 : Method := { name := "of", desc := "(Ljava/lang/Object;)Ljava/util/Optional;", sig := { parameters := [(.object "java/lang/Object")], returnType := some (.object "java/util/Optional") }, accessFlags := 9, code := some k14c2 }
def k14c3 : Code := { maxStack := 1, maxLocals := 2, code := jdk_32_method_15_code, exceptionTable := #[], attributes := #[] }
def k14m3 : Method := { name := "orElse", desc := "(Ljava/lang/Object;)Ljava/lang/Object;", sig := { parameters := [(.object "java/lang/Object")], returnType := some (.object "java/lang/Object") }, accessFlags := 1, code := some k14c3 }
/-- java/util/Optional -/
def k14 : Class := { plain "java/util/Optional" (some 0) with
  accessFlags := 49
  interfaces := #[]
  cf := some (fileOf pool14 2 #[] #[{ accessFlags := 9, nameIndex := 55, descriptorIndex := 56, attributes := #[] }, { accessFlags := 2, nameIndex := 11, descriptorIndex := 25, attributes := #[] }, { accessFlags := 9, nameIndex := 82, descriptorIndex := 65, attributes := #[] }, { accessFlags := 1, nameIndex := 165, descriptorIndex := 22, attributes := #[] }] 49 8 #[] #[{ accessFlags := 26, nameIndex := 5, descriptorIndex := 6, attributes := #[] }, { accessFlags := 18, nameIndex := 15, descriptorIndex := 16, attributes := #[] }])
  fields := #[{ name := "EMPTY", type := (.object "java/util/Optional"), accessFlags := 26, slot := 0, constantValue := 0 }, { name := "value", type := (.object "java/lang/Object"), accessFlags := 18, slot := 0, constantValue := 0 }]
  methods := #[k14m0, k14m1, k14m2, k14m3]
  instanceTypes := #[(.object "java/lang/Object")]
  staticTypes := #[(.object "java/util/Optional")]
  resolved := Array.replicate 187 none
  statics := some 3 }

def pool15 : Array CpInfo := pool [(2, .class_ 4), (1, u "java/lang/Object"), (0, u "<init>"), (0, u "()V"), (35, .class_ 44), (1, u "java/util/Objects"), (0, u "requireNonNull"), (0, u "(Ljava/lang/Object;)Ljava/lang/Object;")] 137

def k15m0 : Method := { name := "<init>", desc := "()V", sig := { parameters := [], returnType := none }, accessFlags := 2, code := none }
def k15c1 : Code := { maxStack := 2, maxLocals := 1, code := jdk_31_method_10_code, exceptionTable := #[], attributes := #[] }
def k15m1 : Method := { name := "requireNonNull", desc := "(Ljava/lang/Object;)Ljava/lang/Object;", sig := { parameters := [(.object "java/lang/Object")], returnType := some (.object "java/lang/Object") }, accessFlags := 9, code := some k15c1 }
/-- java/util/Objects -/
def k15 : Class := { plain "java/util/Objects" (some 0) with
  accessFlags := 49
  interfaces := #[]
  cf := some (fileOf pool15 42 #[] #[{ accessFlags := 2, nameIndex := 5, descriptorIndex := 6, attributes := #[] }, { accessFlags := 9, nameIndex := 45, descriptorIndex := 46, attributes := #[] }] 49 2 #[] #[])
  fields := #[]
  methods := #[k15m0, k15m1]
  instanceTypes := #[]
  staticTypes := #[]
  resolved := Array.replicate 184 none
  statics := none }

def pool16 : Array CpInfo := pool [(9, u "<init>"), (6, .class_ 18), (1, u "java/lang/Object"), (0, u "()V"), (1, .class_ 23), (1, u "jdk/internal/util/ArraysSupport"), (0, u "LOG2_ARRAY_LONG_INDEX_SCALE"), (0, u "I"), (2, u "U"), (0, u "Ljdk/internal/misc/Unsafe;"), (8, u "BIG_ENDIAN"), (0, u "Z"), (8, u "LOG2_BYTE_BIT_SIZE"), (4, u "LOG2_ARRAY_INT_INDEX_SCALE"), (54, u "JLA"), (0, u "Ljdk/internal/access/JavaLangAccess;"), (11, u "LOG2_ARRAY_BOOLEAN_INDEX_SCALE"), (9, u "LOG2_ARRAY_BYTE_INDEX_SCALE"), (5, u "LOG2_ARRAY_CHAR_INDEX_SCALE"), (5, u "LOG2_ARRAY_SHORT_INDEX_SCALE"), (18, u "LOG2_ARRAY_FLOAT_INDEX_SCALE"), (24, u "LOG2_ARRAY_DOUBLE_INDEX_SCALE"), (89, u "T_BOOLEAN"), (2, u "T_CHAR"), (1, u "T_FLOAT"), (1, u "T_DOUBLE"), (1, u "T_BYTE"), (1, u "T_SHORT"), (1, u "T_INT"), (1, u "T_LONG"), (1, u "SOFT_MAX_ARRAY_LENGTH")] 83

def k16m0 : Method := { name := "<init>", desc := "()V", sig := { parameters := [], returnType := none }, accessFlags := 2, code := none }
/-- jdk/internal/util/ArraysSupport -/
def k16 : Class := { plain "jdk/internal/util/ArraysSupport" (some 0) with
  accessFlags := 33
  interfaces := #[]
  cf := some (fileOf pool16 21 #[] #[{ accessFlags := 2, nameIndex := 9, descriptorIndex := 19, attributes := #[] }] 33 16 #[] #[{ accessFlags := 24, nameIndex := 28, descriptorIndex := 29, attributes := #[] }, { accessFlags := 26, nameIndex := 38, descriptorIndex := 39, attributes := #[] }, { accessFlags := 25, nameIndex := 121, descriptorIndex := 25, attributes := #[] }, { accessFlags := 25, nameIndex := 131, descriptorIndex := 25, attributes := #[] }, { accessFlags := 25, nameIndex := 137, descriptorIndex := 25, attributes := #[] }, { accessFlags := 25, nameIndex := 143, descriptorIndex := 25, attributes := #[] }, { accessFlags := 25, nameIndex := 53, descriptorIndex := 25, attributes := #[] }, { accessFlags := 25, nameIndex := 24, descriptorIndex := 25, attributes := #[] }, { accessFlags := 25, nameIndex := 162, descriptorIndex := 25, attributes := #[] }, { accessFlags := 25, nameIndex := 187, descriptorIndex := 25, attributes := #[] }, { accessFlags := 26, nameIndex := 48, descriptorIndex := 25, attributes := #[] }, { accessFlags := 25, nameIndex := 277, descriptorIndex := 25, attributes := #[] }, { accessFlags := 25, nameIndex := 280, descriptorIndex := 25, attributes := #[] }, { accessFlags := 25, nameIndex := 282, descriptorIndex := 25, attributes := #[] }, { accessFlags := 25, nameIndex := 284, descriptorIndex := 25, attributes := #[] }, { accessFlags := 25, nameIndex := 286, descriptorIndex := 25, attributes := #[] }, { accessFlags := 25, nameIndex := 288, descriptorIndex := 25, attributes := #[] }, { accessFlags := 25, nameIndex := 290, descriptorIndex := 25, attributes := #[] }, { accessFlags := 25, nameIndex := 292, descriptorIndex := 25, attributes := #[] }, { accessFlags := 26, nameIndex := 108, descriptorIndex := 109, attributes := #[] }, { accessFlags := 25, nameIndex := 294, descriptorIndex := 25, attributes := #[] }])
  fields := #[{ name := "U", type := (.object "jdk/internal/misc/Unsafe"), accessFlags := 24, slot := 0, constantValue := 0 }, { name := "BIG_ENDIAN", type := .boolean, accessFlags := 26, slot := 1, constantValue := 0 }, { name := "LOG2_ARRAY_BOOLEAN_INDEX_SCALE", type := .int, accessFlags := 25, slot := 2, constantValue := 0 }, { name := "LOG2_ARRAY_BYTE_INDEX_SCALE", type := .int, accessFlags := 25, slot := 3, constantValue := 0 }, { name := "LOG2_ARRAY_CHAR_INDEX_SCALE", type := .int, accessFlags := 25, slot := 4, constantValue := 0 }, { name := "LOG2_ARRAY_SHORT_INDEX_SCALE", type := .int, accessFlags := 25, slot := 5, constantValue := 0 }, { name := "LOG2_ARRAY_INT_INDEX_SCALE", type := .int, accessFlags := 25, slot := 6, constantValue := 0 }, { name := "LOG2_ARRAY_LONG_INDEX_SCALE", type := .int, accessFlags := 25, slot := 7, constantValue := 0 }, { name := "LOG2_ARRAY_FLOAT_INDEX_SCALE", type := .int, accessFlags := 25, slot := 8, constantValue := 0 }, { name := "LOG2_ARRAY_DOUBLE_INDEX_SCALE", type := .int, accessFlags := 25, slot := 9, constantValue := 0 }, { name := "LOG2_BYTE_BIT_SIZE", type := .int, accessFlags := 26, slot := 10, constantValue := 0 }, { name := "T_BOOLEAN", type := .int, accessFlags := 25, slot := 11, constantValue := 0 }, { name := "T_CHAR", type := .int, accessFlags := 25, slot := 12, constantValue := 0 }, { name := "T_FLOAT", type := .int, accessFlags := 25, slot := 13, constantValue := 0 }, { name := "T_DOUBLE", type := .int, accessFlags := 25, slot := 14, constantValue := 0 }, { name := "T_BYTE", type := .int, accessFlags := 25, slot := 15, constantValue := 0 }, { name := "T_SHORT", type := .int, accessFlags := 25, slot := 16, constantValue := 0 }, { name := "T_INT", type := .int, accessFlags := 25, slot := 17, constantValue := 0 }, { name := "T_LONG", type := .int, accessFlags := 25, slot := 18, constantValue := 0 }, { name := "JLA", type := (.object "jdk/internal/access/JavaLangAccess"), accessFlags := 26, slot := 19, constantValue := 0 }, { name := "SOFT_MAX_ARRAY_LENGTH", type := .int, accessFlags := 25, slot := 20, constantValue := 0 }]
  methods := #[k16m0]
  instanceTypes := #[]
  staticTypes := #[(.object "jdk/internal/misc/Unsafe"), .boolean, .int, .int, .int, .int, .int, .int, .int, .int, .int, .int, .int, .int, .int, .int, .int, .int, .int, (.object "jdk/internal/access/JavaLangAccess"), .int]
  resolved := Array.replicate 378 none
  statics := none }

/-- the primitive byte -/
def k17 : Class := { plain "byte" none with kind := .primitive 'B', accessFlags := 0x411 }
/-- [B -/
def k18 : Class := { plain "[B" (some 0) with kind := .array 17 .byte, interfaces := #[13, 2], accessFlags := 1041 }

/-- the primitive char -/
def k19 : Class := { plain "char" none with kind := .primitive 'C', accessFlags := 0x411 }
/-- [C -/
def k20 : Class := { plain "[C" (some 0) with kind := .array 19 .char, interfaces := #[13, 2], accessFlags := 1041 }

/-- the primitive int -/
def k21 : Class := { plain "int" none with kind := .primitive 'I', accessFlags := 0x411 }
/-- [I -/
def k22 : Class := { plain "[I" (some 0) with kind := .array 21 .int, interfaces := #[13, 2], accessFlags := 1041 }

/-- [Lcom/example/tenantd/tenantd/RoleType; -/
def k23 : Class := { plain "[Lcom/example/tenantd/tenantd/RoleType;" (some 0) with kind := .array 12 (.object "com/example/tenantd/tenantd/RoleType"), interfaces := #[13, 2], accessFlags := 1041 }

def heap : Heap := #[{ cls := 7, slots := #[.long 0, .int 1, .null, .int 0, .null, .int 0, .int 0], vm := .statics 7 },
  { cls := 9, slots := #[.null, .null, .null], vm := .statics 9 },
  { cls := 12, slots := #[.ref 5, .ref 6, .ref 7, .ref 8, .ref 4], vm := .statics 12 },
  { cls := 14, slots := #[.ref 17], vm := .statics 14 },
  { cls := 23, slots := #[.ref 5, .ref 6, .ref 7, .ref 8], vm := .none },
  { cls := 12, slots := #[.null, .int 0, .int 0, .ref 9, .null, .int 0], vm := .none },
  { cls := 12, slots := #[.null, .int 1, .int 0, .ref 10, .null, .int 0], vm := .none },
  { cls := 12, slots := #[.null, .int 2, .int 0, .ref 11, .null, .int 0], vm := .none },
  { cls := 12, slots := #[.null, .int 3, .int 0, .ref 12, .null, .int 0], vm := .none },
  { cls := 7, slots := #[.ref 13, .int 0, .int 0, .int 0], vm := .none },
  { cls := 7, slots := #[.ref 14, .int 0, .int 0, .int 0], vm := .none },
  { cls := 7, slots := #[.ref 15, .int 0, .int 0, .int 0], vm := .none },
  { cls := 7, slots := #[.ref 16, .int 0, .int 0, .int 0], vm := .none },
  { cls := 18, slots := #[.int 65, .int 100, .int 109, .int 105, .int 110], vm := .none },
  { cls := 18, slots := #[.int 82, .int 101, .int 115, .int 111, .int 117, .int 114, .int 99, .int 101, .int 65, .int 100, .int 109, .int 105, .int 110], vm := .none },
  { cls := 18, slots := #[.int 68, .int 111, .int 109, .int 97, .int 105, .int 110, .int 65, .int 100, .int 109, .int 105, .int 110], vm := .none },
  { cls := 18, slots := #[.int 85, .int 115, .int 101, .int 114], vm := .none },
  { cls := 14, slots := #[.null], vm := .none }]
def classes : Array Class := #[k0, k1, k2, k3, k4, k5, k6, k7, k8, k9, k10, k11, k12, k13, k14, k15, k16, k17, k18, k19, k20, k21, k22, k23]
def interned : List (Array UInt16 × Addr) := []
def slotsUsed : Nat := 94
def theMethod : MethodId := ⟨1, 4⟩
def args0 : Array Value := #[.int 5, .int 7, .int 9, .int 2]
def aboutOver (below : List Frame) : State where
  vm := { classes := classes, interned := interned.toArray }
  heap := heap
  slotsUsed := slotsUsed
  threads := #[{ frames := .invoking theMethod args0 :: below }]
def below0 : List Frame := [.native { method := ⟨0, 0⟩, args := #[] }]
def about1 : State := aboutOver below0
def p0 : Program := .bare "" "" ""
def e0 : Env := launch0.env 0 0 0
theorem w_frames : about1.frames = Frame.invoking theMethod args0 :: below0 := rfl
set_option maxRecDepth 65536 in
theorem w_args : argsFit about1.vm theMethod args0 = true := by decide +kernel
set_option maxRecDepth 65536 in
theorem w_heap : heapFits about1 = true := by decide +kernel
set_option maxRecDepth 65536 in
theorem w_runnable : about1.curStatus? = some .runnable := by decide +kernel
set_option maxRecDepth 65536 in
theorem w_alone : about1.alone = true := by decide +kernel
set_option maxRecDepth 65536 in
theorem w_named : about1.methodNamed? x = some theMethod := by decide +kernel
set_option maxRecDepth 65536 in
theorem w_hears : about1.hears theMethod below0 = true := by decide +kernel
set_option maxRecDepth 65536 in
theorem w_ripe : about1.ripe theMethod args0 below0 = true := by decide +kernel
theorem w_running : about1.status = .running := rfl
set_option maxRecDepth 65536 in
theorem w_room : about1.hasRoom e0.platform room_1 = true :=
  launch0.hasRoom_least _ room_1 (by decide +kernel) (by decide +kernel) (by decide +kernel) (by decide +kernel) (by decide +kernel) (by decide +kernel)
theorem allAtoms_all (ts : List Jvm.Cond) (a : Array Jvm.Value) (st : Jvm.State) : (allAtoms ts).before a st = ts.all (fun c => c.before a st) := by
  induction ts with
  | nil => rfl
  | cons c t ih =>
    show (Jvm.Cond.and c (allAtoms t)).before a st = _
    rw [Jvm.Cond.before_and, ih, List.all_cons]
def words1 : List Jvm.Cond := Jvm.Cond.code x code maxLocals ret :: tables_1
/-- a 'code' word, met by the world's own term for the bytes: nothing is compared byte by byte -/
theorem code_word {y : MethodName} {bytes : ByteArray} {mx : Nat} {rt : Option FieldType} {a : Array Value} {s : State} {m : MethodId} {meth : Method} {c : Code} (h1 : s.methodNamed? y = some m) (h2 : s.vm.method? m = some meth) (h3 : meth.code = some c) (h4 : c.code = bytes)
    (h5 : (c.maxLocals == mx && c.exceptionTable.isEmpty && decide (c.maxStack ≤ mostOperands) && decide (meth.sig.returnType = rt) && !meth.locks && decide (parseMethodDescriptor y.desc = some meth.sig)) = true) : (Jvm.Cond.code y bytes mx rt).before a s = true := by
  simp only [Bool.and_eq_true, beq_iff_eq, Bool.not_eq_true', decide_eq_true_eq] at h5
  obtain ⟨⟨⟨⟨⟨g1, g2⟩, g3⟩, g4⟩, g5⟩, g6⟩ := h5
  simp [Cond.before, Cond.holds, Cond.value, h1, h2, h3, h4, g1, g2, g3, g4, g5, g6]
def isCode : Jvm.Cond → Bool
  | .code _ _ _ _ => true
  | _ => false
theorem all_split {L : List Jvm.Cond} {P : Jvm.Cond → Bool} (h1 : L.all (fun c => isCode c || P c) = true) (h2 : ∀ c ∈ L.filter isCode, P c = true) : L.all P = true := by
  refine List.all_eq_true.mpr fun c hc => ?_
  have h := List.all_eq_true.mp h1 c hc
  rcases Bool.eq_false_or_eq_true (isCode c) with hi | hi
  · exact h2 c (List.mem_filter.mpr ⟨hc, hi⟩)
  · simpa [hi] using h
set_option maxRecDepth 65536 in
theorem w_c0 : (Jvm.Cond.code x code maxLocals ret).before args0 about1 = true := code_word (m := ⟨1, 4⟩) (meth := k1m4) (c := k1c4) (by decide +kernel) rfl rfl rfl (by decide +kernel)
set_option maxRecDepth 65536 in
theorem w_c1 : (Jvm.Cond.code ({ cls := "com/example/tenantd/tenantd/RoleTypeOfTextPinLaw", name := "lit", desc := "(I)Ljava/lang/String;" } : Jvm.MethodName) method_2_code (1 : Nat) (Option.some (Jvm.ClassFile.FieldType.object "java/lang/String"))).before args0 about1 = true := code_word (m := ⟨1, 1⟩) (meth := k1m1) (c := k1c1) (by decide +kernel) rfl rfl rfl (by decide +kernel)
set_option maxRecDepth 65536 in
theorem w_c2 : (Jvm.Cond.code ({ cls := "java/lang/String", name := "length", desc := "()I" } : Jvm.MethodName) jdk_42_method_54_code (1 : Nat) (Option.some Jvm.ClassFile.FieldType.int)).before args0 about1 = true := code_word (m := ⟨7, 2⟩) (meth := k7m2) (c := k7c2) (by decide +kernel) rfl rfl rfl (by decide +kernel)
set_option maxRecDepth 65536 in
theorem w_c3 : (Jvm.Cond.code ({ cls := "java/lang/String", name := "coder", desc := "()B" } : Jvm.MethodName) jdk_42_method_152_code (1 : Nat) (Option.some Jvm.ClassFile.FieldType.byte)).before args0 about1 = true := code_word (m := ⟨7, 6⟩) (meth := k7m6) (c := k7c6) (by decide +kernel) rfl rfl rfl (by decide +kernel)
set_option maxRecDepth 65536 in
theorem w_c4 : (Jvm.Cond.code ({ cls := "com/example/tenantd/tenantd/RoleTypeOfTextPinLaw", name := "ch", desc := "(Ljava/lang/String;IIICI)C" } : Jvm.MethodName) method_4_code (6 : Nat) (Option.some Jvm.ClassFile.FieldType.char)).before args0 about1 = true := code_word (m := ⟨1, 3⟩) (meth := k1m3) (c := k1c3) (by decide +kernel) rfl rfl rfl (by decide +kernel)
set_option maxRecDepth 65536 in
theorem w_c5 : (Jvm.Cond.code ({ cls := "java/lang/String", name := "charAt", desc := "(I)C" } : Jvm.MethodName) jdk_42_method_56_code (2 : Nat) (Option.some Jvm.ClassFile.FieldType.char)).before args0 about1 = true := code_word (m := ⟨7, 3⟩) (meth := k7m3) (c := k7c3) (by decide +kernel) rfl rfl rfl (by decide +kernel)
set_option maxRecDepth 65536 in
theorem w_c6 : (Jvm.Cond.code ({ cls := "java/lang/String", name := "isLatin1", desc := "()Z" } : Jvm.MethodName) jdk_42_method_154_code (1 : Nat) (Option.some Jvm.ClassFile.FieldType.boolean)).before args0 about1 = true := code_word (m := ⟨7, 7⟩) (meth := k7m7) (c := k7c7) (by decide +kernel) rfl rfl rfl (by decide +kernel)
set_option maxRecDepth 65536 in
theorem w_c7 : (Jvm.Cond.code ({ cls := "java/lang/StringLatin1", name := "charAt", desc := "([BI)C" } : Jvm.MethodName) jdk_43_method_2_code (2 : Nat) (Option.some Jvm.ClassFile.FieldType.char)).before args0 about1 = true := code_word (m := ⟨8, 1⟩) (meth := k8m1) (c := k8c1) (by decide +kernel) rfl rfl rfl (by decide +kernel)
set_option maxRecDepth 65536 in
theorem w_c8 : (Jvm.Cond.code ({ cls := "java/lang/String", name := "checkIndex", desc := "(II)V" } : Jvm.MethodName) jdk_42_method_155_code (2 : Nat) (Option.none : Option Jvm.ClassFile.FieldType)).before args0 about1 = true := code_word (m := ⟨7, 8⟩) (meth := k7m8) (c := k7c8) (by decide +kernel) rfl rfl rfl (by decide +kernel)
set_option maxRecDepth 65536 in
theorem w_c9 : (Jvm.Cond.code ({ cls := "jdk/internal/util/Preconditions", name := "checkIndex", desc := "(IILjava/util/function/BiFunction;)I" } : Jvm.MethodName) jdk_41_method_11_code (3 : Nat) (Option.some Jvm.ClassFile.FieldType.int)).before args0 about1 = true := code_word (m := ⟨9, 1⟩) (meth := k9m1) (c := k9c1) (by decide +kernel) rfl rfl rfl (by decide +kernel)
set_option maxRecDepth 65536 in
theorem w_c10 : (Jvm.Cond.code ({ cls := "java/lang/String", name := "<init>", desc := "([C)V" } : Jvm.MethodName) jdk_42_method_3_code (2 : Nat) (Option.none : Option Jvm.ClassFile.FieldType)).before args0 about1 = true := code_word (m := ⟨7, 1⟩) (meth := k7m1) (c := k7c1) (by decide +kernel) rfl rfl rfl (by decide +kernel)
set_option maxRecDepth 65536 in
theorem w_c11 : (Jvm.Cond.code ({ cls := "java/lang/String", name := "<init>", desc := "([CIILjava/lang/Void;)V" } : Jvm.MethodName) jdk_42_method_149_code (6 : Nat) (Option.none : Option Jvm.ClassFile.FieldType)).before args0 about1 = true := code_word (m := ⟨7, 5⟩) (meth := k7m5) (c := k7c5) (by decide +kernel) rfl rfl rfl (by decide +kernel)
set_option maxRecDepth 65536 in
theorem w_c12 : (Jvm.Cond.code ({ cls := "java/lang/Object", name := "<init>", desc := "()V" } : Jvm.MethodName) object_method_1_code (1 : Nat) (Option.none : Option Jvm.ClassFile.FieldType)).before args0 about1 = true := code_word (m := ⟨0, 0⟩) (meth := k0m0) (c := k0c0) (by decide +kernel) rfl rfl rfl (by decide +kernel)
set_option maxRecDepth 65536 in
theorem w_c13 : (Jvm.Cond.code ({ cls := "java/lang/StringUTF16", name := "compress", desc := "([CII)[B" } : Jvm.MethodName) jdk_52_method_16_code (6 : Nat) (Option.some (Jvm.ClassFile.FieldType.array Jvm.ClassFile.FieldType.byte))).before args0 about1 = true := code_word (m := ⟨10, 2⟩) (meth := k10m2) (c := k10c2) (by decide +kernel) rfl rfl rfl (by decide +kernel)
set_option maxRecDepth 65536 in
theorem w_c14 : (Jvm.Cond.code ({ cls := "java/lang/StringUTF16", name := "compress", desc := "([CI[BII)I" } : Jvm.MethodName) jdk_52_method_21_code (7 : Nat) (Option.some Jvm.ClassFile.FieldType.int)).before args0 about1 = true := code_word (m := ⟨10, 3⟩) (meth := k10m3) (c := k10c3) (by decide +kernel) rfl rfl rfl (by decide +kernel)
set_option maxRecDepth 65536 in
theorem w_c15 : (Jvm.Cond.code ({ cls := "java/lang/StringUTF16", name := "coderFromArrayLen", desc := "([BI)B" } : Jvm.MethodName) jdk_52_method_15_code (2 : Nat) (Option.some Jvm.ClassFile.FieldType.byte)).before args0 about1 = true := code_word (m := ⟨10, 1⟩) (meth := k10m1) (c := k10c1) (by decide +kernel) rfl rfl rfl (by decide +kernel)
set_option maxRecDepth 65536 in
theorem w_c16 : (Jvm.Cond.code ({ cls := "com/example/tenantd/tenantd/RoleType", name := "ofText", desc := "(Ljava/lang/String;)Ljava/util/Optional;" } : Jvm.MethodName) prog_11_method_8_code (5 : Nat) (Option.some (Jvm.ClassFile.FieldType.object "java/util/Optional"))).before args0 about1 = true := code_word (m := ⟨12, 1⟩) (meth := k12m1) (c := k12c1) (by decide +kernel) rfl rfl rfl (by decide +kernel)
set_option maxRecDepth 65536 in
theorem w_c17 : (Jvm.Cond.code ({ cls := "com/example/tenantd/tenantd/RoleType", name := "values", desc := "()[Lcom/example/tenantd/tenantd/RoleType;" } : Jvm.MethodName) prog_11_method_1_code (0 : Nat) (Option.some (Jvm.ClassFile.FieldType.array (Jvm.ClassFile.FieldType.object "com/example/tenantd/tenantd/RoleType")))).before args0 about1 = true := code_word (m := ⟨12, 0⟩) (meth := k12m0) (c := k12c0) (by decide +kernel) rfl rfl rfl (by decide +kernel)
set_option maxRecDepth 65536 in
theorem w_c18 : (Jvm.Cond.code ({ cls := "java/lang/String", name := "equals", desc := "(Ljava/lang/Object;)Z" } : Jvm.MethodName) jdk_42_method_66_code (3 : Nat) (Option.some Jvm.ClassFile.FieldType.boolean)).before args0 about1 = true := code_word (m := ⟨7, 4⟩) (meth := k7m4) (c := k7c4) (by decide +kernel) rfl rfl rfl (by decide +kernel)
set_option maxRecDepth 65536 in
theorem w_c19 : (Jvm.Cond.code ({ cls := "java/lang/StringLatin1", name := "equals", desc := "([B[B)Z" } : Jvm.MethodName) jdk_43_method_13_code (3 : Nat) (Option.some Jvm.ClassFile.FieldType.boolean)).before args0 about1 = true := code_word (m := ⟨8, 2⟩) (meth := k8m2) (c := k8c2) (by decide +kernel) rfl rfl rfl (by decide +kernel)
set_option maxRecDepth 65536 in
theorem w_c20 : (Jvm.Cond.code ({ cls := "java/util/Optional", name := "empty", desc := "()Ljava/util/Optional;" } : Jvm.MethodName) jdk_32_method_1_code (1 : Nat) (Option.some (Jvm.ClassFile.FieldType.object "java/util/Optional"))).before args0 about1 = true := code_word (m := ⟨14, 0⟩) (meth := k14m0) (c := k14c0) (by decide +kernel) rfl rfl rfl (by decide +kernel)
set_option maxRecDepth 65536 in
theorem w_c21 : (Jvm.Cond.code ({ cls := "java/util/Optional", name := "orElse", desc := "(Ljava/lang/Object;)Ljava/lang/Object;" } : Jvm.MethodName) jdk_32_method_15_code (2 : Nat) (Option.some (Jvm.ClassFile.FieldType.object "java/lang/Object"))).before args0 about1 = true := code_word (m := ⟨14, 3⟩) (meth := k14m3) (c := k14c3) (by decide +kernel) rfl rfl rfl (by decide +kernel)
set_option maxRecDepth 65536 in
theorem w_c22 : (Jvm.Cond.code ({ cls := "com/example/tenantd/tenantd/RoleTypeOfTextPinLaw", name := "type", desc := "(I)Lcom/example/tenantd/tenantd/RoleType;" } : Jvm.MethodName) method_3_code (1 : Nat) (Option.some (Jvm.ClassFile.FieldType.object "com/example/tenantd/tenantd/RoleType"))).before args0 about1 = true := code_word (m := ⟨1, 2⟩) (meth := k1m2) (c := k1c2) (by decide +kernel) rfl rfl rfl (by decide +kernel)
set_option maxRecDepth 65536 in
theorem w_c23 : (Jvm.Cond.code ({ cls := "java/util/Optional", name := "of", desc := "(Ljava/lang/Object;)Ljava/util/Optional;" } : Jvm.MethodName) jdk_32_method_3_code (1 : Nat) (Option.some (Jvm.ClassFile.FieldType.object "java/util/Optional"))).before args0 about1 = true := code_word (m := ⟨14, 2⟩) (meth := k14m2) (c := k14c2) (by decide +kernel) rfl rfl rfl (by decide +kernel)
set_option maxRecDepth 65536 in
theorem w_c24 : (Jvm.Cond.code ({ cls := "java/util/Objects", name := "requireNonNull", desc := "(Ljava/lang/Object;)Ljava/lang/Object;" } : Jvm.MethodName) jdk_31_method_10_code (1 : Nat) (Option.some (Jvm.ClassFile.FieldType.object "java/lang/Object"))).before args0 about1 = true := code_word (m := ⟨15, 1⟩) (meth := k15m1) (c := k15c1) (by decide +kernel) rfl rfl rfl (by decide +kernel)
set_option maxRecDepth 65536 in
theorem w_c25 : (Jvm.Cond.code ({ cls := "java/util/Optional", name := "<init>", desc := "(Ljava/lang/Object;)V" } : Jvm.MethodName) jdk_32_method_2_code (2 : Nat) (Option.none : Option Jvm.ClassFile.FieldType)).before args0 about1 = true := code_word (m := ⟨14, 1⟩) (meth := k14m1) (c := k14c1) (by decide +kernel) rfl rfl rfl (by decide +kernel)
def codes1 : List Jvm.Cond := [Jvm.Cond.code x code maxLocals ret, Jvm.Cond.code ({ cls := "com/example/tenantd/tenantd/RoleTypeOfTextPinLaw", name := "lit", desc := "(I)Ljava/lang/String;" } : Jvm.MethodName) method_2_code (1 : Nat) (Option.some (Jvm.ClassFile.FieldType.object "java/lang/String")), Jvm.Cond.code ({ cls := "java/lang/String", name := "length", desc := "()I" } : Jvm.MethodName) jdk_42_method_54_code (1 : Nat) (Option.some Jvm.ClassFile.FieldType.int), Jvm.Cond.code ({ cls := "java/lang/String", name := "coder", desc := "()B" } : Jvm.MethodName) jdk_42_method_152_code (1 : Nat) (Option.some Jvm.ClassFile.FieldType.byte), Jvm.Cond.code ({ cls := "com/example/tenantd/tenantd/RoleTypeOfTextPinLaw", name := "ch", desc := "(Ljava/lang/String;IIICI)C" } : Jvm.MethodName) method_4_code (6 : Nat) (Option.some Jvm.ClassFile.FieldType.char), Jvm.Cond.code ({ cls := "java/lang/String", name := "charAt", desc := "(I)C" } : Jvm.MethodName) jdk_42_method_56_code (2 : Nat) (Option.some Jvm.ClassFile.FieldType.char), Jvm.Cond.code ({ cls := "java/lang/String", name := "isLatin1", desc := "()Z" } : Jvm.MethodName) jdk_42_method_154_code (1 : Nat) (Option.some Jvm.ClassFile.FieldType.boolean), Jvm.Cond.code ({ cls := "java/lang/StringLatin1", name := "charAt", desc := "([BI)C" } : Jvm.MethodName) jdk_43_method_2_code (2 : Nat) (Option.some Jvm.ClassFile.FieldType.char), Jvm.Cond.code ({ cls := "java/lang/String", name := "checkIndex", desc := "(II)V" } : Jvm.MethodName) jdk_42_method_155_code (2 : Nat) (Option.none : Option Jvm.ClassFile.FieldType), Jvm.Cond.code ({ cls := "jdk/internal/util/Preconditions", name := "checkIndex", desc := "(IILjava/util/function/BiFunction;)I" } : Jvm.MethodName) jdk_41_method_11_code (3 : Nat) (Option.some Jvm.ClassFile.FieldType.int), Jvm.Cond.code ({ cls := "java/lang/String", name := "<init>", desc := "([C)V" } : Jvm.MethodName) jdk_42_method_3_code (2 : Nat) (Option.none : Option Jvm.ClassFile.FieldType), Jvm.Cond.code ({ cls := "java/lang/String", name := "<init>", desc := "([CIILjava/lang/Void;)V" } : Jvm.MethodName) jdk_42_method_149_code (6 : Nat) (Option.none : Option Jvm.ClassFile.FieldType), Jvm.Cond.code ({ cls := "java/lang/Object", name := "<init>", desc := "()V" } : Jvm.MethodName) object_method_1_code (1 : Nat) (Option.none : Option Jvm.ClassFile.FieldType), Jvm.Cond.code ({ cls := "java/lang/StringUTF16", name := "compress", desc := "([CII)[B" } : Jvm.MethodName) jdk_52_method_16_code (6 : Nat) (Option.some (Jvm.ClassFile.FieldType.array Jvm.ClassFile.FieldType.byte)), Jvm.Cond.code ({ cls := "java/lang/StringUTF16", name := "compress", desc := "([CI[BII)I" } : Jvm.MethodName) jdk_52_method_21_code (7 : Nat) (Option.some Jvm.ClassFile.FieldType.int), Jvm.Cond.code ({ cls := "java/lang/StringUTF16", name := "coderFromArrayLen", desc := "([BI)B" } : Jvm.MethodName) jdk_52_method_15_code (2 : Nat) (Option.some Jvm.ClassFile.FieldType.byte), Jvm.Cond.code ({ cls := "com/example/tenantd/tenantd/RoleType", name := "ofText", desc := "(Ljava/lang/String;)Ljava/util/Optional;" } : Jvm.MethodName) prog_11_method_8_code (5 : Nat) (Option.some (Jvm.ClassFile.FieldType.object "java/util/Optional")), Jvm.Cond.code ({ cls := "com/example/tenantd/tenantd/RoleType", name := "values", desc := "()[Lcom/example/tenantd/tenantd/RoleType;" } : Jvm.MethodName) prog_11_method_1_code (0 : Nat) (Option.some (Jvm.ClassFile.FieldType.array (Jvm.ClassFile.FieldType.object "com/example/tenantd/tenantd/RoleType"))), Jvm.Cond.code ({ cls := "java/lang/String", name := "equals", desc := "(Ljava/lang/Object;)Z" } : Jvm.MethodName) jdk_42_method_66_code (3 : Nat) (Option.some Jvm.ClassFile.FieldType.boolean), Jvm.Cond.code ({ cls := "java/lang/StringLatin1", name := "equals", desc := "([B[B)Z" } : Jvm.MethodName) jdk_43_method_13_code (3 : Nat) (Option.some Jvm.ClassFile.FieldType.boolean), Jvm.Cond.code ({ cls := "java/util/Optional", name := "empty", desc := "()Ljava/util/Optional;" } : Jvm.MethodName) jdk_32_method_1_code (1 : Nat) (Option.some (Jvm.ClassFile.FieldType.object "java/util/Optional")), Jvm.Cond.code ({ cls := "java/util/Optional", name := "orElse", desc := "(Ljava/lang/Object;)Ljava/lang/Object;" } : Jvm.MethodName) jdk_32_method_15_code (2 : Nat) (Option.some (Jvm.ClassFile.FieldType.object "java/lang/Object")), Jvm.Cond.code ({ cls := "com/example/tenantd/tenantd/RoleTypeOfTextPinLaw", name := "type", desc := "(I)Lcom/example/tenantd/tenantd/RoleType;" } : Jvm.MethodName) method_3_code (1 : Nat) (Option.some (Jvm.ClassFile.FieldType.object "com/example/tenantd/tenantd/RoleType")), Jvm.Cond.code ({ cls := "java/util/Optional", name := "of", desc := "(Ljava/lang/Object;)Ljava/util/Optional;" } : Jvm.MethodName) jdk_32_method_3_code (1 : Nat) (Option.some (Jvm.ClassFile.FieldType.object "java/util/Optional")), Jvm.Cond.code ({ cls := "java/util/Objects", name := "requireNonNull", desc := "(Ljava/lang/Object;)Ljava/lang/Object;" } : Jvm.MethodName) jdk_31_method_10_code (1 : Nat) (Option.some (Jvm.ClassFile.FieldType.object "java/lang/Object")), Jvm.Cond.code ({ cls := "java/util/Optional", name := "<init>", desc := "(Ljava/lang/Object;)V" } : Jvm.MethodName) jdk_32_method_2_code (2 : Nat) (Option.none : Option Jvm.ClassFile.FieldType)]
set_option maxRecDepth 65536 in
theorem codes_eq : words1.filter isCode = codes1 := rfl
theorem w_codes : ∀ c ∈ words1.filter isCode, c.before args0 about1 = true := by
  rw [codes_eq]
  intro c hc
  simp only [codes1, List.mem_cons, List.not_mem_nil, or_false] at hc
  rcases hc with rfl | rfl | rfl | rfl | rfl | rfl | rfl | rfl | rfl | rfl | rfl | rfl | rfl | rfl | rfl | rfl | rfl | rfl | rfl | rfl | rfl | rfl | rfl | rfl | rfl | rfl
  · exact w_c0
  · exact w_c1
  · exact w_c2
  · exact w_c3
  · exact w_c4
  · exact w_c5
  · exact w_c6
  · exact w_c7
  · exact w_c8
  · exact w_c9
  · exact w_c10
  · exact w_c11
  · exact w_c12
  · exact w_c13
  · exact w_c14
  · exact w_c15
  · exact w_c16
  · exact w_c17
  · exact w_c18
  · exact w_c19
  · exact w_c20
  · exact w_c21
  · exact w_c22
  · exact w_c23
  · exact w_c24
  · exact w_c25
set_option maxRecDepth 65536 in
theorem w_t1 : (words1.take 24).all (fun c => isCode c || c.before args0 about1) = true := by decide +kernel
set_option maxRecDepth 65536 in
theorem w_t2 : ((words1.drop 24).take 24).all (fun c => isCode c || c.before args0 about1) = true := by decide +kernel
set_option maxRecDepth 65536 in
theorem w_t3 : (((words1.drop 24).drop 24).take 24).all (fun c => isCode c || c.before args0 about1) = true := by decide +kernel
set_option maxRecDepth 65536 in
theorem w_t4 : ((((words1.drop 24).drop 24).drop 24).take 24).all (fun c => isCode c || c.before args0 about1) = true := by decide +kernel
set_option maxRecDepth 65536 in
theorem w_t5 : (((((words1.drop 24).drop 24).drop 24).drop 24).take 24).all (fun c => isCode c || c.before args0 about1) = true := by decide +kernel
set_option maxRecDepth 65536 in
theorem w_t6 : ((((((words1.drop 24).drop 24).drop 24).drop 24).drop 24).take 24).all (fun c => isCode c || c.before args0 about1) = true := by decide +kernel
set_option maxRecDepth 65536 in
theorem w_t7 : ((((((words1.drop 24).drop 24).drop 24).drop 24).drop 24).drop 24).all (fun c => isCode c || c.before args0 about1) = true := by decide +kernel
theorem w_tables : (allAtoms (Jvm.Cond.code x code maxLocals ret :: tables_1)).before args0 about1 = true := by
  rw [allAtoms_all]
  show words1.all (fun c => c.before args0 about1) = true
  refine all_split ?_ w_codes
  rw [← List.take_append_drop 24 words1, List.all_append, w_t1, ← List.take_append_drop 24 (words1.drop 24), List.all_append, w_t2, ← List.take_append_drop 24 ((words1.drop 24).drop 24), List.all_append, w_t3, ← List.take_append_drop 24 (((words1.drop 24).drop 24).drop 24), List.all_append, w_t4, ← List.take_append_drop 24 ((((words1.drop 24).drop 24).drop 24).drop 24), List.all_append, w_t5, ← List.take_append_drop 24 (((((words1.drop 24).drop 24).drop 24).drop 24).drop 24), List.all_append, w_t6, w_t7]
  rfl
set_option maxRecDepth 65536 in
theorem w_rest : rest_1_c.before args0 about1 = true := by decide +kernel
set_option maxRecDepth 65536 in
theorem w_case : (Jvm.Cond.and given_1 narrow_1).before args0 about1 = true := by decide +kernel
set_option maxRecDepth 65536 in
theorem w_consts : constsHeld consts_1 about1 := Jvm.Lit.constsHeldB_iff.mp (by decide +kernel)
theorem w_applies : (headSpec (Jvm.Cond.code x code maxLocals ret :: tables_1) room_1).applies x e0.platform about1 = true :=
  (Spec.applies_iff w_frames).mpr ⟨w_running, w_runnable, w_alone, w_named, w_hears, w_ripe, w_room, w_tables⟩
theorem atStart : AtStart classFile x code maxLocals ret World_1 tables_1 room_1 Calls_1 rest_1 Pre_1 launch0 p0 e0 about1 theMethod args0 below0 :=
  ⟨lists_1, trivial, launch0.admits_env _ _ _, launch0.least_env, fairChoices_fair.cas, fairChoices_fair.clock, w_frames, w_args, w_heap, w_applies, ⟨w_consts, trivial⟩, w_rest, w_case⟩
end start1
theorem witness_1 : WitnessClaimed_1 := ⟨start1.p0, start1.e0, start1.about1, start1.theMethod, start1.args0, start1.below0, start1.atStart⟩
end Jvm.Pilot.@@N@@
