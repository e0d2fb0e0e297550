import JvmDerived
import JvmDerived.Pilot.@@N@@Statement
import JvmDerived.Pilot.@@N@@Code
set_option linter.unusedVariables false
set_option linter.unusedSimpArgs false
@@BLOCK:NumsL.lean.txt@@
/- laws to paste: Road.backV, Road.eqW, Road.lenW, Road.codOf, pair_says, shr0 (cut by pick.py; bodies as the Statement names them) -/
namespace Jvm.Pilot.@@N@@
namespace StrChars
open Jvm Sem ClassFile Op Lib Jvm.Stand Jvm.Free.XT Jvm.Free.ALB Jvm.Free.JM Jvm.Free
open Jvm.Lib.Cold (StaticIs)
/-- a char array whose places are chars -/
def Ch (a : Addr) (A : Cell) (U : State) : Prop := Arr .char a A U ∧ Typed .char A
theorem Ch.mv {a : Addr} {A : Cell} {U U' : State} (h : Ch a A U) (hal : U.vm.Alike U'.vm) (hh : U'.heap = U.heap) : Ch a A U' := ⟨h.1.mv hal hh, h.2⟩
theorem Ch.keep {a : Addr} {A : Cell} {U U' : State} (h : Ch a A U) (hal : U.vm.Alike U'.vm) (hk : U'.heap[a]? = some A) : Ch a A U' := ⟨h.1.keep hal hk, h.2⟩
/-- what place i of a char[]'s cell holds -/
def cv (A : Cell) (i : Nat) : Int32 := match A.slots[i]? with | some (.int x) => x | _ => 0
theorem Ch.get {a : Addr} {A : Cell} {U : State} (h : Ch a A U) {i : Nat} (hi : i < A.slots.size) : A.slots[i]? = some (.int (cv A i)) := by
  have e := Array.getElem?_eq_getElem hi
  have f := h.2 i _ e
  unfold cv; rw [e]
  generalize A.slots[i] = v at f
  cases v <;> simp [fits] at f ⊢
/-- the byte that i2b leaves of a char -/
def lo8 (x : Int32) : Int32 := x.toInt8.toInt32
theorem fits_lo8 (y : Int32) : fits .byte (.int (lo8 y)) = true := by
  have h1 := y.toInt8.le_toInt
  have h2 := y.toInt8.toInt_lt
  simp only [lo8, fits, Bool.and_eq_true, decide_eq_true_eq, Int32.le_iff_toInt_le, Int8.toInt_toInt32, show (-128 : Int32).toInt = -128 from by decide, show (127 : Int32).toInt = 127 from by decide]
  omega
/-- A' is A but that each place j of lo .. hi - 1 holds f j -/
def Laid (A A' : Cell) (lo hi : Nat) (f : Nat → Value) : Prop := A'.cls = A.cls ∧ A'.vm = A.vm ∧ A'.slots.size = A.slots.size ∧ ∀ i, A'.slots[i]? = if lo ≤ i ∧ i < hi then some (f i) else A.slots[i]?
theorem Laid.zero (A : Cell) (lo : Nat) (f : Nat → Value) : Laid A A lo (lo + 0) f := ⟨rfl, rfl, rfl, fun i => by rw [if_neg (by omega)]⟩
theorem Laid.step {A Ak : Cell} {lo k : Nat} {f : Nat → Value} {v : Value} (h : Laid A Ak lo k f) (hlo : lo ≤ k) (hk : k < Ak.slots.size) (hv : v = f k) : Laid A (Ak.setSlot k v) lo (k + 1) f := by
  refine ⟨h.1, h.2.1, by simpa [Cell.setSlot] using h.2.2.1, fun i => ?_⟩
  by_cases e : k = i
  · subst e; rw [Cell.slots_setSlot_self v hk, if_pos (by omega), hv]
  · rw [Cell.slots_setSlot_ne v e, h.2.2.2 i]
    by_cases q : lo ≤ i ∧ i < k
    · rw [if_pos q, if_pos (by omega)]
    · rw [if_neg q, if_neg (by omega)]
def U16 : String := "java/lang/StringUTF16"
namespace Cmp5
def yN : MethodName := ⟨"java/lang/StringUTF16", "compress", "([CI[BII)I"⟩
abbrev yB : ByteArray := jdk_52_method_21_code
theorem d0 : decode yB 0 = .ok (.iconst 0, 1) := by decide +kernel
theorem d1 : decode yB 1 = .ok (.istore 5, 2) := by decide +kernel
theorem d3 : decode yB 3 = .ok (.iload 5, 2) := by decide +kernel
theorem d5 : decode yB 5 = .ok (.iload 4, 2) := by decide +kernel
theorem d7 : decode yB 7 = .ok (.if_icmp (.ge) 37, 3) := by decide +kernel
theorem d10 : decode yB 10 = .ok (.aload_n 0, 1) := by decide +kernel
theorem d11 : decode yB 11 = .ok (.iload_n 1, 1) := by decide +kernel
theorem d12 : decode yB 12 = .ok (.caload, 1) := by decide +kernel
theorem d13 : decode yB 13 = .ok (.istore 6, 2) := by decide +kernel
theorem d15 : decode yB 15 = .ok (.iload 6, 2) := by decide +kernel
theorem d17 : decode yB 17 = .ok (.sipush 255, 3) := by decide +kernel
theorem d20 : decode yB 20 = .ok (.if_icmp (.le) 6, 3) := by decide +kernel
theorem d26 : decode yB 26 = .ok (.aload_n 2, 1) := by decide +kernel
theorem d27 : decode yB 27 = .ok (.iload_n 3, 1) := by decide +kernel
theorem d28 : decode yB 28 = .ok (.iload 6, 2) := by decide +kernel
theorem d30 : decode yB 30 = .ok (.i2b, 1) := by decide +kernel
theorem d31 : decode yB 31 = .ok (.bastore, 1) := by decide +kernel
theorem d32 : decode yB 32 = .ok (.iinc 1 1, 3) := by decide +kernel
theorem d35 : decode yB 35 = .ok (.iinc 3 1, 3) := by decide +kernel
theorem d38 : decode yB 38 = .ok (.iinc 5 1, 3) := by decide +kernel
theorem d41 : decode yB 41 = .ok (.goto (-38), 3) := by decide +kernel
theorem d44 : decode yB 44 = .ok (.iload 4, 2) := by decide +kernel
theorem d46 : decode yB 46 = .ok (.ireturn, 1) := by decide +kernel
def site : List Cond := []
def tab : Cond := tabOf yN yB 7 (some .int) site
def P (b : Addr) (A : Cell) (d : Addr) (B : Cell) (o q len : Nat) (args : Array Value) (s : State) : Prop := args = #[.ref b, .int (Int32.ofNat o), .ref d, .int (Int32.ofNat q), .int (Int32.ofNat len)] ∧ Ch b A s ∧ Arr .byte d B s ∧ b ≠ d ∧ o + len ≤ A.slots.size ∧ q + len ≤ B.slots.size ∧ ∀ i, i < len → ¬ 255 < cv A (o + i)
def E (b : Addr) (A : Cell) (d : Addr) (B : Cell) (o q len : Nat) (r : Option Value) (s u : State) : Prop := r = some (.int (Int32.ofNat len)) ∧ ∃ B', Put d B' s u ∧ Laid B B' q (q + len) (fun j => Value.int (lo8 (cv A (o + (j - q)))))
/-- no char of the range above 255: len; the places written hold each char's low byte -/
theorem law (l : Launch) (b : Addr) (A : Cell) (d : Addr) (B : Cell) (o q len : Nat) : Law l yN 5 5 0 0 yB 7 (some .int) site (P b A d B o q len) (E b A d B o q len) (copyLocs d q len) 0 0 := by
  refine Law.of_walk (plainFor_of_name (by decide +kernel)) (by decide +kernel) (by decide +kernel) (by decide) (fun _ _ h => by rw [h.1]; rfl) (fun _ U U' hal hh h => ⟨h.1, h.2.1.mv hal hh, h.2.2.1.mv hal hh, h.2.2.2⟩) (fun r U U' V V' h1 hal h2 h => ⟨h.1, h.2.elim fun B' q => ⟨B', q.1.mv h1 h2, q.2⟩⟩) ?_
  intro p e s m args below meth c s₁ X0 hexec hbytes hml hret hlk hnm hown hh0 W hP
  obtain ⟨rfl, hA, hB, hne, l1, l2, hp⟩ := hP
  have c1 : Steps p.tables e below (s₁.setTop (entryFrame m #[.ref b, .int (Int32.ofNat o), .ref d, .int (Int32.ofNat q), .int (Int32.ofNat len)] 7)) (s₁.setTop (mkF m 0 #[.val (.ref b), .val (.int (Int32.ofNat o)), .val (.ref d), .val (.int (Int32.ofNat q)), .val (.int (Int32.ofNat len)), .unset, .unset] [])) := entry rfl
  have hA0 := hA.1.mv X0.warmed.alike hh0
  have hB0 := hB.mv X0.warmed.alike hh0
  have a31 := hA.1.2.2.2
  have c2 : Steps p.tables e below (s₁.setTop (entryFrame m #[.ref b, .int (Int32.ofNat o), .ref d, .int (Int32.ofNat q), .int (Int32.ofNat len)] 7)) (s₁.setTop (mkF m 3 #[.val (.ref b), .val (.int (Int32.ofNat o)), .val (.ref d), .val (.int (Int32.ofNat q)), .val (.int (Int32.ofNat len)), .val (.int 0), .unset] [])) := c1.trans (by
    refine iconstV X0.here hexec rfl 0 (hb hbytes d0) (by decide) ?_
    refine XS.istore X0.here hexec rfl (hb hbytes d1) rfl rfl ?_
    exact Steps.refl _)
  have loop : ∀ (r i : Nat), i + r = len → ∀ (z : Slot), (z = .unset ∨ ∃ w, z = .val w ∧ w.category = 1) → ∀ (Tl : State) (Bk : Cell), Stand p l e { frames := 0, locals := 0, cells := 0, slots := 0 } s m #[.ref b, .int (Int32.ofNat o), .ref d, .int (Int32.ofNat q), .int (Int32.ofNat len)] below meth c Tl ([] ++ copyLocs d q i) 0 0 → Put d Bk s₁ Tl → Laid B Bk q (q + i) (fun j => Value.int (lo8 (cv A (o + (j - q))))) →
      Steps p.tables e below (s₁.setTop (entryFrame m #[.ref b, .int (Int32.ofNat o), .ref d, .int (Int32.ofNat q), .int (Int32.ofNat len)] 7)) (Tl.setTop (mkF m 3 #[.val (.ref b), .val (.int (Int32.ofNat (o + i))), .val (.ref d), .val (.int (Int32.ofNat (q + i))), .val (.int (Int32.ofNat len)), .val (.int (Int32.ofNat i)), z] [])) → ∃ (T' : State) (B' : Cell) (z' : Slot), Stand p l e { frames := 0, locals := 0, cells := 0, slots := 0 } s m #[.ref b, .int (Int32.ofNat o), .ref d, .int (Int32.ofNat q), .int (Int32.ofNat len)] below meth c T' ([] ++ copyLocs d q len) 0 0 ∧ Put d B' s₁ T' ∧ Laid B B' q (q + len) (fun j => Value.int (lo8 (cv A (o + (j - q))))) ∧
      Steps p.tables e below (s₁.setTop (entryFrame m #[.ref b, .int (Int32.ofNat o), .ref d, .int (Int32.ofNat q), .int (Int32.ofNat len)] 7)) (T'.setTop (mkF m 3 #[.val (.ref b), .val (.int (Int32.ofNat (o + len))), .val (.ref d), .val (.int (Int32.ofNat (q + len))), .val (.int (Int32.ofNat len)), .val (.int (Int32.ofNat len)), z'] [])) := by
    intro r
    induction r with
    | zero =>
      intro i hi z hz Tl Bk Xl pl fl cl
      have hil : i = len := by omega
      rw [hil] at Xl fl cl
      exact ⟨Tl, Bk, z, Xl, pl, fl, cl⟩
    | succ r ih =>
      intro i hi z hz Tl Bk Xl pl fl cl
      have all := X0.warmed.alike.symm.trans Xl.warmed.alike
      have hAl := hA0.keep all (pl.other hne hA0.1)
      have hBk := hB0.like all pl.1 fl.1 fl.2.1 fl.2.2.1
      have hlt : q + i < Bk.slots.size := by rw [fl.2.2.1]; omega
      have c3 : Steps p.tables e below (s₁.setTop (entryFrame m #[.ref b, .int (Int32.ofNat o), .ref d, .int (Int32.ofNat q), .int (Int32.ofNat len)] 7)) (Tl.setTop (mkF m 12 #[.val (.ref b), .val (.int (Int32.ofNat (o + i))), .val (.ref d), .val (.int (Int32.ofNat (q + i))), .val (.int (Int32.ofNat len)), .val (.int (Int32.ofNat i)), z] [.int (Int32.ofNat (o + i)), .ref b])) := cl.trans (by
        refine XS.iload Xl.here hexec rfl (hb hbytes d3) rfl ?_
        refine XS.iload Xl.here hexec rfl (hb hbytes d5) rfl ?_
        refine XS.icmpNo Xl.here hexec rfl (hb hbytes d7) rfl (ii_ge_f (lt32 (by omega) (by omega))) ?_
        refine XS.aloadN Xl.here hexec rfl (hb hbytes d10) rfl rfl ?_
        refine XS.iloadN Xl.here hexec rfl (hb hbytes d11) rfl ?_
        exact Steps.refl _)
      have c4 : Steps p.tables e below (s₁.setTop (entryFrame m #[.ref b, .int (Int32.ofNat o), .ref d, .int (Int32.ofNat q), .int (Int32.ofNat len)] 7)) (Tl.setTop (mkF m 13 #[.val (.ref b), .val (.int (Int32.ofNat (o + i))), .val (.ref d), .val (.int (Int32.ofNat (q + i))), .val (.int (Int32.ofNat len)), .val (.int (Int32.ofNat i)), z] [.int (cv A (o + i))])) := c3.trans (by
        refine Xl.aget hexec hAl rfl (hA.get (i := o + i) (by omega)) rfl rfl (hb hbytes d12) ?_
        exact Steps.refl _)
      have c5 : Steps p.tables e below (s₁.setTop (entryFrame m #[.ref b, .int (Int32.ofNat o), .ref d, .int (Int32.ofNat q), .int (Int32.ofNat len)] 7)) (Tl.setTop (mkF m 15 #[.val (.ref b), .val (.int (Int32.ofNat (o + i))), .val (.ref d), .val (.int (Int32.ofNat (q + i))), .val (.int (Int32.ofNat len)), .val (.int (Int32.ofNat i)), .val (.int (cv A (o + i)))] [])) := c4.trans (by
        refine XS.istoreS Xl.here hexec rfl (hb hbytes d13) rfl rfl hz ?_
        exact Steps.refl _)
      have c6 : Steps p.tables e below (s₁.setTop (entryFrame m #[.ref b, .int (Int32.ofNat o), .ref d, .int (Int32.ofNat q), .int (Int32.ofNat len)] 7)) (Tl.setTop (mkF m 31 #[.val (.ref b), .val (.int (Int32.ofNat (o + i))), .val (.ref d), .val (.int (Int32.ofNat (q + i))), .val (.int (Int32.ofNat len)), .val (.int (Int32.ofNat i)), .val (.int (cv A (o + i)))] [.int (lo8 (cv A (o + i))), .int (Int32.ofNat (q + i)), .ref d])) := c5.trans (by
        refine XS.iload Xl.here hexec rfl (hb hbytes d15) rfl ?_
        refine sipushV Xl.here hexec rfl 255 (hb hbytes d17) (by decide) ?_
        refine XS.icmpYes Xl.here hexec rfl (pc0 := 20) rfl (hb hbytes d20) rfl (ii_le_t (hp i (by omega))) (by decide) rfl ?_
        refine XS.aloadN Xl.here hexec rfl (hb hbytes d26) rfl rfl ?_
        refine XS.iloadN Xl.here hexec rfl (hb hbytes d27) rfl ?_
        refine XS.iload Xl.here hexec rfl (hb hbytes d28) rfl ?_
        refine i2b Xl.here hexec rfl (hb hbytes d30) rfl ?_
        exact Steps.refl _)
      obtain ⟨T7, X7, p7, st7⟩ := Xl.aput hexec hBk rfl hlt rfl (fits_lo8 (cv A (o + i))) (g := (mkF m 31 #[.val (.ref b), .val (.int (Int32.ofNat (o + i))), .val (.ref d), .val (.int (Int32.ofNat (q + i))), .val (.int (Int32.ofNat len)), .val (.int (Int32.ofNat i)), .val (.int (cv A (o + i)))] [.int (lo8 (cv A (o + i))), .int (Int32.ofNat (q + i)), .ref d])) rfl (rest := []) rfl (hb hbytes d31)
      have c8 : Steps p.tables e below (s₁.setTop (entryFrame m #[.ref b, .int (Int32.ofNat o), .ref d, .int (Int32.ofNat q), .int (Int32.ofNat len)] 7)) (T7.setTop (mkF m 32 #[.val (.ref b), .val (.int (Int32.ofNat (o + i))), .val (.ref d), .val (.int (Int32.ofNat (q + i))), .val (.int (Int32.ofNat len)), .val (.int (Int32.ofNat i)), .val (.int (cv A (o + i)))] [])) := c6.trans (st7 _ (Steps.refl _))
      have c9 : Steps p.tables e below (s₁.setTop (entryFrame m #[.ref b, .int (Int32.ofNat o), .ref d, .int (Int32.ofNat q), .int (Int32.ofNat len)] 7)) (T7.setTop (mkF m 3 #[.val (.ref b), .val (.int (Int32.ofNat (o + i) + 1)), .val (.ref d), .val (.int (Int32.ofNat (q + i) + 1)), .val (.int (Int32.ofNat len)), .val (.int (Int32.ofNat i + 1)), .val (.int (cv A (o + i)))] [])) := c8.trans (by
        refine iincV X7.here hexec rfl 1 (hb hbytes d32) (by decide) rfl rfl ?_
        refine iincV X7.here hexec rfl 1 (hb hbytes d35) (by decide) rfl rfl ?_
        refine iincV X7.here hexec rfl 1 (hb hbytes d38) (by decide) rfl rfl ?_
        refine XS.goto X7.here hexec rfl (pc0 := 41) rfl (hb hbytes d41) (by decide) rfl ?_
        exact Steps.refl _)
      have c10 : Steps p.tables e below (s₁.setTop (entryFrame m #[.ref b, .int (Int32.ofNat o), .ref d, .int (Int32.ofNat q), .int (Int32.ofNat len)] 7)) (T7.setTop (mkF m 3 #[.val (.ref b), .val (.int (Int32.ofNat (o + (i + 1)))), .val (.ref d), .val (.int (Int32.ofNat (q + (i + 1)))), .val (.int (Int32.ofNat len)), .val (.int (Int32.ofNat (i + 1))), .val (.int (cv A (o + i)))] [])) := by
        have := c9
        rw [succ32, succ32, succ32] at this
        exact this
      exact ih (i + 1) (by omega) _ (Or.inr ⟨_, rfl, rfl⟩) T7 _ (by rw [copyLocs_step, ← List.append_assoc]; exact X7) (pl.trans p7) (fl.step (by omega) hlt (by simp)) c10
  obtain ⟨T9, B9, z9, X9, p9, f9, g9⟩ := loop len 0 (by omega) .unset (Or.inl rfl) s₁ B (by simpa [copyLocs] using X0) ⟨hB0.1, fun _ _ => rfl, rfl⟩ (Laid.zero _ _ _) c2
  have c11 : Steps p.tables e below (s₁.setTop (entryFrame m #[.ref b, .int (Int32.ofNat o), .ref d, .int (Int32.ofNat q), .int (Int32.ofNat len)] 7)) (T9.setTop (mkF m 46 #[.val (.ref b), .val (.int (Int32.ofNat (o + len))), .val (.ref d), .val (.int (Int32.ofNat (q + len))), .val (.int (Int32.ofNat len)), .val (.int (Int32.ofNat len)), z9] [.int (Int32.ofNat len)])) := g9.trans (by
    refine XS.iload X9.here hexec rfl (hb hbytes d3) rfl ?_
    refine XS.iload X9.here hexec rfl (hb hbytes d5) rfl ?_
    refine XS.icmpYes X9.here hexec rfl (pc0 := 7) rfl (hb hbytes d7) rfl (ii_ge_t (nlt32 (by omega) (Nat.le_refl _))) (by decide) rfl ?_
    refine XS.iload X9.here hexec rfl (hb hbytes d44) rfl ?_
    exact Steps.refl _)
  exact ⟨T9, some (.int (Int32.ofNat len)), _, _, _, X9, by simp, rfl, rfl, (fun h => by cases h), ⟨rfl, B9, p9.from hh0, f9⟩, fun fs hl => c11.trans (X9.ireturnOut hexec hret rfl (Or.inl rfl) (hb hbytes d46) hl)⟩
end Cmp5
namespace Cmp3
def yN : MethodName := ⟨"java/lang/StringUTF16", "compress", "([CII)[B"⟩
abbrev yB : ByteArray := jdk_52_method_16_code
theorem d0 : decode yB 0 = .ok (.iload_n 2, 1) := by decide +kernel
theorem d1 : decode yB 1 = .ok (.newarray .byte, 2) := by decide +kernel
theorem d3 : decode yB 3 = .ok (.astore_n 3, 1) := by decide +kernel
theorem d4 : decode yB 4 = .ok (.aload_n 0, 1) := by decide +kernel
theorem d5 : decode yB 5 = .ok (.iload_n 1, 1) := by decide +kernel
theorem d6 : decode yB 6 = .ok (.aload_n 3, 1) := by decide +kernel
theorem d7 : decode yB 7 = .ok (.iconst 0, 1) := by decide +kernel
theorem d8 : decode yB 8 = .ok (.iload_n 2, 1) := by decide +kernel
theorem d9 : decode yB 9 = .ok (.invokestatic 115, 3) := by decide +kernel
theorem d12 : decode yB 12 = .ok (.istore 4, 2) := by decide +kernel
theorem d14 : decode yB 14 = .ok (.iload 4, 2) := by decide +kernel
theorem d16 : decode yB 16 = .ok (.iload_n 2, 1) := by decide +kernel
theorem d17 : decode yB 17 = .ok (.if_icmp (.eq) 40, 3) := by decide +kernel
theorem d57 : decode yB 57 = .ok (.aload_n 3, 1) := by decide +kernel
theorem d58 : decode yB 58 = .ok (.areturn, 1) := by decide +kernel
def site : List Cond := [.arrayClass .byte, Cmp5.tab] ++ staticW U16 115 Cmp5.yN
def tab : Cond := tabOf yN yB 6 (some (.array .byte)) site
def P (b : Addr) (A : Cell) (o len : Nat) (args : Array Value) (s : State) : Prop := args = #[.ref b, .int (Int32.ofNat o), .int (Int32.ofNat len)] ∧ Ch b A s ∧ o + len ≤ A.slots.size ∧ len ≤ 536870912 ∧ ∀ i, i < len → ¬ 255 < cv A (o + i)
def E (b : Addr) (A : Cell) (o len : Nat) (r : Option Value) (s u : State) : Prop := NewArr .byte "[B" len (fun j => .int (lo8 (cv A (o + j)))) r s u ∧ u.heap.size = s.heap.size + 1
/-- no char of the range above 255: a new byte[] of their low bytes -/
theorem law (l : Launch) (b : Addr) (A : Cell) (o len : Nat) : Law l yN 3 3 1 18 yB 6 (some (.array .byte)) site (P b A o len) (E b A o len) [] 1 len := by
  refine Law.of_walk (plainFor_of_name (by decide +kernel)) (by decide +kernel) (by decide +kernel) (by decide) (fun _ _ h => by rw [h.1]; rfl) (fun _ U U' hal hh h => ⟨h.1, h.2.1.mv hal hh, h.2.2⟩) (fun r U U' V V' h1 hal h2 h => ⟨NewArr.mv r U U' V V' h1 hal h2 h.1, by rw [h1, h2]; exact h.2⟩) ?_
  intro p e s m args below meth c s₁ X0 hexec hbytes hml hret hlk hnm hown hh0 W hP
  obtain ⟨rfl, hA, l1, l2, hp⟩ := hP
  have a31 := hA.1.2.2.2
  have c1 : Steps p.tables e below (s₁.setTop (entryFrame m #[.ref b, .int (Int32.ofNat o), .int (Int32.ofNat len)] 6)) (s₁.setTop (mkF m 0 #[.val (.ref b), .val (.int (Int32.ofNat o)), .val (.int (Int32.ofNat len)), .unset, .unset, .unset] [])) := entry rfl
  have c2 : Steps p.tables e below (s₁.setTop (entryFrame m #[.ref b, .int (Int32.ofNat o), .int (Int32.ofNat len)] 6)) (s₁.setTop (mkF m 1 #[.val (.ref b), .val (.int (Int32.ofNat o)), .val (.int (Int32.ofNat len)), .unset, .unset, .unset] [.int (Int32.ofNat len)])) := c1.trans (by
    refine XS.iloadN X0.here hexec rfl (hb hbytes d0) rfl ?_
    exact Steps.refl _)
  obtain ⟨T3, B3, X3, ba3, bs3, bv3, bh3, bf3, st3⟩ := X0.anew hexec (atype := .byte) (wk W (.arrayClass .byte)) rfl (by show len * 1 ≤ _; omega) (by omega) (g := (mkF m 1 #[.val (.ref b), .val (.int (Int32.ofNat o)), .val (.int (Int32.ofNat len)), .unset, .unset, .unset] [.int (Int32.ofNat len)])) rfl (hb hbytes d1) (rest := []) rfl (Nat.le_refl _) (by show 0 + len ≤ len; omega)
  rw [hh0] at ba3 st3
  have kp3 : XT.Kept s T3 := (XT.Kept.of_eq hh0).push bh3
  have hA3 := hA.keep X3.warmed.alike (kp3 _ _ hA.1.1)
  have hne : b ≠ s.heap.size := hA.1.ne
  have c4 : Steps p.tables e below (s₁.setTop (entryFrame m #[.ref b, .int (Int32.ofNat o), .int (Int32.ofNat len)] 6)) (T3.setTop (mkF m 3 #[.val (.ref b), .val (.int (Int32.ofNat o)), .val (.int (Int32.ofNat len)), .unset, .unset, .unset] [.ref s.heap.size])) := c2.trans (st3 _ (Steps.refl _))
  have c5 : Steps p.tables e below (s₁.setTop (entryFrame m #[.ref b, .int (Int32.ofNat o), .int (Int32.ofNat len)] 6)) (T3.setTop (mkF m 9 #[.val (.ref b), .val (.int (Int32.ofNat o)), .val (.int (Int32.ofNat len)), .val (.ref s.heap.size), .unset, .unset] [.int (Int32.ofNat len), .int 0, .ref s.heap.size, .int (Int32.ofNat o), .ref b])) := c4.trans (by
    refine XS.astoreN X3.here hexec rfl (hb hbytes d3) rfl rfl rfl ?_
    refine XS.aloadN X3.here hexec rfl (hb hbytes d4) rfl rfl ?_
    refine XS.iloadN X3.here hexec rfl (hb hbytes d5) rfl ?_
    refine XS.aloadN X3.here hexec rfl (hb hbytes d6) rfl rfl ?_
    refine iconstV X3.here hexec rfl 0 (hb hbytes d7) (by decide) ?_
    refine XS.iloadN X3.here hexec rfl (hb hbytes d8) rfl ?_
    exact Steps.refl _)
  obtain ⟨v6, T6, X6, E6, g6⟩ := X3.callS hexec (Cmp5.law l b A s.heap.size B3 o 0 len) hown (wks W (staticW U16 115 Cmp5.yN)) (wk W Cmp5.tab) (W := 0) (Nat.le_of_ble_eq_true rfl) (Nat.le_of_ble_eq_true rfl) (Nat.le_refl _) (by show 0 + len + 0 ≤ len; omega) (g := (mkF m 9 #[.val (.ref b), .val (.int (Int32.ofNat o)), .val (.int (Int32.ofNat len)), .val (.ref s.heap.size), .unset, .unset] [.int (Int32.ofNat len), .int (Int32.ofNat 0), .ref s.heap.size, .int (Int32.ofNat o), .ref b])) rfl (by rw [hml]; rfl) c5 (argsL := [.ref b, .int (Int32.ofNat o), .ref s.heap.size, .int (Int32.ofNat 0), .int (Int32.ofNat len)]) (rest := []) rfl rfl (by show 2 * 0 + 0 ≤ _; decide) (hb hbytes d9) (⟨rfl, hA3, ba3, hne, l1, by rw [bs3]; simp, hp⟩)
  obtain ⟨rfl, B6, p6, f6⟩ := E6
  have c7 : Steps p.tables e below (s₁.setTop (entryFrame m #[.ref b, .int (Int32.ofNat o), .int (Int32.ofNat len)] 6)) (T6.setTop (mkF m 12 #[.val (.ref b), .val (.int (Int32.ofNat o)), .val (.int (Int32.ofNat len)), .val (.ref s.heap.size), .unset, .unset] [.int (Int32.ofNat len)])) := g6
  have c8 : Steps p.tables e below (s₁.setTop (entryFrame m #[.ref b, .int (Int32.ofNat o), .int (Int32.ofNat len)] 6)) (T6.setTop (mkF m 58 #[.val (.ref b), .val (.int (Int32.ofNat o)), .val (.int (Int32.ofNat len)), .val (.ref s.heap.size), .val (.int (Int32.ofNat len)), .unset] [.ref s.heap.size])) := c7.trans (by
    refine XS.istore X6.here hexec rfl (hb hbytes d12) rfl rfl ?_
    refine XS.iload X6.here hexec rfl (hb hbytes d14) rfl ?_
    refine XS.iloadN X6.here hexec rfl (hb hbytes d16) rfl ?_
    refine XS.icmpYes X6.here hexec rfl (pc0 := 17) rfl (hb hbytes d17) rfl (ii_eq_t rfl) (by decide) rfl ?_
    refine XS.aloadN X6.here hexec rfl (hb hbytes d57) rfl rfl ?_
    exact Steps.refl _)
  have X8 := X6.wide (L' := []) (cells' := 1) (slots' := len) (fun x hx hlt => by
    simp only [List.nil_append, copyLocs, List.mem_map, List.mem_range] at hx
    obtain ⟨i, -, rfl⟩ := hx
    exact absurd hlt (Nat.lt_irrefl _)) (Nat.le_refl _) (by omega)
  exact ⟨T6, some (.ref s.heap.size), _, _, _, X8, rfl, rfl, rfl, (fun h => by cases h), ⟨⟨rfl, B6, ba3.like (X3.warmed.alike.symm.trans X6.warmed.alike) p6.1 f6.1 f6.2.1 f6.2.2.1, f6.2.1.trans bv3, by rw [X6.warmed.alike.findClass, f6.1]; exact bf3, by rw [f6.2.2.1, bs3]; simp, fun j hj => by rw [f6.2.2.2 j, if_pos (by omega)]; rfl, kp3.put p6 (Nat.le_refl _)⟩, by rw [p6.2.2, bh3, hh0]; simp⟩, fun fs hl => c8.trans (X8.areturnOut hexec rfl hret rfl (hb hbytes d58) hl)⟩
end Cmp3
namespace CodL
def yN : MethodName := ⟨"java/lang/StringUTF16", "coderFromArrayLen", "([BI)B"⟩
abbrev yB : ByteArray := jdk_52_method_15_code
theorem d0 : decode yB 0 = .ok (.iload_n 1, 1) := by decide +kernel
theorem d1 : decode yB 1 = .ok (.aload_n 0, 1) := by decide +kernel
theorem d2 : decode yB 2 = .ok (.arraylength, 1) := by decide +kernel
theorem d3 : decode yB 3 = .ok (.isub, 1) := by decide +kernel
theorem d4 : decode yB 4 = .ok (.bipush 31, 2) := by decide +kernel
theorem d6 : decode yB 6 = .ok (.iushr, 1) := by decide +kernel
theorem d7 : decode yB 7 = .ok (.i2b, 1) := by decide +kernel
theorem d8 : decode yB 8 = .ok (.ireturn, 1) := by decide +kernel
def site : List Cond := []
def tab : Cond := tabOf yN yB 2 (some .byte) site
def P (d : Addr) (B : Cell) (args : Array Value) (s : State) : Prop := args = #[.ref d, .int (Int32.ofNat B.slots.size)] ∧ Arr .byte d B s
def E (r : Option Value) (s u : State) : Prop := XT.PureE (some (.int 0)) r s u
/-- an array as long as the number of chars: LATIN1 -/
theorem law (l : Launch) (d : Addr) (B : Cell) : Law l yN 2 2 0 0 yB 2 (some .byte) site (P d B) E [] 0 0 := by
  refine Law.of_walk (plainFor_of_name (by decide +kernel)) (by decide +kernel) (by decide +kernel) (by decide) (fun _ _ h => by rw [h.1]; rfl) (fun _ U U' hal hh h => ⟨h.1, h.2.mv hal hh⟩) (fun r U U' V V' h1 hal h2 h => XT.PureE.mv r U U' V V' h1 hal h2 h) ?_
  intro p e s m args below meth c s₁ X0 hexec hbytes hml hret hlk hnm hown hh0 W hP
  obtain ⟨rfl, hB⟩ := hP
  have hB0 := hB.mv X0.warmed.alike hh0
  have c1 : Steps p.tables e below (s₁.setTop (entryFrame m #[.ref d, .int (Int32.ofNat B.slots.size)] 2)) (s₁.setTop (mkF m 0 #[.val (.ref d), .val (.int (Int32.ofNat B.slots.size))] [])) := entry rfl
  have c2 : Steps p.tables e below (s₁.setTop (entryFrame m #[.ref d, .int (Int32.ofNat B.slots.size)] 2)) (s₁.setTop (mkF m 2 #[.val (.ref d), .val (.int (Int32.ofNat B.slots.size))] [.ref d, .int (Int32.ofNat B.slots.size)])) := c1.trans (by
    refine XS.iloadN X0.here hexec rfl (hb hbytes d0) rfl ?_
    refine XS.aloadN X0.here hexec rfl (hb hbytes d1) rfl rfl ?_
    exact Steps.refl _)
  have c3 : Steps p.tables e below (s₁.setTop (entryFrame m #[.ref d, .int (Int32.ofNat B.slots.size)] 2)) (s₁.setTop (mkF m 8 #[.val (.ref d), .val (.int (Int32.ofNat B.slots.size))] [.int (lo8 (ushr (Int32.ofNat B.slots.size - Int32.ofNat B.slots.size) 31))])) := c2.trans (by
    refine X0.alen hexec hB0 rfl rfl (hb hbytes d2) ?_
    refine XS.isub X0.here hexec rfl (hb hbytes d3) rfl ?_
    refine bipushV X0.here hexec rfl 31 (hb hbytes d4) (by decide) ?_
    refine iushr X0.here hexec rfl (hb hbytes d6) rfl ?_
    refine i2b X0.here hexec rfl (hb hbytes d7) rfl ?_
    exact Steps.refl _)
  have e0 : lo8 (ushr (Int32.ofNat B.slots.size - Int32.ofNat B.slots.size) 31) = 0 := by rw [Int32.sub_self]; decide
  rw [e0] at c3
  exact ⟨s₁, some (.int 0), _, _, _, X0, rfl, rfl, rfl, (fun h => by cases h), ⟨rfl, hh0⟩, fun fs hl => c3.trans (X0.ireturnOut hexec hret rfl (Or.inr (Or.inr (Or.inl rfl))) (hb hbytes d8) hl)⟩
end CodL
/-- the String at a is Latin-1 over a new byte[] (the heap's one new cell): the low bytes of the len chars of A from o on; every cell but a is kept -/
def Got (a : Addr) (D : Cell) (fV fC : Field) (A : Cell) (o len : Nat) (r : Option Value) (s u : State) : Prop := r = none ∧ ∃ D' V : Cell, Blank "java/lang/String" a D' u ∧ Same D D' [fV.slot, fC.slot] ∧ D'.slots[fV.slot]? = some (.ref s.heap.size) ∧ D'.slots[fC.slot]? = some (.int 0) ∧ Arr .byte s.heap.size V u ∧ V.vm = .none ∧ u.vm.findClass "[B" = some V.cls ∧ V.slots.size = len ∧ (∀ j, j < len → V.slots[j]? = some (.int (lo8 (cv A (o + j))))) ∧ (∀ (y : Addr) (c : Cell), y ≠ a → s.heap[y]? = some c → u.heap[y]? = some c) ∧ u.heap.size = s.heap.size + 1
theorem Got.mv {a : Addr} {D A : Cell} {fV fC : Field} {o len : Nat} : ∀ r (U U' V V' : State), U'.heap = U.heap → V.vm.Alike V'.vm → V'.heap = V.heap → Got a D fV fC A o len r U V → Got a D fV fC A o len r U' V' :=
  fun r U U' V V' h1 hal h2 ⟨e0, D', X, a1, a2, a3, a4, a5, a6, a7, a8, a9, a10, a11⟩ => ⟨e0, D', X, a1.mv hal h2, a2, by rw [h1]; exact a3, a4, by rw [h1]; exact a5.mv hal h2, a6, by rw [hal.findClass]; exact a7, a8, a9, by rw [h1, h2]; exact a10, by rw [h1, h2]; exact a11⟩
namespace New4
def yN : MethodName := ⟨"java/lang/String", "<init>", "([CIILjava/lang/Void;)V"⟩
abbrev yB : ByteArray := jdk_42_method_149_code
theorem d0 : decode yB 0 = .ok (.aload_n 0, 1) := by decide +kernel
theorem d1 : decode yB 1 = .ok (.invokespecial 1, 3) := by decide +kernel
theorem d4 : decode yB 4 = .ok (.iload_n 3, 1) := by decide +kernel
theorem d5 : decode yB 5 = .ok (.ifCond (.ne) 22, 3) := by decide +kernel
theorem d27 : decode yB 27 = .ok (.getstatic 38, 3) := by decide +kernel
theorem d30 : decode yB 30 = .ok (.ifCond (.eq) 28, 3) := by decide +kernel
theorem d33 : decode yB 33 = .ok (.aload_n 1, 1) := by decide +kernel
theorem d34 : decode yB 34 = .ok (.iload_n 2, 1) := by decide +kernel
theorem d35 : decode yB 35 = .ok (.iload_n 3, 1) := by decide +kernel
theorem d36 : decode yB 36 = .ok (.invokestatic 177, 3) := by decide +kernel
theorem d39 : decode yB 39 = .ok (.astore 5, 2) := by decide +kernel
theorem d41 : decode yB 41 = .ok (.aload_n 0, 1) := by decide +kernel
theorem d42 : decode yB 42 = .ok (.aload 5, 2) := by decide +kernel
theorem d44 : decode yB 44 = .ok (.iload_n 3, 1) := by decide +kernel
theorem d45 : decode yB 45 = .ok (.invokestatic 47, 3) := by decide +kernel
theorem d48 : decode yB 48 = .ok (.putfield 15, 3) := by decide +kernel
theorem d51 : decode yB 51 = .ok (.aload_n 0, 1) := by decide +kernel
theorem d52 : decode yB 52 = .ok (.aload 5, 2) := by decide +kernel
theorem d54 : decode yB 54 = .ok (.putfield 9, 3) := by decide +kernel
theorem d57 : decode yB 57 = .ok (.return_, 1) := by decide +kernel
def site : List Cond := [.fieldLink "java/lang/String" 38 "java/lang/String" "COMPACT_STRINGS" "Z", Cmp3.tab, CodL.tab, .laysFinal "java/lang/String" "java/lang/String" "value" "[B", .fieldLink "java/lang/String" 9 "java/lang/String" "value" "[B", .laysFinal "java/lang/String" "java/lang/String" "coder" "B", .fieldLink "java/lang/String" 15 "java/lang/String" "coder" "B"] ++ objW "java/lang/String" 1 ++ staticW "java/lang/String" 177 Cmp3.yN ++ staticW "java/lang/String" 47 CodL.yN
def tab : Cond := tabOf yN yB 6 none site
def P (a : Addr) (D : Cell) (fV fC : Field) (b : Addr) (A : Cell) (z : Int32) (o len : Nat) (args : Array Value) (s : State) : Prop := args = #[.ref a, .ref b, .int (Int32.ofNat o), .int (Int32.ofNat len), .null] ∧ Blank "java/lang/String" a D s ∧ Found "java/lang/String" "value" "[B" fV s ∧ Found "java/lang/String" "coder" "B" fC s ∧ Ch b A s ∧ StaticIs s "java/lang/String" "COMPACT_STRINGS" "Z" (.int z) ∧ ¬ z = 0 ∧ 0 < len ∧ o + len ≤ A.slots.size ∧ len ≤ 536870912 ∧ ∀ i, i < len → ¬ 255 < cv A (o + i)
def E (a : Addr) (D : Cell) (fV fC : Field) (A : Cell) (o len : Nat) (r : Option Value) (s u : State) : Prop := Got a D fV fC A o len r s u
/-- len > 0, no char of the range above 255: a Latin-1 String of their low bytes -/
theorem law (l : Launch) (a : Addr) (D : Cell) (fV fC : Field) (b : Addr) (A : Cell) (z : Int32) (o len : Nat) : Law l yN 5 4 2 35 yB 6 none site (P a D fV fC b A z o len) (E a D fV fC A o len) [⟨a, fC.slot⟩, ⟨a, fV.slot⟩] 1 len := by
  refine Law.of_walk (plainFor_of_name (by decide +kernel)) (by decide +kernel) (by decide +kernel) (by decide) (fun _ _ h => by rw [h.1]; rfl) (fun _ U U' hal hh h => ⟨h.1, h.2.1.mv hal hh, h.2.2.1.al hal, h.2.2.2.1.al hal, h.2.2.2.2.1.mv hal hh, h.2.2.2.2.2.1.there hal hh, h.2.2.2.2.2.2⟩) (fun r U U' V V' h1 hal h2 h => Got.mv r U U' V V' h1 hal h2 h) ?_
  intro p e s m args below meth c s₁ X0 hexec hbytes hml hret hlk hnm hown hh0 W hP
  obtain ⟨rfl, hB, f1, f2, hA, s1, hz, l0, l1, l2, hp⟩ := hP
  have a31 := hA.1.2.2.2
  have c1 : Steps p.tables e below (s₁.setTop (entryFrame m #[.ref a, .ref b, .int (Int32.ofNat o), .int (Int32.ofNat len), .null] 6)) (s₁.setTop (mkF m 0 #[.val (.ref a), .val (.ref b), .val (.int (Int32.ofNat o)), .val (.int (Int32.ofNat len)), .val .null, .unset] [])) := entry rfl
  have c2 : Steps p.tables e below (s₁.setTop (entryFrame m #[.ref a, .ref b, .int (Int32.ofNat o), .int (Int32.ofNat len), .null] 6)) (s₁.setTop (mkF m 1 #[.val (.ref a), .val (.ref b), .val (.int (Int32.ofNat o)), .val (.int (Int32.ofNat len)), .val .null, .unset] [.ref a])) := c1.trans (by
    refine XS.aloadN X0.here hexec rfl (hb hbytes d0) rfl rfl ?_
    exact Steps.refl _)
  obtain ⟨T3, X3, q3, st3⟩ := X0.oinit hexec hown (wks W (objW "java/lang/String" 1)) (g := (mkF m 1 #[.val (.ref a), .val (.ref b), .val (.int (Int32.ofNat o)), .val (.int (Int32.ofNat len)), .val .null, .unset] [.ref a])) rfl (by rw [hml]; rfl) (rest := []) rfl (hb hbytes d1) (W := 0) (by show 2 * 0 + 0 ≤ _; decide) (Nat.le_of_ble_eq_true rfl) (Nat.le_of_ble_eq_true rfl)
  have hh3 := q3.trans hh0
  have c4 : Steps p.tables e below (s₁.setTop (entryFrame m #[.ref a, .ref b, .int (Int32.ofNat o), .int (Int32.ofNat len), .null] 6)) (T3.setTop (mkF m 27 #[.val (.ref a), .val (.ref b), .val (.int (Int32.ofNat o)), .val (.int (Int32.ofNat len)), .val .null, .unset] [])) := (c2.trans (st3 _ (Steps.refl _))).trans (by
    refine XS.iloadN X3.here hexec rfl (hb hbytes d4) rfl ?_
    refine XS.ifYes X3.here hexec rfl (pc0 := 5) rfl (hb hbytes d5) rfl (i0_ne_t (nz32 (by omega) l0)) (by decide) rfl ?_
    exact Steps.refl _)
  obtain ⟨T5, X5, q5, st5⟩ := X3.sget hexec hown (wk W (.fieldLink "java/lang/String" 38 "java/lang/String" "COMPACT_STRINGS" "Z")) s1 (fun _ _ h => by rw [hh3]; exact h) (g := (mkF m 27 #[.val (.ref a), .val (.ref b), .val (.int (Int32.ofNat o)), .val (.int (Int32.ofNat len)), .val .null, .unset] [])) rfl (hb hbytes d27)
  have hh5 := q5.trans hh3
  have c6 : Steps p.tables e below (s₁.setTop (entryFrame m #[.ref a, .ref b, .int (Int32.ofNat o), .int (Int32.ofNat len), .null] 6)) (T5.setTop (mkF m 30 #[.val (.ref a), .val (.ref b), .val (.int (Int32.ofNat o)), .val (.int (Int32.ofNat len)), .val .null, .unset] [.int z])) := c4.trans (st5 _ (Steps.refl _))
  have c7 : Steps p.tables e below (s₁.setTop (entryFrame m #[.ref a, .ref b, .int (Int32.ofNat o), .int (Int32.ofNat len), .null] 6)) (T5.setTop (mkF m 36 #[.val (.ref a), .val (.ref b), .val (.int (Int32.ofNat o)), .val (.int (Int32.ofNat len)), .val .null, .unset] [.int (Int32.ofNat len), .int (Int32.ofNat o), .ref b])) := c6.trans (by
    refine XS.ifNo X5.here hexec rfl (hb hbytes d30) rfl (i0_eq_f hz) ?_
    refine XS.aloadN X5.here hexec rfl (hb hbytes d33) rfl rfl ?_
    refine XS.iloadN X5.here hexec rfl (hb hbytes d34) rfl ?_
    refine XS.iloadN X5.here hexec rfl (hb hbytes d35) rfl ?_
    exact Steps.refl _)
  obtain ⟨v8, T8, X8, E8, g8⟩ := X5.callS hexec (Cmp3.law l b A o len) hown (wks W (staticW "java/lang/String" 177 Cmp3.yN)) (wk W Cmp3.tab) (W := 0) (Nat.le_of_ble_eq_true rfl) (Nat.le_of_ble_eq_true rfl) (Nat.le_refl _) (by show 0 + len ≤ len; omega) (g := (mkF m 36 #[.val (.ref a), .val (.ref b), .val (.int (Int32.ofNat o)), .val (.int (Int32.ofNat len)), .val .null, .unset] [.int (Int32.ofNat len), .int (Int32.ofNat o), .ref b])) rfl (by rw [hml]; rfl) c7 (argsL := [.ref b, .int (Int32.ofNat o), .int (Int32.ofNat len)]) (rest := []) rfl rfl (by show 2 * 0 + 0 ≤ _; decide) (hb hbytes d36) (⟨rfl, hA.mv X5.warmed.alike hh5, l1, l2, hp⟩)
  obtain ⟨e8, z8⟩ := E8
  obtain ⟨rfl, N, n1, n2, n3, n4, n5, n6⟩ := NewArr.mv _ T5 s _ _ hh5.symm (Vm.Alike.refl _) rfl e8
  rw [hh5] at z8
  have hB1 := hB.keep X8.warmed.alike (n6 _ _ hB.1)
  have hne : s.heap.size ≠ a := (Nat.ne_of_lt (Array.getElem?_eq_some_iff.mp hB.1).1).symm
  have c9 : Steps p.tables e below (s₁.setTop (entryFrame m #[.ref a, .ref b, .int (Int32.ofNat o), .int (Int32.ofNat len), .null] 6)) (T8.setTop (mkF m 39 #[.val (.ref a), .val (.ref b), .val (.int (Int32.ofNat o)), .val (.int (Int32.ofNat len)), .val .null, .unset] [.ref s.heap.size])) := g8
  have c10 : Steps p.tables e below (s₁.setTop (entryFrame m #[.ref a, .ref b, .int (Int32.ofNat o), .int (Int32.ofNat len), .null] 6)) (T8.setTop (mkF m 45 #[.val (.ref a), .val (.ref b), .val (.int (Int32.ofNat o)), .val (.int (Int32.ofNat len)), .val .null, .val (.ref s.heap.size)] [.int (Int32.ofNat N.slots.size), .ref s.heap.size, .ref a])) := by
    have hc : Steps p.tables e below (s₁.setTop (entryFrame m #[.ref a, .ref b, .int (Int32.ofNat o), .int (Int32.ofNat len), .null] 6)) (T8.setTop (mkF m 45 #[.val (.ref a), .val (.ref b), .val (.int (Int32.ofNat o)), .val (.int (Int32.ofNat len)), .val .null, .val (.ref s.heap.size)] [.int (Int32.ofNat len), .ref s.heap.size, .ref a])) := c9.trans (by
      refine XS.astore X8.here hexec rfl (hb hbytes d39) rfl rfl rfl ?_
      refine XS.aloadN X8.here hexec rfl (hb hbytes d41) rfl rfl ?_
      refine XS.aload X8.here hexec rfl (hb hbytes d42) rfl rfl ?_
      refine XS.iloadN X8.here hexec rfl (hb hbytes d44) rfl ?_
      exact Steps.refl _)
    rw [n4]; exact hc
  obtain ⟨v11, T11, X11, E11, g11⟩ := X8.callS hexec (CodL.law l s.heap.size N) hown (wks W (staticW "java/lang/String" 47 CodL.yN)) (wk W CodL.tab) (W := 1) (Nat.le_of_ble_eq_true rfl) (Nat.le_of_ble_eq_true rfl) (Nat.le_refl _) (by show 0 + len + 0 ≤ len; omega) (g := (mkF m 45 #[.val (.ref a), .val (.ref b), .val (.int (Int32.ofNat o)), .val (.int (Int32.ofNat len)), .val .null, .val (.ref s.heap.size)] [.int (Int32.ofNat N.slots.size), .ref s.heap.size, .ref a])) rfl (by rw [hml]; rfl) c10 (argsL := [.ref s.heap.size, .int (Int32.ofNat N.slots.size)]) (rest := [.ref a]) rfl rfl (by show 2 * 0 + (1 + 0) ≤ _; decide) (hb hbytes d45) (⟨rfl, n1⟩)
  obtain ⟨rfl, q11⟩ := E11
  have hB11 := hB1.mv (X8.warmed.alike.symm.trans X11.warmed.alike) q11
  have c12 : Steps p.tables e below (s₁.setTop (entryFrame m #[.ref a, .ref b, .int (Int32.ofNat o), .int (Int32.ofNat len), .null] 6)) (T11.setTop (mkF m 48 #[.val (.ref a), .val (.ref b), .val (.int (Int32.ofNat o)), .val (.int (Int32.ofNat len)), .val .null, .val (.ref s.heap.size)] [.int 0, .ref a])) := g11
  obtain ⟨T13, X13, p13, bl13, sl13, st13⟩ := X11.finit hexec hown (wk W (.fieldLink "java/lang/String" 15 "java/lang/String" "coder" "B")) (Or.inr ⟨_, (wk W (.laysFinal "java/lang/String" "java/lang/String" "coder" "B"))⟩) (Or.inl ⟨rfl, hnm⟩) f2 (Or.inl rfl) hB11 (t := .byte) (by decide +kernel) rfl (g := (mkF m 48 #[.val (.ref a), .val (.ref b), .val (.int (Int32.ofNat o)), .val (.int (Int32.ofNat len)), .val .null, .val (.ref s.heap.size)] [.int 0, .ref a])) rfl (rest := []) rfl (hb hbytes d48)
  have c14 : Steps p.tables e below (s₁.setTop (entryFrame m #[.ref a, .ref b, .int (Int32.ofNat o), .int (Int32.ofNat len), .null] 6)) (T13.setTop (mkF m 54 #[.val (.ref a), .val (.ref b), .val (.int (Int32.ofNat o)), .val (.int (Int32.ofNat len)), .val .null, .val (.ref s.heap.size)] [.ref s.heap.size, .ref a])) := (c12.trans (st13 _ (Steps.refl _))).trans (by
    refine XS.aloadN X13.here hexec rfl (hb hbytes d51) rfl rfl ?_
    refine XS.aload X13.here hexec rfl (hb hbytes d52) rfl rfl ?_
    exact Steps.refl _)
  obtain ⟨T15, X15, p15, bl15, sl15, st15⟩ := X13.finit hexec hown (wk W (.fieldLink "java/lang/String" 9 "java/lang/String" "value" "[B")) (Or.inr ⟨_, (wk W (.laysFinal "java/lang/String" "java/lang/String" "value" "[B"))⟩) (Or.inl ⟨rfl, hnm⟩) f1 (Or.inl rfl) bl13 (t := (.array .byte)) (by decide +kernel) rfl (g := (mkF m 54 #[.val (.ref a), .val (.ref b), .val (.int (Int32.ofNat o)), .val (.int (Int32.ofNat len)), .val .null, .val (.ref s.heap.size)] [.ref s.heap.size, .ref a])) rfl (rest := []) rfl (hb hbytes d54)
  have c16 : Steps p.tables e below (s₁.setTop (entryFrame m #[.ref a, .ref b, .int (Int32.ofNat o), .int (Int32.ofNat len), .null] 6)) (T15.setTop (mkF m 57 #[.val (.ref a), .val (.ref b), .val (.int (Int32.ofNat o)), .val (.int (Int32.ofNat len)), .val .null, .val (.ref s.heap.size)] [])) := c14.trans (st15 _ (Steps.refl _))
  have ap := apart (Or.inr ⟨_, (wk W (.laysFinal "java/lang/String" "java/lang/String" "value" "[B"))⟩) (Or.inr ⟨_, (wk W (.laysFinal "java/lang/String" "java/lang/String" "coder" "B"))⟩) f1 f2 (t₁ := .array .byte) (t₂ := .byte) (by decide +kernel) (by decide +kernel) (by decide)
  have al := X8.warmed.alike.symm.trans X15.warmed.alike
  have n7 : T11.heap[s.heap.size]? = some N := by rw [q11]; exact n1.1
  exact ⟨T15, none, _, _, _, X15, by simp, rfl, by omega, (fun _ => rfl), ⟨rfl, _, N, bl15, ((Same.refl D _).set _ (by simp)).set _ (by simp), sl15, (Cell.slots_setSlot_ne _ ap).trans sl13, n1.keep al (p15.other hne (p13.other hne n7)), n2, by rw [al.findClass]; exact n3, n4, n5, fun y c h1 h2 => p15.other h1 (p13.other h1 (by rw [q11]; exact n6 y c h2)), by rw [p15.2.2, p13.2.2, q11]; exact z8⟩, fun fs hl => c16.trans (X15.returnOut hexec hret (hb hbytes d57) hl)⟩
end New4
namespace New1
def yN : MethodName := ⟨"java/lang/String", "<init>", "([C)V"⟩
abbrev yB : ByteArray := jdk_42_method_3_code
theorem d0 : decode yB 0 = .ok (.aload_n 0, 1) := by decide +kernel
theorem d1 : decode yB 1 = .ok (.aload_n 1, 1) := by decide +kernel
theorem d2 : decode yB 2 = .ok (.iconst 0, 1) := by decide +kernel
theorem d3 : decode yB 3 = .ok (.aload_n 1, 1) := by decide +kernel
theorem d4 : decode yB 4 = .ok (.arraylength, 1) := by decide +kernel
theorem d5 : decode yB 5 = .ok (.aconst_null, 1) := by decide +kernel
theorem d6 : decode yB 6 = .ok (.invokespecial 27, 3) := by decide +kernel
theorem d9 : decode yB 9 = .ok (.return_, 1) := by decide +kernel
def site : List Cond := [New4.tab] ++ initW "java/lang/String" 27 New4.yN
def tab : Cond := tabOf yN yB 2 none site
def P (a : Addr) (D : Cell) (fV fC : Field) (b : Addr) (A : Cell) (z : Int32) (args : Array Value) (s : State) : Prop := args = #[.ref a, .ref b] ∧ Blank "java/lang/String" a D s ∧ Found "java/lang/String" "value" "[B" fV s ∧ Found "java/lang/String" "coder" "B" fC s ∧ Ch b A s ∧ StaticIs s "java/lang/String" "COMPACT_STRINGS" "Z" (.int z) ∧ ¬ z = 0 ∧ 0 < A.slots.size ∧ A.slots.size ≤ 536870912 ∧ ∀ i, i < A.slots.size → ¬ 255 < cv A i
def E (a : Addr) (D : Cell) (fV fC : Field) (A : Cell) (r : Option Value) (s u : State) : Prop := Got a D fV fC A 0 A.slots.size r s u
/-- new String(chars), not empty, no char above 255: a Latin-1 String of their low bytes -/
theorem law (l : Launch) (a : Addr) (D : Cell) (fV fC : Field) (b : Addr) (A : Cell) (z : Int32) : Law l yN 2 1 3 52 yB 2 none site (P a D fV fC b A z) (E a D fV fC A) [⟨a, fC.slot⟩, ⟨a, fV.slot⟩] 1 A.slots.size := by
  refine Law.of_walk (plainFor_of_name (by decide +kernel)) (by decide +kernel) (by decide +kernel) (by decide) (fun _ _ h => by rw [h.1]; rfl) (fun _ U U' hal hh h => ⟨h.1, h.2.1.mv hal hh, h.2.2.1.al hal, h.2.2.2.1.al hal, h.2.2.2.2.1.mv hal hh, h.2.2.2.2.2.1.there hal hh, h.2.2.2.2.2.2⟩) (fun r U U' V V' h1 hal h2 h => Got.mv r U U' V V' h1 hal h2 h) ?_
  intro p e s m args below meth c s₁ X0 hexec hbytes hml hret hlk hnm hown hh0 W hP
  obtain ⟨rfl, hB, f1, f2, hA, s1, hz, l0, l2, hp⟩ := hP
  have c1 : Steps p.tables e below (s₁.setTop (entryFrame m #[.ref a, .ref b] 2)) (s₁.setTop (mkF m 0 #[.val (.ref a), .val (.ref b)] [])) := entry rfl
  have c2 : Steps p.tables e below (s₁.setTop (entryFrame m #[.ref a, .ref b] 2)) (s₁.setTop (mkF m 6 #[.val (.ref a), .val (.ref b)] [.null, .int (Int32.ofNat A.slots.size), .int 0, .ref b, .ref a])) := c1.trans (by
    refine XS.aloadN X0.here hexec rfl (hb hbytes d0) rfl rfl ?_
    refine XS.aloadN X0.here hexec rfl (hb hbytes d1) rfl rfl ?_
    refine iconstV X0.here hexec rfl 0 (hb hbytes d2) (by decide) ?_
    refine XS.aloadN X0.here hexec rfl (hb hbytes d3) rfl rfl ?_
    refine X0.alen hexec (hA.1.mv X0.warmed.alike hh0) rfl rfl (hb hbytes d4) ?_
    refine XS.aconstNull X0.here hexec rfl (hb hbytes d5) ?_
    exact Steps.refl _)
  obtain ⟨v3, T3, X3, E3, g3⟩ := X0.callN hexec (New4.law l a D fV fC b A z 0 A.slots.size) rfl hown (wks W (initW "java/lang/String" 27 New4.yN)) (W New4.tab (by simp only [site, List.mem_cons, List.mem_append, true_or, or_true])) (W := 0) (Nat.le_of_ble_eq_true rfl) (Nat.le_of_ble_eq_true rfl) (Nat.le_refl _) (by show 0 + A.slots.size ≤ A.slots.size; omega) (g := (mkF m 6 #[.val (.ref a), .val (.ref b)] [.null, .int (Int32.ofNat A.slots.size), .int (Int32.ofNat 0), .ref b, .ref a])) rfl (by rw [hml]; rfl) c2 (argsL := [.ref b, .int (Int32.ofNat 0), .int (Int32.ofNat A.slots.size), .null]) (rest := []) rfl rfl (by show 2 * 0 + 0 ≤ _; decide) (hb hbytes d6) (⟨rfl, hB.mv X0.warmed.alike hh0, f1.al X0.warmed.alike, f2.al X0.warmed.alike, hA.mv X0.warmed.alike hh0, s1.there X0.warmed.alike hh0, hz, l0, by omega, l2, fun i hi => by rw [Nat.zero_add]; exact hp i hi⟩)
  have e0 := Got.mv _ s₁ s _ _ hh0.symm (Vm.Alike.refl _) rfl E3
  obtain rfl := e0.1
  have c4 : Steps p.tables e below (s₁.setTop (entryFrame m #[.ref a, .ref b] 2)) (T3.setTop (mkF m 9 #[.val (.ref a), .val (.ref b)] [])) := g3
  exact ⟨T3, none, _, _, _, X3, by simp, rfl, by omega, (fun _ => rfl), e0, fun fs hl => c4.trans (X3.returnOut hexec hret (hb hbytes d9) hl)⟩
theorem pays {l : Launch} {R : Room} {p : Program} {e : Env} {below : List Frame} {s : State} {sargs : Array Value} {len W : Nat} (a : Addr) (D : Cell) (fV fC : Field) (b : Addr) (A : Cell) (z : Int32) (htab : tab.before sargs s = true) (hfr : 4 ≤ R.frames) (hlo : W + 65 ≤ R.locals) :
    Back l R p e below s sargs yN len W (fun A₁ a₁ => A₁.cells + 1 ≤ R.cells ∧ A₁.slots + A.slots.size ≤ R.slots ∧ P a D fV fC b A z a₁ A₁.U) (fun A₁ _ v₁ B₁ => E a D fV fC A v₁ A₁.U B₁.U ∧ B₁.locs = A₁.locs ++ [⟨a, fC.slot⟩, ⟨a, fV.slot⟩] ∧ B₁.cells = A₁.cells + 1 ∧ B₁.slots = A₁.slots + A.slots.size) :=
  (law l a D fV fC b A z).pays htab hfr (by omega)
end New1
/-- the byte, read back as charAt reads it, is the char -/
theorem lo8_mask {x : Int32} (h0 : ¬ x < 0) (h1 : ¬ 255 < x) : lo8 x &&& 255 = x := by
  have t : ∀ k : Fin 256, lo8 (Int32.ofNat k.val) &&& 255 = Int32.ofNat k.val := by decide +kernel
  rw [Int32.lt_iff_toInt_lt] at h0 h1
  have e0 : (0 : Int32).toInt = 0 := rfl
  have e1 : (255 : Int32).toInt = 255 := rfl
  obtain ⟨k, hk⟩ : ∃ k : Nat, x.toInt = k := ⟨x.toInt.toNat, by omega⟩
  have hx : x = Int32.ofNat k := Int32.toInt_inj.mp (by rw [hk, Int32.toInt_ofNat_small (by omega)])
  rw [hx]
  exact t ⟨k, by omega⟩
end StrChars
namespace StrChars.Road
open Jvm Sem ClassFile Op Lib Jvm.Stand Jvm.Free Jvm.Free.XT
open Jvm.Lib.Cold (StaticIs)
abbrev ST : String := "java/lang/String"
/-- every table word that New1's law asks, flat -/
abbrev words : List Jvm.Cond := [.code New1.yN New1.yB 2 none, .initialized ST, .methodLink ST 27 New4.yN, .instanceMethod New4.yN,
  .code New4.yN New4.yB 6 none, .fieldLink ST 38 ST "COMPACT_STRINGS" "Z", .laysFinal ST ST "value" "[B", .fieldLink ST 9 ST "value" "[B", .laysFinal ST ST "coder" "B", .fieldLink ST 15 ST "coder" "B",
  .methodLink ST 1 Lib.objectInit, .instanceMethod Lib.objectInit, .code Lib.objectInit ⟨#[0xb1]⟩ 1 none, .methodLink ST 177 Cmp3.yN, .static Cmp3.yN, .methodLink ST 47 CodL.yN, .static CodL.yN,
  .code Cmp3.yN Cmp3.yB 6 (some (.array .byte)), .initialized U16, .arrayClass .byte, .methodLink U16 115 Cmp5.yN, .static Cmp5.yN, .code Cmp5.yN Cmp5.yB 7 (some .int), .code CodL.yN CodL.yB 2 (some .byte)]
theorem tab_of {a : Array Value} {s : State} (h : ∀ w ∈ words, w.before a s = true) : New1.tab.before a s = true := by
  have h5 : Cmp5.tab.before a s = true := unparts (wk h (.code Cmp5.yN Cmp5.yB 7 (some .int))) (wks h (.initialized Cmp5.yN.cls :: Cmp5.site))
  have hc : CodL.tab.before a s = true := unparts (wk h (.code CodL.yN CodL.yB 2 (some .byte))) (wks h (.initialized CodL.yN.cls :: CodL.site))
  have q5 : ∀ w ∈ Cmp5.tab :: words, w.before a s = true := fun w hw => (List.mem_cons.mp hw).elim (fun e => e ▸ h5) (h w)
  have h3 : Cmp3.tab.before a s = true := unparts (wk q5 (.code Cmp3.yN Cmp3.yB 6 (some (.array .byte)))) (wks q5 (.initialized Cmp3.yN.cls :: Cmp3.site))
  have q3 : ∀ w ∈ Cmp3.tab :: CodL.tab :: words, w.before a s = true := fun w hw => (List.mem_cons.mp hw).elim (fun e => e ▸ h3) fun hw => (List.mem_cons.mp hw).elim (fun e => e ▸ hc) (h w)
  have h4 : New4.tab.before a s = true := unparts (wk q3 (.code New4.yN New4.yB 6 none)) (wks q3 (.initialized New4.yN.cls :: New4.site))
  have q4 : ∀ w ∈ New4.tab :: words, w.before a s = true := fun w hw => (List.mem_cons.mp hw).elim (fun e => e ▸ h4) (h w)
  exact unparts (wk q4 (.code New1.yN New1.yB 2 none)) (wks q4 (.initialized New1.yN.cls :: New1.site))
/-- the words ride from the start Z to the walk's own state -/
theorem moved {Z s : State} {a0 args : Array Value} (hZ : Z.Warmed39 s.vm) (hw : ∀ d ∈ words, d.before a0 Z = true) : ∀ d ∈ words, d.before args s = true := fun d hd => by
  have q := hw d hd
  have t : ∀ d ∈ words, d = .arrayClass .byte ∨ (d.onTables && d.keepsFace) = true := by decide +kernel
  rcases t d hd with rfl | t
  · exact RoadKit.mvA hZ q
  · exact RoadKit.mv hZ q t
/-- WHAT COMES BACK, over the tables of the start Z: h the heap at the call, h' behind it -/
def Q (Z : State) (x : Addr) (A : Cell) (h : Heap) (v : Option Value) (h' : Heap) (L : List Loc) : Prop := v = none ∧ (∀ y ∈ L, y.base = x) ∧ RoadKit.Keep h h' [x] ∧ h'.size = h.size + 1 ∧ RoadKit.Exa Z h' x ST ∧ RoadKit.Fld Z h' x ST "value" "[B" (.ref h.size) ∧ RoadKit.Fld Z h' x ST "coder" "B" (.int 0) ∧
  (∃ V : Cell, RoadKit.Arr Z h' h.size V .byte ∧ V.vm = .none ∧ Z.vm.findClass "[B" = some V.cls ∧ V.slots.size = A.slots.size ∧ ∀ j, j < A.slots.size → V.slots[j]? = some (.int (lo8 (cv A j)))) ∧
  ∀ (O n d : String) (w : Value), RoadKit.Fld Z h x O n d w → RoadKit.slotOf Z O n d ≠ RoadKit.slotOf Z ST "value" "[B" → RoadKit.slotOf Z O n d ≠ RoadKit.slotOf Z ST "coder" "B" → RoadKit.Fld Z h' x O n d w
/-- **new String(chars) AT A CALL, IN THE ROAD'S FORM**: for specialBack behind newO: x the fresh String, b the char[] with the cell A -/
theorem back {p : Program} {l : Launch} {e : Env} {R : Room} {s : State} {args : Array Value} {below : List Frame} {len W : Nat} {Z : State} {a0 : Array Value} {h : Heap} (hZ : Z.Warmed39 s.vm) (hw : ∀ d ∈ words, d.before a0 Z = true) {kI : Nat} (wi : (Jvm.Cond.instantiable ST kI).before a0 Z = true)
    {x b : Addr} {A : Cell} {z : Int32} {v0 c0 : Value} (E : RoadKit.Exa Z h x ST) (V : RoadKit.Fld Z h x ST "value" "[B" v0) (C : RoadKit.Fld Z h x ST "coder" "B" c0) (K : RoadKit.Arr Z h b A .char) (hty : Typed .char A) (S : RoadKit.Sta Z h ST "COMPACT_STRINGS" "Z" (.int z)) (hz : ¬ z = 0)
    (l0 : 0 < A.slots.size) (l2 : A.slots.size ≤ 536870912) (hp : ∀ i, i < A.slots.size → ¬ 255 < cv A i) (hfr : 4 ≤ R.frames) (hlo : W + 65 ≤ R.locals) :
    Back l R p e below s args New1.yN len W (fun P a => a = #[.ref x, .ref b] ∧ P.U.heap = h ∧ P.cells + 1 ≤ R.cells ∧ P.slots + A.slots.size ≤ R.slots)
      (fun P _ v B => ∃ L, Q Z x A h v B.U.heap L ∧ B.locs = P.locs ++ L ∧ B.cells = P.cells + 1 ∧ B.slots = P.slots + A.slots.size) := by
  intro m meth c P g ig mk a X hg hsize hdg hW hn hp'
  obtain ⟨rfl, rfl, r1, r2⟩ := hp'
  have al : Z.vm.Alike P.U.vm := hZ.alike.trans X.warmed.alike
  obtain ⟨D, cfV, kV, iV, fV, hD, gV, stV, knV, obV, asV, slV⟩ := id V
  obtain ⟨D', cfC, kC, iC, fC, hD', gC, stC, -, -, asC, slC⟩ := id C
  cases hD.symm.trans hD'
  obtain ⟨D2, kD, e1, e2, e3, e4, e5⟩ := id E
  cases hD.symm.trans e1
  obtain ⟨c2, k2, i1, i2, i3, -⟩ := Cond.instantiable_spec wi
  cases e2.symm.trans i1
  cases e3.symm.trans i2
  obtain ⟨kU, u1, u2⟩ := al.2.2 _ _ e3
  have hB : Blank ST x D P.U := ⟨hD, ⟨knV, fun q hq => by rw [hq] at obV; cases obV⟩, by rw [al.findClass]; exact e2, kU, u1, by rw [u2]; exact i3, by rw [u2]; exact e5 i3⟩
  have F1 : Found ST "value" "[B" fV P.U := ⟨SBG.found_only al ⟨cfV, kV, iV, gV⟩, stV⟩
  have F2 : Found ST "coder" "B" fC P.U := ⟨SBG.found_only al ⟨cfC, kC, iC, gC⟩, stC⟩
  have hA : Ch b A P.U := ⟨⟨K.1, State.isArrayOf_alike al K.2.1, K.2.2, by omega⟩, hty⟩
  have hS : StaticIs P.U ST "COMPACT_STRINGS" "Z" (.int z) := by
    obtain ⟨cfS, iS, kS, fS, st, cS, t1, t2, t3, t4, t5, t6, t7⟩ := S
    exact StaticIs.there (s := { Z with heap := P.U.heap }) ⟨cfS, iS, kS, fS, st, cS, t1, t2, t3, t4, t5, (fun q => by rw [q] at t6; cases t6), t7⟩ al rfl
  obtain ⟨v, B, X', ⟨⟨hv, E', V', q1, q2, q3, q4, q5, q6, q7, q8, q9, q10, q11⟩, hl, hc, hs⟩, st⟩ := New1.pays x D fV fC b A z (tab_of (moved hZ hw)) hfr hlo m meth c P g ig mk _ X hg hsize hdg hW hn ⟨r1, r2, rfl, hB, F1, F2, hA, hS, hz, l0, l2, hp⟩
  have al' : Z.vm.Alike B.U.vm := hZ.alike.trans X'.warmed.alike
  have hsz : E'.slots.size = D.slots.size := by
    obtain ⟨-, -, -, kB, w1, w2, w3⟩ := q1
    obtain ⟨kB', y1, y2⟩ := al'.2.2 _ _ e3
    rw [q2.2.1] at w1
    cases w1.symm.trans y1
    rw [w3, e5 i3, y2]
  refine ⟨v, B, X', ⟨_, ⟨hv, ?_, ⟨by omega, fun y cy hy hn' => q10 y cy (by simpa using hn') hy, fun y cy hy => ?_⟩, q11, ⟨E', _, q1.1, by rw [q2.2.1]; exact e2, by rw [q2.2.1]; exact e3, by rw [q2.1]; exact obV, fun _ => by rw [hsz]; exact e5 i3⟩,
    ⟨E', cfV, kV, iV, fV, q1.1, gV, stV, by rw [q2.1]; exact knV, by rw [q2.1]; exact obV, by rw [q2.2.1]; exact asV, q3⟩, ⟨E', cfC, kC, iC, fC, q1.1, gC, stC, by rw [q2.1]; exact knV, by rw [q2.1]; exact obV, by rw [q2.2.1]; exact asC, q4⟩,
    ⟨V', ⟨q5.1, State.isArrayOf_alike al'.symm q5.2.1, q5.2.2.1⟩, q6, by rw [← al'.findClass]; exact q7, q8, fun j hj => by have := q9 j hj; rwa [Nat.zero_add] at this⟩, fun O n d w F n1 n2 => ?_⟩, hl, hc, hs⟩, st⟩
  · intro y hy
    simp only [List.mem_cons, List.not_mem_nil, or_false] at hy
    rcases hy with rfl | rfl <;> rfl
  · by_cases q : y = x
    · subst q
      cases hD.symm.trans hy
      exact ⟨E', q1.1, q2.2.1, q2.1, hsz⟩
    · exact ⟨cy, q10 y cy q hy, rfl, rfl, rfl⟩
  · obtain ⟨D3, cf, k, i, f, g1, g2, g3, g4, g5, g6, g7⟩ := F
    cases hD.symm.trans g1
    simp only [RoadKit.slotOf, g2, gV, gC, Option.map_some, Option.getD_some] at n1 n2
    exact ⟨E', cf, k, i, f, q1.1, g2, g3, by rw [q2.1]; exact g4, by rw [q2.1]; exact g5, by rw [q2.2.1]; exact g6, by rw [q2.2.2 f.slot (by simp [n1, n2])]; exact g7⟩
end StrChars.Road
namespace StrChars.Road
open Jvm Sem ClassFile Op Lib Jvm.Stand Jvm.Free Jvm.Free.XT
/-- WHAT COMES BACK, the byte[] as a list of values -/
def QA (Z : State) (x : Addr) (zn : Int32) (cs : List Int32) (h : Heap) (v : Option Value) (h' : Heap) (L : List Loc) : Prop := v = none ∧ (∀ y ∈ L, y.base = x) ∧ RoadKit.Keep h h' [x] ∧ h'.size = h.size + 1 ∧ RoadKit.Exa Z h' x ST ∧ RoadKit.Fld Z h' x ST "value" "[B" (.ref h.size) ∧ RoadKit.Fld Z h' x ST "coder" "B" (.int 0) ∧
  (∃ kb, Z.vm.findClass "[B" = some kb ∧ RoadKit.Arv Z h' h.size kb .byte zn (cs.map fun c => .int (lo8 c)) (.int 0)) ∧
  ∀ (O n d : String) (w : Value), RoadKit.Fld Z h x O n d w → RoadKit.slotOf Z O n d ≠ RoadKit.slotOf Z ST "value" "[B" → RoadKit.slotOf Z O n d ≠ RoadKit.slotOf Z ST "coder" "B" → RoadKit.Fld Z h' x O n d w
/-- **new String(chars) AT A CALL, THE ARRAYS AS LISTS**: the char[] at b holds cs, not empty, no char above 255 -/
theorem backArv {p : Program} {l : Launch} {e : Env} {R : Room} {s : State} {args : Array Value} {below : List Frame} {len W : Nat} {Z : State} {a0 : Array Value} {h : Heap} (hZ : Z.Warmed39 s.vm) (hw : ∀ d ∈ words, d.before a0 Z = true) {kI : Nat} (wi : (Jvm.Cond.instantiable ST kI).before a0 Z = true)
    {x b : Addr} {k : ClassId} {zn z : Int32} {cs : List Int32} {dv v0 c0 : Value} (E : RoadKit.Exa Z h x ST) (V : RoadKit.Fld Z h x ST "value" "[B" v0) (C : RoadKit.Fld Z h x ST "coder" "B" c0) (K : RoadKit.Arv Z h b k .char zn (cs.map Value.int) dv) (S : RoadKit.Sta Z h ST "COMPACT_STRINGS" "Z" (.int z)) (hz : ¬ z = 0)
    (hlen : zn.toNatClampNeg = cs.length) (h0 : 0 < cs.length) (hbig : cs.length ≤ 536870912) (hall : ∀ c ∈ cs, ¬ 255 < c) (hfr : 4 ≤ R.frames) (hlo : W + 65 ≤ R.locals) :
    Back l R p e below s args New1.yN len W (fun P a => a = #[.ref x, .ref b] ∧ P.U.heap = h ∧ P.cells + 1 ≤ R.cells ∧ P.slots + cs.length ≤ R.slots)
      (fun P _ v B => ∃ L, QA Z x zn cs h v B.U.heap L ∧ B.locs = P.locs ++ L ∧ B.cells = P.cells + 1 ∧ B.slots = P.slots + cs.length) := by
  obtain ⟨A, K1, K2, K3, K4, K5, K6⟩ := K
  have e : A.slots.size = cs.length := K3.trans hlen
  have hat : ∀ (i : Nat) (hi : i < cs.length), A.slots[i]? = some (.int cs[i]) := fun i hi => by rw [K5 i (by omega)]; simp [List.getD_eq_getElem?_getD, hi]
  have hcv : ∀ (i : Nat) (hi : i < cs.length), cv A i = cs[i] := fun i hi => by unfold cv; rw [hat i hi]
  have hty : Typed .char A := fun i v hv => by
    have hi : i < A.slots.size := (Array.getElem?_eq_some_iff.mp hv).1
    have q := K5 i hi
    rw [hv] at q
    rw [Option.some.inj q]
    exact K6 i hi
  refine Back.mono (back hZ hw wi E V C K1 hty S hz (by omega) (by omega) (fun i hi => by rw [hcv i (by omega)]; exact hall _ (List.getElem_mem _)) hfr hlo) (fun P a hp => ⟨hp.1, hp.2.1, hp.2.2.1, by rw [e]; exact hp.2.2.2⟩) (fun P a v B hp hq => ?_)
  obtain ⟨L, ⟨q1, q2, q3, q4, q5, q6, q7, ⟨V', v1, v2, v3, v4, v5⟩, q9⟩, hl, hc, hs⟩ := hq
  refine ⟨L, ⟨q1, q2, q3, q4, q5, q6, q7, ⟨V'.cls, v3, V', v1, rfl, by rw [v4, e, hlen], K4, fun i hi => ?_, fun i hi => ?_⟩, q9⟩, hl, hc, by rw [hs, e]⟩
  · have hi' : i < cs.length := by omega
    rw [v5 i (by omega), hcv i hi']; simp [List.getD_eq_getElem?_getD, hi']
  · have hi' : i < cs.length := by omega
    simp only [List.getD_eq_getElem?_getD, List.getElem?_map, List.getElem?_eq_getElem hi', Option.map_some, Option.getD_some]
    exact fits_lo8 _
end StrChars.Road
namespace StrChars.Road
open Jvm Sem ClassFile Op Lib Jvm.Stand Jvm.Free Jvm.Free.XT
/-- WHAT COMES BACK, in the writer's own shape -/
def QV (Z : State) (x : Addr) (N : Int32) (bs : List Int32) (h : Heap) (n0 : Nat) (v : Option Value) (h' : Heap) (L : List Loc) : Prop := v = none ∧ RoadKit.Fr n0 L ∧ RoadKit.Keep h h' [x] ∧ RoadKit.Exa Z h' x ST ∧ RoadKit.Fld Z h' x ST "coder" "B" (.int 0) ∧
  ∃ (t : Addr) (kb : ClassId), n0 ≤ t ∧ h.size ≤ t ∧ ¬ t = x ∧ RoadKit.Fld Z h' x ST "value" "[B" (.ref t) ∧ RoadKit.Arv Z h' t kb .byte N (bs.map Value.int) (.int 0)
/-- **new String(chars) AT A CALL, FOR THE WRITER**: a char[] of n known ints, each 0 to 255 -/
theorem backV {p : Program} {l : Launch} {e : Env} {R : Room} {s : State} {args : Array Value} {below : List Frame} {len W : Nat} {Z : State} {a0 : Array Value} {h : Heap} (hZ : Z.Warmed39 s.vm) (hw : ∀ d ∈ words, d.before a0 Z = true) {kI : Nat} (wi : (Jvm.Cond.instantiable ST kI).before a0 Z = true)
    {x b : Addr} {kC : ClassId} {cs bs : List Int32} {d v0 c0 : Value} {z N : Int32} {n n0 : Nat} (hx0 : n0 ≤ x) (hh0 : n0 ≤ h.size) (E : RoadKit.Exa Z h x ST) (V : RoadKit.Fld Z h x ST "value" "[B" v0) (C : RoadKit.Fld Z h x ST "coder" "B" c0) (K : RoadKit.Arv Z h b kC .char N (cs.map Value.int) d) (S : RoadKit.Sta Z h ST "COMPACT_STRINGS" "Z" (.int z)) (hz : ¬ z = 0)
    (hn : cs.length = n) (hN : N = Int32.ofNat n) (l0 : 0 < n) (l2 : n ≤ 4000) (hp : ∀ c ∈ cs, ¬ c < 0 ∧ ¬ (255 : Int32) < c) (hb : bs = cs.map (fun c => c.toInt8.toInt32)) (hfr : 4 ≤ R.frames) (hlo : W + 65 ≤ R.locals) :
    Back l R p e below s args (⟨"java/lang/String", "<init>", "([C)V"⟩ : MethodName) len W (fun P a => a = #[.ref x, .ref b] ∧ P.U.heap = h ∧ P.cells + 1 ≤ R.cells ∧ P.slots + n ≤ R.slots)
      (fun P _ v B => ∃ L, QV Z x N bs h n0 v B.U.heap L ∧ B.locs = P.locs ++ L ∧ B.cells = P.cells + 1 ∧ B.slots = P.slots + n) := by
  subst hn hN hb
  refine Back.mono (backArv hZ hw wi E V C K S hz (n32 (by omega)) l0 (by omega) (fun c hc => (hp c hc).2) hfr hlo) (fun P a hp => hp) (fun P a v B hp hq => ?_)
  obtain ⟨L, ⟨q1, q2, q3, q4, q5, q6, q7, ⟨kb, v1, v2⟩, q9⟩, hl, hc, hs⟩ := hq
  exact ⟨L, ⟨q1, fun y hy => by rw [q2 y hy]; exact hx0, q3, q5, q7, h.size, kb, hh0, Nat.le_refl _, Nat.ne_of_gt E.lt, q6, by rw [List.map_map]; exact v2⟩, hl, hc, hs⟩
end StrChars.Road
namespace StrChars
open Jvm Sem ClassFile Op Lib Jvm.Stand Jvm.Free.XT Jvm.Free.ALB Jvm.Free.JM Jvm.Free
open Jvm.Lib.Cold (StaticIs)
def hi8 (x : Int32) : Int32 := lo8 (x >>> ((8 : Int32) &&& 31))
/-- what StringUTF16.getChar makes of two bytes -/
def pairCh (u v : Int32) : Int32 := (((u &&& 255) <<< ((0 : Int32) &&& 31)) ||| ((v &&& 255) <<< ((8 : Int32) &&& 31))).toUInt32.toUInt16.toUInt32.toInt32
theorem shr0 (c : Int32) : c >>> ((0 : Int32) &&& 31) = c := by
  have e : ((0 : Int32) &&& 31) = 0 := by decide
  rw [e]
  apply Int32.toBitVec_inj.mp
  rw [Int32.toBitVec_shiftRight]
  have e1 : ((0 : Int32).toBitVec.smod 32) = 0#32 := by decide
  rw [e1, BitVec.sshiftRight_eq']
  exact BitVec.sshiftRight_zero
theorem lo8_and (x : Int32) : (lo8 x &&& 255).toBitVec.toNat = x.toBitVec.toNat % 256 := by
  have h : (lo8 x).toBitVec = (x.toBitVec.signExtend 8).signExtend 32 := by rw [lo8, Int8.toBitVec_toInt32, Int32.toBitVec_toInt8]
  rw [Int32.toBitVec_and, BitVec.toNat_and, h]
  have e : ((x.toBitVec.signExtend 8).signExtend 32).toNat % 256 = x.toBitVec.toNat % 256 := by
    rw [BitVec.toNat_signExtend]
    have hlt := x.toBitVec.isLt
    simp only [BitVec.toNat_setWidth, BitVec.toNat_signExtend]
    split <;> split <;> omega
  rw [← e]
  exact Nat.and_two_pow_sub_one_eq_mod _ 8
theorem pair_says {c : Int32} (h0 : ¬ c < 0) (h1 : ¬ 65535 < c) : pairCh (lo8 c) (hi8 c) = c := by
  rw [Int32.lt_iff_toInt_lt] at h0 h1
  have e0 : (0 : Int32).toInt = 0 := rfl
  have e1 : (65535 : Int32).toInt = 65535 := rfl
  have hc : c.toInt = c.toBitVec.toNat := by
    have := c.toBitVec.isLt
    have e : c.toInt = c.toBitVec.toInt := rfl
    rw [e] at h0 h1
    rw [e]
    rw [BitVec.toInt_eq_toNat_cond] at h0 h1 ⊢
    split at h0 <;> split <;> omega
  have hn : c.toBitVec.toNat < 65536 := by omega
  have a1 := lo8_and c
  have a2 : (hi8 c &&& 255).toBitVec.toNat = c.toBitVec.toNat / 256 := by
    rw [hi8, lo8_and]
    have e : ((8 : Int32) &&& 31) = 8 := by decide
    rw [e, Int32.toBitVec_shiftRight]
    have e2 : ((8 : Int32).toBitVec.smod 32) = 8#32 := by decide
    rw [e2, BitVec.sshiftRight_eq', BitVec.toNat_sshiftRight_of_msb_false (by rw [BitVec.msb_eq_false_iff_two_mul_lt]; omega)]
    show c.toBitVec.toNat >>> 8 % 256 = _
    rw [Nat.shiftRight_eq_div_pow]
    omega
  unfold pairCh
  apply Int32.toBitVec_inj.mp
  apply BitVec.eq_of_toNat_eq
  have f0 : ((0 : Int32) &&& 31) = 0 := by decide
  have f8 : ((8 : Int32) &&& 31) = 8 := by decide
  rw [f0, f8]
  have g : (((lo8 c &&& 255) <<< (0 : Int32)) ||| ((hi8 c &&& 255) <<< (8 : Int32))).toBitVec.toNat = c.toBitVec.toNat := by
    rw [Int32.toBitVec_or, Int32.toBitVec_shiftLeft, Int32.toBitVec_shiftLeft]
    have s0 : ((0 : Int32).toBitVec.smod 32) = 0#32 := by decide
    have s8 : ((8 : Int32).toBitVec.smod 32) = 8#32 := by decide
    rw [s0, s8, BitVec.toNat_or]
    simp only [BitVec.shiftLeft_eq', BitVec.toNat_shiftLeft, a1, a2]
    show (c.toBitVec.toNat % 256) <<< 0 % 2 ^ 32 ||| (c.toBitVec.toNat / 256) <<< 8 % 2 ^ 32 = _
    rw [Nat.shiftLeft_zero, Nat.mod_eq_of_lt (show c.toBitVec.toNat % 256 < 2 ^ 32 by omega), Nat.mod_eq_of_lt (show (c.toBitVec.toNat / 256) <<< 8 < 2 ^ 32 by rw [Nat.shiftLeft_eq]; omega), Nat.or_comm, ← Nat.shiftLeft_add_eq_or_of_lt (by omega), Nat.shiftLeft_eq]
    omega
  show BitVec.toNat (((((lo8 c &&& 255) <<< (0 : Int32)) ||| ((hi8 c &&& 255) <<< (8 : Int32))).toBitVec.setWidth 16).setWidth 32) = _
  rw [BitVec.toNat_setWidth, BitVec.toNat_setWidth, g]
  omega
end StrChars
namespace StrChars
open Jvm Sem ClassFile Op Lib Jvm.Stand Jvm.Free.XT Jvm.Free.ALB Jvm.Free.JM Jvm.Free
open Jvm.Lib.Cold (StaticIs)
theorem shr1 {n : Nat} (h : 2 * n < 2 ^ 31) : Int32.ofNat (2 * n) >>> ((1 : Int32) &&& 31) = Int32.ofNat n := by
  have e : ((1 : Int32) &&& 31) = 1 := by decide
  rw [e]
  apply Int32.toBitVec_inj.mp
  rw [Int32.toBitVec_shiftRight]
  have e1 : ((1 : Int32).toBitVec.smod 32) = 1#32 := by decide
  have hm : (BitVec.ofNat 32 (2 * n)).toNat = 2 * n := by rw [BitVec.toNat_ofNat, Nat.mod_eq_of_lt (by omega)]
  rw [e1, BitVec.sshiftRight_eq']
  apply BitVec.eq_of_toNat_eq
  show ((BitVec.ofNat 32 (2 * n)).sshiftRight 1).toNat = (BitVec.ofNat 32 n).toNat
  rw [BitVec.toNat_sshiftRight_of_msb_false (by rw [BitVec.msb_eq_false_iff_two_mul_lt, hm]; omega), hm, BitVec.toNat_ofNat, Nat.shiftRight_eq_div_pow]
  omega
/-- the array's cell V codes the n chars f 0 .. f (n - 1) by the coder cd, as the JDK does: coder 1 just where some char is above 255 -/
def Cod (cd : Int32) (n : Nat) (f : Nat → Int32) (V : Cell) : Prop := (cd = 0 ∧ V.slots.size = n ∧ ∀ j, j < n → V.slots[j]? = some (.int (lo8 (f j))) ∧ ¬ 255 < f j) ∨ (cd = 1 ∧ V.slots.size = 2 * n ∧ (∀ j, j < n → V.slots[2 * j]? = some (.int (lo8 (f j))) ∧ V.slots[2 * j + 1]? = some (.int (hi8 (f j)))) ∧ ∃ j, j < n ∧ 255 < f j)
theorem Cod.cd {cd : Int32} {n : Nat} {f : Nat → Int32} {V : Cell} (h : Cod cd n f V) : cd = 0 ∨ cd = 1 := h.imp (fun q => q.1) fun q => q.1
theorem Cod.len {cd : Int32} {n : Nat} {f : Nat → Int32} {V : Cell} (h : Cod cd n f V) (hs : V.slots.size < 2 ^ 31) : Int32.ofNat V.slots.size >>> (cd &&& 31) = Int32.ofNat n := by
  rcases h with ⟨rfl, h, -⟩ | ⟨rfl, h, -⟩
  · rw [shr0, h]
  · rw [h, shr1 (by omega)]
/-- **x is a String of the n chars f 0 .. f (n - 1)**, Latin-1 or UTF-16; its array at t has the cell V -/
def Txt (x t : Addr) (V : Cell) (cd : Int32) (n : Nat) (f : Nat → Int32) (U : State) : Prop := Exact "java/lang/String" x U ∧ Has x "java/lang/String" "value" "[B" (.ref t) U ∧ Has x "java/lang/String" "coder" "B" (.int cd) U ∧ XT.Arr .byte t V U ∧ Cod cd n f V ∧ ∀ j, j < n → ¬ f j < 0 ∧ ¬ 65535 < f j
theorem Txt.mv {x t : Addr} {V : Cell} {cd : Int32} {n : Nat} {f : Nat → Int32} {U U' : State} (h : Txt x t V cd n f U) (hal : U.vm.Alike U'.vm) (hh : U'.heap = U.heap) : Txt x t V cd n f U' := ⟨h.1.mv hal hh, h.2.1.mv hal hh, h.2.2.1.mv hal hh, h.2.2.2.1.mv hal hh, h.2.2.2.2⟩
namespace Cdr
def yN : MethodName := ⟨"java/lang/String", "coder", "()B"⟩
abbrev yB : ByteArray := jdk_42_method_152_code
theorem d0 : decode yB 0 = .ok (.getstatic 38, 3) := by decide +kernel
theorem d3 : decode yB 3 = .ok (.ifCond (.eq) 10, 3) := by decide +kernel
theorem d6 : decode yB 6 = .ok (.aload_n 0, 1) := by decide +kernel
theorem d7 : decode yB 7 = .ok (.getfield 15, 3) := by decide +kernel
theorem d10 : decode yB 10 = .ok (.goto 4, 3) := by decide +kernel
theorem d14 : decode yB 14 = .ok (.ireturn, 1) := by decide +kernel
def site : List Cond := [.fieldLink "java/lang/String" 38 "java/lang/String" "COMPACT_STRINGS" "Z", .fieldLink "java/lang/String" 15 "java/lang/String" "coder" "B"]
def tab : Cond := tabOf yN yB 1 (some .byte) site
def P (x : Addr) (cd z : Int32) (args : Array Value) (s : State) : Prop := args = #[.ref x] ∧ Has x "java/lang/String" "coder" "B" (.int cd) s ∧ (cd = 0 ∨ cd = 1) ∧ StaticIs s "java/lang/String" "COMPACT_STRINGS" "Z" (.int z) ∧ ¬ z = 0
def E (cd : Int32) (r : Option Value) (s u : State) : Prop := XT.PureE (some (.int cd)) r s u
theorem law (l : Launch) (x : Addr) (cd z : Int32) : Law l yN 1 0 0 0 yB 1 (some .byte) site (P x cd z) (E cd) [] 0 0 := by
  refine Law.of_walk (plainFor_of_name (by decide +kernel)) (by decide +kernel) (by decide +kernel) (by decide) (fun _ _ h => by rw [h.1]; rfl) (fun _ U U' hal hh h => ⟨h.1, h.2.1.mv hal hh, h.2.2.1, h.2.2.2.1.there hal hh, h.2.2.2.2⟩) (fun r U U' V V' h1 hal h2 h => XT.PureE.mv r U U' V V' h1 hal h2 h) ?_
  intro p e s m args below meth c s₁ X0 hexec hbytes hml hret hlk hnm hown hh0 W hP
  obtain ⟨rfl, hx, hc, s1, hz⟩ := hP
  have c1 : Steps p.tables e below (s₁.setTop (entryFrame m #[.ref x] 1)) (s₁.setTop (mkF m 0 #[.val (.ref x)] [])) := entry rfl
  obtain ⟨T2, X2, q2, st2⟩ := X0.sget hexec hown (wk W (.fieldLink "java/lang/String" 38 "java/lang/String" "COMPACT_STRINGS" "Z")) s1 (fun _ _ h => by rw [hh0]; exact h) (g := (mkF m 0 #[.val (.ref x)] [])) rfl (hb hbytes d0)
  have hh2 := q2.trans hh0
  have c3 : Steps p.tables e below (s₁.setTop (entryFrame m #[.ref x] 1)) (T2.setTop (mkF m 7 #[.val (.ref x)] [.ref x])) := (c1.trans (st2 _ (Steps.refl _))).trans (by
    refine XS.ifNo X2.here hexec rfl (hb hbytes d3) rfl (i0_eq_f hz) ?_
    refine XS.aloadN X2.here hexec rfl (hb hbytes d6) rfl rfl ?_
    exact Steps.refl _)
  obtain ⟨T4, X4, q4, st4⟩ := X2.hget hexec hown (wk W (.fieldLink "java/lang/String" 15 "java/lang/String" "coder" "B")) (hx.mv X2.warmed.alike hh2) (g := (mkF m 7 #[.val (.ref x)] [.ref x])) rfl (rest := []) rfl (hb hbytes d7)
  have c5 : Steps p.tables e below (s₁.setTop (entryFrame m #[.ref x] 1)) (T4.setTop (mkF m 14 #[.val (.ref x)] [.int cd])) := (c3.trans (st4 _ (Steps.refl _))).trans (by
    refine XS.goto X4.here hexec rfl (pc0 := 10) rfl (hb hbytes d10) (by decide) rfl ?_
    exact Steps.refl _)
  exact ⟨T4, some (.int cd), _, _, _, X4, rfl, rfl, rfl, (fun h => by cases h), ⟨rfl, q4.trans hh2⟩, fun fs hl => c5.trans (X4.ireturnOut hexec hret (by rcases hc with rfl | rfl <;> rfl) (Or.inr (Or.inr (Or.inl rfl))) (hb hbytes d14) hl)⟩
end Cdr
namespace Len
def yN : MethodName := ⟨"java/lang/String", "length", "()I"⟩
abbrev yB : ByteArray := jdk_42_method_54_code
theorem d0 : decode yB 0 = .ok (.aload_n 0, 1) := by decide +kernel
theorem d1 : decode yB 1 = .ok (.getfield 9, 3) := by decide +kernel
theorem d4 : decode yB 4 = .ok (.arraylength, 1) := by decide +kernel
theorem d5 : decode yB 5 = .ok (.aload_n 0, 1) := by decide +kernel
theorem d6 : decode yB 6 = .ok (.invokevirtual 335, 3) := by decide +kernel
theorem d9 : decode yB 9 = .ok (.ishr, 1) := by decide +kernel
theorem d10 : decode yB 10 = .ok (.ireturn, 1) := by decide +kernel
def site : List Cond := [.fieldLink "java/lang/String" 9 "java/lang/String" "value" "[B", Cdr.tab] ++ virtW "java/lang/String" 335 "java/lang/String" Cdr.yN Cdr.yN
def tab : Cond := tabOf yN yB 1 (some .int) site
def P (x t : Addr) (V : Cell) (cd : Int32) (n : Nat) (f : Nat → Int32) (z : Int32) (args : Array Value) (s : State) : Prop := args = #[.ref x] ∧ Txt x t V cd n f s ∧ StaticIs s "java/lang/String" "COMPACT_STRINGS" "Z" (.int z) ∧ ¬ z = 0
def E (n : Nat) (r : Option Value) (s u : State) : Prop := XT.PureE (some (.int (Int32.ofNat n))) r s u
/-- length() of a String of n chars, in either coding -/
theorem law (l : Launch) (x t : Addr) (V : Cell) (cd : Int32) (n : Nat) (f : Nat → Int32) (z : Int32) : Law l yN 1 0 1 13 yB 1 (some .int) site (P x t V cd n f z) (E n) [] 0 0 := by
  refine Law.of_walk (plainFor_of_name (by decide +kernel)) (by decide +kernel) (by decide +kernel) (by decide) (fun _ _ h => by rw [h.1]; rfl) (fun _ U U' hal hh h => ⟨h.1, h.2.1.mv hal hh, h.2.2.1.there hal hh, h.2.2.2⟩) (fun r U U' V V' h1 hal h2 h => XT.PureE.mv r U U' V V' h1 hal h2 h) ?_
  intro p e s m args below meth c s₁ X0 hexec hbytes hml hret hlk hnm hown hh0 W hP
  obtain ⟨rfl, hx, s1, hz⟩ := hP
  have v31 := hx.2.2.2.1.2.2.2
  have c1 : Steps p.tables e below (s₁.setTop (entryFrame m #[.ref x] 1)) (s₁.setTop (mkF m 1 #[.val (.ref x)] [.ref x])) := Steps.trans (entry rfl) (by
    show Steps p.tables e below (s₁.setTop (mkF m 0 #[.val (.ref x)] [])) _
    refine XS.aloadN X0.here hexec rfl (hb hbytes d0) rfl rfl ?_
    exact Steps.refl _)
  obtain ⟨T2, X2, q2, st2⟩ := X0.hget hexec hown (wk W (.fieldLink "java/lang/String" 9 "java/lang/String" "value" "[B")) (hx.mv X0.warmed.alike hh0).2.1 (g := (mkF m 1 #[.val (.ref x)] [.ref x])) rfl (rest := []) rfl (hb hbytes d1)
  have hh2 := q2.trans hh0
  have hx2 := hx.mv X2.warmed.alike hh2
  have c3 : Steps p.tables e below (s₁.setTop (entryFrame m #[.ref x] 1)) (T2.setTop (mkF m 6 #[.val (.ref x)] [.ref x, .int (Int32.ofNat V.slots.size)])) := (c1.trans (st2 _ (Steps.refl _))).trans (by
    refine X2.alen hexec hx2.2.2.2.1 rfl rfl (hb hbytes d4) ?_
    refine XS.aloadN X2.here hexec rfl (hb hbytes d5) rfl rfl ?_
    exact Steps.refl _)
  obtain ⟨v4, T4, X4, E4, g4⟩ := X2.callV hexec (Cdr.law l x cd z) hown (wks W (virtW "java/lang/String" 335 "java/lang/String" Cdr.yN Cdr.yN)) rfl (by decide) (wk W Cdr.tab) (W := 1) (Nat.le_of_ble_eq_true rfl) (Nat.le_of_ble_eq_true rfl) (Nat.le_refl _) (Nat.le_refl _) (hx2.1.fc X2.warmed.alike) hx2.1.is (g := (mkF m 6 #[.val (.ref x)] [.ref x, .int (Int32.ofNat V.slots.size)])) rfl (by rw [hml]; rfl) c3 (argsL := []) (rest := [.int (Int32.ofNat V.slots.size)]) rfl rfl (by show 2 * 0 + (1 + 0) ≤ _; decide) (hb hbytes d6) (⟨rfl, hx2.2.2.1, hx.2.2.2.2.1.cd, s1.there X2.warmed.alike hh2, hz⟩)
  obtain ⟨rfl, q4⟩ := E4
  have c5 : Steps p.tables e below (s₁.setTop (entryFrame m #[.ref x] 1)) (T4.setTop (mkF m 10 #[.val (.ref x)] [.int (Int32.ofNat V.slots.size >>> (cd &&& 31))])) := Steps.trans g4 (by
    refine ishr X4.here hexec rfl (hb hbytes d9) rfl ?_
    exact Steps.refl _)
  rw [hx.2.2.2.2.1.len v31] at c5
  exact ⟨T4, some (.int (Int32.ofNat n)), _, _, _, X4, rfl, rfl, rfl, (fun h => by cases h), ⟨rfl, q4.trans hh2⟩, fun fs hl => c5.trans (X4.ireturnOut hexec hret rfl (Or.inl rfl) (hb hbytes d10) hl)⟩
theorem pays {l : Launch} {R : Room} {p : Program} {e : Env} {below : List Frame} {s : State} {sargs : Array Value} {len W : Nat} (x t : Addr) (V : Cell) (cd : Int32) (n : Nat) (f : Nat → Int32) (z : Int32) (htab : tab.before sargs s = true) (hfr : 2 ≤ R.frames) (hlo : W + 25 ≤ R.locals) :
    Back l R p e below s sargs yN len W (fun A₁ a₁ => A₁.cells + 0 ≤ R.cells ∧ A₁.slots + 0 ≤ R.slots ∧ P x t V cd n f z a₁ A₁.U) (fun A₁ _ v₁ B₁ => E n v₁ A₁.U B₁.U ∧ B₁.locs = A₁.locs ++ [] ∧ B₁.cells = A₁.cells + 0 ∧ B₁.slots = A₁.slots + 0) :=
  (law l x t V cd n f z).pays htab hfr (by omega)
end Len
end StrChars
namespace StrChars.Road
open Jvm Sem ClassFile Op Lib Jvm.Stand Jvm.Free Jvm.Free.XT
open Jvm.Lib.Cold (StaticIs)
theorem consq {a : Array Value} {s : State} {c : Jvm.Cond} {L : List Jvm.Cond} (h0 : c.before a s = true) (h : ∀ w ∈ L, w.before a s = true) : ∀ w ∈ c :: L, w.before a s = true := fun w hw => (List.mem_cons.mp hw).elim (fun e => e ▸ h0) (h w)
/-- the words of String.length(), either coding -/
abbrev wordsLen : List Jvm.Cond := [.code Len.yN Len.yB 1 (some .int), .initialized ST, .fieldLink ST 9 ST "value" "[B", .fieldLink ST 38 ST "COMPACT_STRINGS" "Z", .fieldLink ST 15 ST "coder" "B", .code Cdr.yN Cdr.yB 1 (some .byte), .methodLink ST 335 Cdr.yN, .declares Cdr.yN, .selects ST Cdr.yN Cdr.yN, .instanceMethod Cdr.yN]
theorem tabLen_of {a : Array Value} {s : State} (h : ∀ w ∈ wordsLen, w.before a s = true) : Len.tab.before a s = true := by
  have hc : Cdr.tab.before a s = true := unparts (wk h (.code Cdr.yN Cdr.yB 1 (some .byte))) (wks h (.initialized Cdr.yN.cls :: Cdr.site))
  have q := consq hc h
  exact unparts (wk q (.code Len.yN Len.yB 1 (some .int))) (wks q (.initialized Len.yN.cls :: Len.site))
theorem movedLen {Z s : State} {a0 args : Array Value} (hZ : Z.Warmed39 s.vm) (hw : ∀ d ∈ wordsLen, d.before a0 Z = true) : ∀ d ∈ wordsLen, d.before args s = true := fun d hd => by
  have q := hw d hd
  have t : ∀ d ∈ wordsLen, d = .arrayClass .byte ∨ (d.onTables && d.keepsFace) = true := by decide +kernel
  rcases t d hd with rfl | t
  · exact RoadKit.mvA hZ q
  · exact RoadKit.mv hZ q t
/-- the bytes of the chars cs, low before high -/
def wideBytes : List Int32 → List Value
  | [] => []
  | c :: cs => .int (lo8 c) :: .int (hi8 c) :: wideBytes cs
theorem wide_lo (d : Value) : ∀ (cs : List Int32) (j : Nat), j < cs.length → (wideBytes cs).getD (2 * j) d = .int (lo8 (cs.getD j 0))
  | [], j, h => absurd h (Nat.not_lt_zero j)
  | c :: cs, 0, _ => rfl
  | c :: cs, j + 1, h => by
    have q := wide_lo d cs j (by simpa using h)
    rw [show 2 * (j + 1) = 2 * j + 1 + 1 from by omega]
    simpa [wideBytes] using q
theorem wide_hi (d : Value) : ∀ (cs : List Int32) (j : Nat), j < cs.length → (wideBytes cs).getD (2 * j + 1) d = .int (hi8 (cs.getD j 0))
  | [], j, h => absurd h (Nat.not_lt_zero j)
  | c :: cs, 0, _ => rfl
  | c :: cs, j + 1, h => by
    have q := wide_hi d cs j (by simpa using h)
    rw [show 2 * (j + 1) + 1 = 2 * j + 1 + 1 + 1 from by omega]
    simpa [wideBytes] using q
theorem low_at (d : Value) (cs : List Int32) (j : Nat) (h : j < cs.length) : (cs.map fun c => Value.int (lo8 c)).getD j d = .int (lo8 (cs.getD j 0)) := by
  simp [List.getD_eq_getElem?_getD, h]
/-- an array of N2 bytes vs codes the chars cs by the coder cd -/
def CodA (cs : List Int32) (cd N2 : Int32) (vs : List Value) : Prop := (cd = 0 ∧ N2 = Int32.ofNat cs.length ∧ vs = (cs.map fun c => Value.int (lo8 c)) ∧ ∀ c ∈ cs, ¬ 255 < c) ∨ (cd = 1 ∧ N2 = Int32.ofNat (2 * cs.length) ∧ vs = wideBytes cs ∧ ∃ c ∈ cs, 255 < c)
theorem CodA.cod {cs : List Int32} {cd N2 : Int32} {vs : List Value} {V : Cell} (h : CodA cs cd N2 vs) (hn : 2 * cs.length < 2 ^ 31) (hs : V.slots.size = N2.toNatClampNeg) (hv : RoadKit.Has V vs (.int 0)) : Cod cd cs.length (fun j => cs.getD j 0) V := by
  rcases h with ⟨rfl, rfl, rfl, h⟩ | ⟨rfl, rfl, rfl, c, hc, hw⟩
  · rw [n32 (by omega)] at hs
    exact Or.inl ⟨rfl, hs, fun j hj => ⟨by rw [hv j (by omega), low_at _ _ _ hj], by
      have e : cs.getD j 0 = cs[j] := by simp [List.getD_eq_getElem?_getD, hj]
      show ¬ 255 < cs.getD j 0
      rw [e]; exact h _ (List.getElem_mem _)⟩⟩
  · rw [n32 (by omega)] at hs
    obtain ⟨j, hj, rfl⟩ := List.getElem_of_mem hc
    exact Or.inr ⟨rfl, hs, fun j hj => ⟨by rw [hv _ (by omega), wide_lo _ _ _ hj], by rw [hv _ (by omega), wide_hi _ _ _ hj]⟩, j, hj, by
      have e : cs.getD j 0 = cs[j] := by simp [List.getD_eq_getElem?_getD, hj]
      show 255 < cs.getD j 0
      rw [e]; exact hw⟩
/-- an object of exactly java/lang/String, its two fields found: as the laws ask it -/
theorem strObj {Z U : State} {a0 : Array Value} {kI : Nat} (wi : (Jvm.Cond.instantiable ST kI).before a0 Z = true) (al : Z.vm.Alike U.vm) {x : Addr} {v0 c0 : Value} (E : RoadKit.Exa Z U.heap x ST) (V : RoadKit.Fld Z U.heap x ST "value" "[B" v0) (C : RoadKit.Fld Z U.heap x ST "coder" "B" c0) :
    ∃ (D : Cell) (fV fC : Field), Blank ST x D U ∧ Found ST "value" "[B" fV U ∧ Found ST "coder" "B" fC U ∧ D.slots[fV.slot]? = some v0 ∧ D.slots[fC.slot]? = some c0 ∧ RoadKit.slotOf Z ST "value" "[B" = fV.slot ∧ RoadKit.slotOf Z ST "coder" "B" = fC.slot := by
  obtain ⟨D, cfV, kV, iV, fV, hD, gV, stV, knV, obV, asV, slV⟩ := V
  obtain ⟨D', cfC, kC, iC, fC, hD', gC, stC, -, -, asC, slC⟩ := C
  cases hD.symm.trans hD'
  obtain ⟨D2, kD, e1, e2, e3, e4, e5⟩ := E
  cases hD.symm.trans e1
  obtain ⟨c2, k2, i1, i2, i3, -⟩ := Cond.instantiable_spec wi
  cases e2.symm.trans i1
  cases e3.symm.trans i2
  obtain ⟨kU, u1, u2⟩ := al.2.2 _ _ e3
  exact ⟨D, fV, fC, ⟨hD, ⟨knV, fun q hq => by rw [hq] at obV; cases obV⟩, by rw [al.findClass]; exact e2, kU, u1, by rw [u2]; exact i3, by rw [u2]; exact e5 i3⟩, ⟨SBG.found_only al ⟨cfV, kV, iV, gV⟩, stV⟩, ⟨SBG.found_only al ⟨cfC, kC, iC, gC⟩, stC⟩, slV, slC, by simp [RoadKit.slotOf, gV], by simp [RoadKit.slotOf, gC]⟩
theorem sta_is {Z U : State} (al : Z.vm.Alike U.vm) {C n d : String} {v : Value} (S : RoadKit.Sta Z U.heap C n d v) : StaticIs U C n d v := by
  obtain ⟨cfS, iS, kS, fS, st, cS, t1, t2, t3, t4, t5, t6, t7⟩ := S
  exact StaticIs.there (s := { Z with heap := U.heap }) ⟨cfS, iS, kS, fS, st, cS, t1, t2, t3, t4, t5, (fun q => by rw [q] at t6; cases t6), t7⟩ al rfl
/-- **length() OF SUCH A STRING** -/
theorem lenW {p : Program} {l : Launch} {e : Env} {R : Room} {s : State} {args : Array Value} {below : List Frame} {len W : Nat} {Z : State} {a0 : Array Value} {h : Heap} (hZ : Z.Warmed39 s.vm) (hw : ∀ d ∈ wordsLen, d.before a0 Z = true) {kI : Nat} (wi : (Jvm.Cond.instantiable ST kI).before a0 Z = true)
    {x t : Addr} {kb : ClassId} {cs : List Int32} {cd N2 z : Int32} {vs : List Value} (E : RoadKit.Exa Z h x ST) (V : RoadKit.Fld Z h x ST "value" "[B" (.ref t)) (C : RoadKit.Fld Z h x ST "coder" "B" (.int cd)) (K : RoadKit.Arv Z h t kb .byte N2 vs (.int 0)) (hc : CodA cs cd N2 vs) (hb : ∀ c ∈ cs, ¬ c < 0 ∧ ¬ (65535 : Int32) < c)
    (S : RoadKit.Sta Z h ST "COMPACT_STRINGS" "Z" (.int z)) (hz : ¬ z = 0) (l2 : cs.length ≤ 4000) (hfr : 2 ≤ R.frames) (hlo : W + 25 ≤ R.locals) :
    Back l R p e below s args (⟨"java/lang/String", "length", "()I"⟩ : MethodName) len W (fun P a => a = #[.ref x] ∧ P.U.heap = h ∧ P.cells + 0 ≤ R.cells ∧ P.slots + 0 ≤ R.slots)
      (fun P _ v B => ∃ L, (v = some (.int (Int32.ofNat cs.length)) ∧ L = [] ∧ B.U.heap = h) ∧ B.locs = P.locs ++ L ∧ B.cells = P.cells + 0 ∧ B.slots = P.slots + 0) := by
  obtain ⟨A, K1, K2, K3, K4, K5, K6⟩ := K
  have hcod := hc.cod (by omega) K3 K5
  intro m meth c P g ig mk a X hg hsize hdg hW hn hp'
  obtain ⟨rfl, rfl, r1, r2⟩ := hp'
  have al : Z.vm.Alike P.U.vm := hZ.alike.trans X.warmed.alike
  obtain ⟨D, fV, fC, hB, F1, F2, g1, g2, -, -⟩ := strObj wi al E V C
  have hx : Txt x t A cd cs.length (fun j => cs.getD j 0) P.U := ⟨⟨_, hB.2.2.1, D, hB.1, rfl, by cases q : D.vm <;> first | rfl | exact absurd q (hB.2.1.2 _)⟩, Has.of hB F1 g1, Has.of hB F2 g2, ⟨K1.1, State.isArrayOf_alike al K1.2.1, K1.2.2, by rcases hcod with ⟨-, q, -⟩ | ⟨-, q, -⟩ <;> omega⟩, hcod, fun j hj => by
    have e : cs.getD j 0 = cs[j] := by simp [List.getD_eq_getElem?_getD, hj]
    show ¬ cs.getD j 0 < 0 ∧ ¬ 65535 < cs.getD j 0
    rw [e]; exact hb _ (List.getElem_mem _)⟩
  obtain ⟨v, B, X', ⟨⟨hv, hh⟩, hl, hk, hs⟩, st⟩ := Len.pays x t A cd cs.length (fun j => cs.getD j 0) z (tabLen_of (movedLen hZ hw)) hfr hlo m meth c P g ig mk _ X hg hsize hdg hW hn ⟨r1, r2, rfl, hx, sta_is al S, hz⟩
  exact ⟨v, B, X', ⟨[], ⟨hv, rfl, hh⟩, hl, hk, hs⟩, st⟩
end StrChars.Road
namespace StrChars
open Jvm Sem ClassFile Op Lib Jvm.Stand Jvm.Free.XT Jvm.Free.ALB Jvm.Free.JM Jvm.Free
open Jvm.Lib.Cold (StaticIs)
/-- what place i of a byte[]'s cell holds -/
def yv (A : Cell) (i : Nat) : Int32 := match A.slots[i]? with | some (.int x) => x | _ => 0
theorem yv_get {a : Addr} {A : Cell} {U : State} (h : XT.Arr .byte a A U) (ht : Typed .byte A) {i : Nat} (hi : i < A.slots.size) : A.slots[i]? = some (.int (yv A i)) := by
  have e := Array.getElem?_eq_getElem hi
  have f := ht i _ e
  unfold yv; rw [e]
  generalize A.slots[i] = v at f
  cases v <;> simp [fits] at f ⊢
/-- the two arrays are equal, place for place -/
def EqC (A B : Cell) : Prop := A.slots.size = B.slots.size ∧ ∀ i, i < A.slots.size → yv A i = yv B i
/-- a boolean that says whether p -/
def Says01 (q : Prop) (r : Option Value) (s u : State) : Prop := ∃ v : Int32, r = some (.int v) ∧ u.heap = s.heap ∧ ((v = 1 ∧ q) ∨ (v = 0 ∧ ¬ q))
theorem Says01.mv {q : Prop} : ∀ r (U U' V V' : State), U'.heap = U.heap → V.vm.Alike V'.vm → V'.heap = V.heap → Says01 q r U V → Says01 q r U' V' :=
  fun r U U' V V' h1 _ h2 ⟨v, a, b, c⟩ => ⟨v, a, by rw [h1, h2]; exact b, c⟩
namespace LEq
def yN : MethodName := ⟨"java/lang/StringLatin1", "equals", "([B[B)Z"⟩
abbrev yB : ByteArray := jdk_43_method_13_code
theorem d0 : decode yB 0 = .ok (.aload_n 0, 1) := by decide +kernel
theorem d1 : decode yB 1 = .ok (.arraylength, 1) := by decide +kernel
theorem d2 : decode yB 2 = .ok (.aload_n 1, 1) := by decide +kernel
theorem d3 : decode yB 3 = .ok (.arraylength, 1) := by decide +kernel
theorem d4 : decode yB 4 = .ok (.if_icmp (.ne) 30, 3) := by decide +kernel
theorem d7 : decode yB 7 = .ok (.iconst 0, 1) := by decide +kernel
theorem d8 : decode yB 8 = .ok (.istore_n 2, 1) := by decide +kernel
theorem d9 : decode yB 9 = .ok (.iload_n 2, 1) := by decide +kernel
theorem d10 : decode yB 10 = .ok (.aload_n 0, 1) := by decide +kernel
theorem d11 : decode yB 11 = .ok (.arraylength, 1) := by decide +kernel
theorem d12 : decode yB 12 = .ok (.if_icmp (.ge) 20, 3) := by decide +kernel
theorem d15 : decode yB 15 = .ok (.aload_n 0, 1) := by decide +kernel
theorem d16 : decode yB 16 = .ok (.iload_n 2, 1) := by decide +kernel
theorem d17 : decode yB 17 = .ok (.baload, 1) := by decide +kernel
theorem d18 : decode yB 18 = .ok (.aload_n 1, 1) := by decide +kernel
theorem d19 : decode yB 19 = .ok (.iload_n 2, 1) := by decide +kernel
theorem d20 : decode yB 20 = .ok (.baload, 1) := by decide +kernel
theorem d21 : decode yB 21 = .ok (.if_icmp (.eq) 5, 3) := by decide +kernel
theorem d24 : decode yB 24 = .ok (.iconst 0, 1) := by decide +kernel
theorem d25 : decode yB 25 = .ok (.ireturn, 1) := by decide +kernel
theorem d26 : decode yB 26 = .ok (.iinc 2 1, 3) := by decide +kernel
theorem d29 : decode yB 29 = .ok (.goto (-20), 3) := by decide +kernel
theorem d32 : decode yB 32 = .ok (.iconst 1, 1) := by decide +kernel
theorem d33 : decode yB 33 = .ok (.ireturn, 1) := by decide +kernel
theorem d34 : decode yB 34 = .ok (.iconst 0, 1) := by decide +kernel
theorem d35 : decode yB 35 = .ok (.ireturn, 1) := by decide +kernel
def site : List Cond := []
def tab : Cond := tabOf yN yB 3 (some .boolean) site
def P (a : Addr) (A : Cell) (b : Addr) (B : Cell) (args : Array Value) (s : State) : Prop := args = #[.ref a, .ref b] ∧ XT.Arr .byte a A s ∧ Typed .byte A ∧ XT.Arr .byte b B s ∧ Typed .byte B
/-- whether two byte[] are equal, place for place -/
theorem law (l : Launch) (a : Addr) (A : Cell) (b : Addr) (B : Cell) : Law l yN 2 2 0 0 yB 3 (some .boolean) site (P a A b B) (Says01 (EqC A B)) [] 0 0 := by
  refine Law.of_walk (plainFor_of_name (by decide +kernel)) (by decide +kernel) (by decide +kernel) (by decide) (fun _ _ h => by rw [h.1]; rfl) (fun _ U U' hal hh h => ⟨h.1, h.2.1.mv hal hh, h.2.2.1, h.2.2.2.1.mv hal hh, h.2.2.2.2⟩) (fun r U U' V V' h1 hal h2 h => Says01.mv r U U' V V' h1 hal h2 h) ?_
  intro p e s m args below meth c s₁ X0 hexec hbytes hml hret hlk hnm hown hh0 W hP
  obtain ⟨rfl, hA, tA, hB, tB⟩ := hP
  have a31 := hA.2.2.2
  have b31 := hB.2.2.2
  have hA0 := hA.mv X0.warmed.alike hh0
  have hB0 := hB.mv X0.warmed.alike hh0
  have c1 : Steps p.tables e below (s₁.setTop (entryFrame m #[.ref a, .ref b] 3)) (s₁.setTop (mkF m 0 #[.val (.ref a), .val (.ref b), .unset] [])) := entry rfl
  have c2 : Steps p.tables e below (s₁.setTop (entryFrame m #[.ref a, .ref b] 3)) (s₁.setTop (mkF m 4 #[.val (.ref a), .val (.ref b), .unset] [.int (Int32.ofNat B.slots.size), .int (Int32.ofNat A.slots.size)])) := c1.trans (by
    refine XS.aloadN X0.here hexec rfl (hb hbytes d0) rfl rfl ?_
    refine X0.alen hexec hA0 rfl rfl (hb hbytes d1) ?_
    refine XS.aloadN X0.here hexec rfl (hb hbytes d2) rfl rfl ?_
    refine X0.alen hexec hB0 rfl rfl (hb hbytes d3) ?_
    exact Steps.refl _)
  by_cases hs : A.slots.size = B.slots.size
  · have c3 : Steps p.tables e below (s₁.setTop (entryFrame m #[.ref a, .ref b] 3)) (s₁.setTop (mkF m 9 #[.val (.ref a), .val (.ref b), .val (.int 0)] [])) := c2.trans (by
      refine XS.icmpNo X0.here hexec rfl (hb hbytes d4) rfl (ii_ne_f (by rw [hs])) ?_
      refine iconstV X0.here hexec rfl 0 (hb hbytes d7) (by decide) ?_
      refine XS.istoreN X0.here hexec rfl (hb hbytes d8) rfl rfl ?_
      exact Steps.refl _)
    have loop : ∀ (r i : Nat), i + r = A.slots.size → (∀ j, j < i → yv A j = yv B j) → Steps p.tables e below (s₁.setTop (entryFrame m #[.ref a, .ref b] 3)) (s₁.setTop (mkF m 9 #[.val (.ref a), .val (.ref b), .val (.int (Int32.ofNat i))] [])) → ∃ (pc : Nat) (Ls : Array Slot) (v : Int32), (pc = 25 ∨ pc = 33) ∧ ((v = 1 ∧ EqC A B) ∨ (v = 0 ∧ ¬ EqC A B)) ∧ Steps p.tables e below (s₁.setTop (entryFrame m #[.ref a, .ref b] 3)) (s₁.setTop (mkF m pc Ls [.int v])) := by
      intro r
      induction r with
      | zero =>
        intro i hi he cl
        exact ⟨33, _, 1, Or.inr rfl, Or.inl ⟨rfl, hs, fun j hj => he j (by omega)⟩, cl.trans (by
          refine XS.iloadN X0.here hexec rfl (hb hbytes d9) rfl ?_
          refine XS.aloadN X0.here hexec rfl (hb hbytes d10) rfl rfl ?_
          refine X0.alen hexec hA0 rfl rfl (hb hbytes d11) ?_
          refine XS.icmpYes X0.here hexec rfl (pc0 := 12) rfl (hb hbytes d12) rfl (ii_ge_t (nlt32 (by omega) (by omega))) (by decide) rfl ?_
          refine iconstV X0.here hexec rfl 1 (hb hbytes d32) (by decide) ?_
          exact Steps.refl _)⟩
      | succ r ih =>
        intro i hi he cl
        have c4 : Steps p.tables e below (s₁.setTop (entryFrame m #[.ref a, .ref b] 3)) (s₁.setTop (mkF m 21 #[.val (.ref a), .val (.ref b), .val (.int (Int32.ofNat i))] [.int (yv B i), .int (yv A i)])) := cl.trans (by
          refine XS.iloadN X0.here hexec rfl (hb hbytes d9) rfl ?_
          refine XS.aloadN X0.here hexec rfl (hb hbytes d10) rfl rfl ?_
          refine X0.alen hexec hA0 rfl rfl (hb hbytes d11) ?_
          refine XS.icmpNo X0.here hexec rfl (hb hbytes d12) rfl (ii_ge_f (lt32 (by omega) (by omega))) ?_
          refine XS.aloadN X0.here hexec rfl (hb hbytes d15) rfl rfl ?_
          refine XS.iloadN X0.here hexec rfl (hb hbytes d16) rfl ?_
          refine X0.aget hexec hA0 rfl (yv_get hA tA (i := i) (by omega)) rfl rfl (hb hbytes d17) ?_
          refine XS.aloadN X0.here hexec rfl (hb hbytes d18) rfl rfl ?_
          refine XS.iloadN X0.here hexec rfl (hb hbytes d19) rfl ?_
          refine X0.aget hexec hB0 rfl (yv_get hB tB (i := i) (by omega)) rfl rfl (hb hbytes d20) ?_
          exact Steps.refl _)
        by_cases hv : yv A i = yv B i
        · have c5 : Steps p.tables e below (s₁.setTop (entryFrame m #[.ref a, .ref b] 3)) (s₁.setTop (mkF m 9 #[.val (.ref a), .val (.ref b), .val (.int (Int32.ofNat i + 1))] [])) := c4.trans (by
            refine XS.icmpYes X0.here hexec rfl (pc0 := 21) rfl (hb hbytes d21) rfl (ii_eq_t hv) (by decide) rfl ?_
            refine iincV X0.here hexec rfl 1 (hb hbytes d26) (by decide) rfl rfl ?_
            refine XS.goto X0.here hexec rfl (pc0 := 29) rfl (hb hbytes d29) (by decide) rfl ?_
            exact Steps.refl _)
          rw [succ32] at c5
          exact ih (i + 1) (by omega) (fun j hj => by
            by_cases e : j = i
            · rw [e]; exact hv
            · exact he j (by omega)) c5
        · exact ⟨25, _, 0, Or.inl rfl, Or.inr ⟨rfl, fun q => hv (q.2 i (by omega))⟩, c4.trans (by
            refine XS.icmpNo X0.here hexec rfl (hb hbytes d21) rfl (ii_eq_f hv) ?_
            refine iconstV X0.here hexec rfl 0 (hb hbytes d24) (by decide) ?_
            exact Steps.refl _)⟩
    obtain ⟨pc, Ls, v, hpc, hv, cz⟩ := loop A.slots.size 0 (by omega) (fun j hj => absurd hj (Nat.not_lt_zero j)) c3
    have nv : narrow .boolean (.int v) = .int v := by rcases hv with ⟨rfl, -⟩ | ⟨rfl, -⟩ <;> rfl
    rcases hpc with rfl | rfl
    · exact ⟨s₁, some (.int v), _, _, _, X0, rfl, rfl, rfl, (fun h => by cases h), ⟨v, rfl, hh0, hv⟩, fun fs hl => cz.trans (X0.ireturnOut hexec hret nv (Or.inr (Or.inl rfl)) (hb hbytes d25) hl)⟩
    · exact ⟨s₁, some (.int v), _, _, _, X0, rfl, rfl, rfl, (fun h => by cases h), ⟨v, rfl, hh0, hv⟩, fun fs hl => cz.trans (X0.ireturnOut hexec hret nv (Or.inr (Or.inl rfl)) (hb hbytes d33) hl)⟩
  · have c3 : Steps p.tables e below (s₁.setTop (entryFrame m #[.ref a, .ref b] 3)) (s₁.setTop (mkF m 35 #[.val (.ref a), .val (.ref b), .unset] [.int 0])) := c2.trans (by
      refine XS.icmpYes X0.here hexec rfl (pc0 := 4) rfl (hb hbytes d4) rfl (ii_ne_t (ne32 a31 b31 hs)) (by decide) rfl ?_
      refine iconstV X0.here hexec rfl 0 (hb hbytes d34) (by decide) ?_
      exact Steps.refl _)
    exact ⟨s₁, some (.int 0), _, _, _, X0, rfl, rfl, rfl, (fun h => by cases h), ⟨0, rfl, hh0, Or.inr ⟨rfl, fun q => hs q.1⟩⟩, fun fs hl => c3.trans (X0.ireturnOut hexec hret rfl (Or.inr (Or.inl rfl)) (hb hbytes d35) hl)⟩
end LEq
theorem Cod.ty {cd : Int32} {n : Nat} {f : Nat → Int32} {V : Cell} (h : Cod cd n f V) : Typed .byte V := fun i v hv => by
  have hi : i < V.slots.size := (Array.getElem?_eq_some_iff.mp hv).1
  rcases h with ⟨-, k1, k2⟩ | ⟨-, k1, k2, -⟩
  · rw [(k2 i (by omega)).1] at hv; cases hv; exact fits_lo8 _
  · rcases Nat.mod_two_eq_zero_or_one i with e | e
    · obtain ⟨j, rfl⟩ : ∃ j, i = 2 * j := ⟨i / 2, by omega⟩
      rw [(k2 j (by omega)).1] at hv; cases hv; exact fits_lo8 _
    · obtain ⟨j, rfl⟩ : ∃ j, i = 2 * j + 1 := ⟨i / 2, by omega⟩
      rw [(k2 j (by omega)).2] at hv; cases hv; exact fits_lo8 _
/-- the same text -/
def SameT (n : Nat) (f : Nat → Int32) (k : Nat) (g : Nat → Int32) : Prop := n = k ∧ ∀ j, j < n → f j = g j
theorem lo8_inj {x y : Int32} (h0 : ¬ x < 0) (h1 : ¬ 255 < x) (k0 : ¬ y < 0) (k1 : ¬ 255 < y) (h : lo8 x = lo8 y) : x = y := by
  rw [← lo8_mask h0 h1, ← lo8_mask k0 k1, h]
/-- arrays coded by one coder are equal just where the texts are -/
theorem Cod.eqv {cd : Int32} {n k : Nat} {f g : Nat → Int32} {V V' : Cell} (h : Cod cd n f V) (h' : Cod cd k g V') (hf : ∀ j, j < n → ¬ f j < 0 ∧ ¬ 65535 < f j) (hg : ∀ j, j < k → ¬ g j < 0 ∧ ¬ 65535 < g j) : EqC V V' ↔ SameT n f k g := by
  have yvv : ∀ {W : Cell} {i : Nat} {x : Int32}, W.slots[i]? = some (.int x) → yv W i = x := fun q => by unfold yv; rw [q]
  rcases h with ⟨rfl, k1, k2⟩ | ⟨rfl, k1, k2, -⟩
  · rcases h' with ⟨-, m1, m2⟩ | ⟨e, -⟩
    · constructor
      · rintro ⟨e1, e2⟩
        refine ⟨by omega, fun j hj => ?_⟩
        have q := e2 j (by omega)
        rw [yvv (k2 j hj).1, yvv (m2 j (by omega)).1] at q
        exact lo8_inj (hf j hj).1 (k2 j hj).2 (hg j (by omega)).1 (m2 j (by omega)).2 q
      · rintro ⟨rfl, e2⟩
        refine ⟨by omega, fun j hj => ?_⟩
        rw [yvv (k2 j (by omega)).1, yvv (m2 j (by omega)).1, e2 j (by omega)]
    · exact absurd e (by decide)
  · rcases h' with ⟨e, -⟩ | ⟨-, m1, m2, -⟩
    · exact absurd e (by decide)
    · constructor
      · rintro ⟨e1, e2⟩
        refine ⟨by omega, fun j hj => ?_⟩
        have q1 := e2 (2 * j) (by omega)
        have q2 := e2 (2 * j + 1) (by omega)
        rw [yvv (k2 j hj).1, yvv (m2 j (by omega)).1] at q1
        rw [yvv (k2 j hj).2, yvv (m2 j (by omega)).2] at q2
        rw [← pair_says (hf j hj).1 (hf j hj).2, ← pair_says (hg j (by omega)).1 (hg j (by omega)).2, q1, q2]
      · rintro ⟨rfl, e2⟩
        refine ⟨by omega, fun i hi => ?_⟩
        rcases Nat.mod_two_eq_zero_or_one i with e | e
        · obtain ⟨j, rfl⟩ : ∃ j, i = 2 * j := ⟨i / 2, by omega⟩
          rw [yvv (k2 j (by omega)).1, yvv (m2 j (by omega)).1, e2 j (by omega)]
        · obtain ⟨j, rfl⟩ : ∃ j, i = 2 * j + 1 := ⟨i / 2, by omega⟩
          rw [yvv (k2 j (by omega)).2, yvv (m2 j (by omega)).2, e2 j (by omega)]
/-- two codings differ: so do the texts -/
theorem Cod.dif {cd cd' : Int32} {n k : Nat} {f g : Nat → Int32} {V V' : Cell} (h : Cod cd n f V) (h' : Cod cd' k g V') (hne : ¬ cd = cd') : ¬ SameT n f k g := by
  rintro ⟨rfl, e⟩
  rcases h with ⟨rfl, -, k2⟩ | ⟨rfl, -, -, j, hj, hw⟩
  · rcases h' with ⟨rfl, -⟩ | ⟨-, -, -, j, hj, hw⟩
    · exact hne rfl
    · exact (k2 j hj).2 (by rw [e j hj]; exact hw)
  · rcases h' with ⟨-, -, m2⟩ | ⟨rfl, -⟩
    · exact (m2 j hj).2 (by rw [← e j hj]; exact hw)
    · exact hne rfl
/-- an object of exactly C is an instance of C -/
theorem cinst {p : Program} {l : Launch} {e : Env} {R : Room} {s : State} {m : MethodId} {args : Array Value} {below : List Frame} {meth : Method} {c : Code} {T : State} {locs : List Loc} {cells slots : Nat} (X : Stand p l e R s m args below meth c T locs cells slots) (hexec : p.tables.exec = Jvm.exec) {own C : String} {index : Nat} (hown : s.vm.findClass own = some m.cls) (hlink : (Cond.classLink own index C).before args s = true) {a : Addr} (hE : Exact C a T)
    {g : JFrame} (hg : g.method = m) {rest : List Value} (hstack : g.stack = .ref a :: rest) (hdg : decode c.code g.pc = .ok (.instanceof index, 3)) :
    ∃ T', Stand p l e R s m args below meth c T' locs cells slots ∧ T'.heap = T.heap ∧ ∀ target, Steps p.tables e below (T'.setTop { g with pc := g.pc + 3, stack := .int 1 :: rest }) target → Steps p.tables e below (T.setTop g) target := by
  obtain ⟨cB, h1, D, h2, h3, h4⟩ := hE
  have h1' : s.vm.findClass C = some cB := by rw [← X.warmed.alike.findClass]; exact h1
  obtain ⟨vm', X', st⟩ := X.instanceofYes hexec hown hlink h2 h4 h1' (by rw [h3]; exact Jvm.Free.SB.assignable_self _ _) hg hstack hdg
  exact ⟨_, X', rfl, st⟩
theorem cself {p : Program} {l : Launch} {e : Env} {R : Room} {s : State} {m : MethodId} {args : Array Value} {below : List Frame} {meth : Method} {c : Code} {T : State} {locs : List Loc} {cells slots : Nat} (X : Stand p l e R s m args below meth c T locs cells slots) (hexec : p.tables.exec = Jvm.exec) {own C : String} {index : Nat} (hown : s.vm.findClass own = some m.cls) (hlink : (Cond.classLink own index C).before args s = true) {a : Addr} (hE : Exact C a T)
    {g : JFrame} (hg : g.method = m) {rest : List Value} (hstack : g.stack = .ref a :: rest) (hdg : decode c.code g.pc = .ok (.checkcast index, 3)) :
    ∃ T', Stand p l e R s m args below meth c T' locs cells slots ∧ T'.heap = T.heap ∧ ∀ target, Steps p.tables e below (T'.setTop { g with pc := g.pc + 3, stack := .ref a :: rest }) target → Steps p.tables e below (T.setTop g) target := by
  obtain ⟨cB, h1, D, h2, h3, h4⟩ := hE
  have h1' : s.vm.findClass C = some cB := by rw [← X.warmed.alike.findClass]; exact h1
  obtain ⟨vm', X', st⟩ := X.checkcastYes hexec hown hlink h2 h4 h1' (by rw [h3]; exact Jvm.Free.SB.assignable_self _ _) hg hstack hdg
  exact ⟨_, X', rfl, fun t h => st t (by rw [← hstack] at h; exact h)⟩
namespace SEq
def yN : MethodName := ⟨"java/lang/String", "equals", "(Ljava/lang/Object;)Z"⟩
abbrev yB : ByteArray := jdk_42_method_66_code
theorem d0 : decode yB 0 = .ok (.aload_n 0, 1) := by decide +kernel
theorem d1 : decode yB 1 = .ok (.aload_n 1, 1) := by decide +kernel
theorem d2 : decode yB 2 = .ok (.if_acmp (.ne) 5, 3) := by decide +kernel
theorem d5 : decode yB 5 = .ok (.iconst 1, 1) := by decide +kernel
theorem d6 : decode yB 6 = .ok (.ireturn, 1) := by decide +kernel
theorem d7 : decode yB 7 = .ok (.aload_n 1, 1) := by decide +kernel
theorem d8 : decode yB 8 = .ok (.instanceof 10, 3) := by decide +kernel
theorem d11 : decode yB 11 = .ok (.ifCond (.eq) 43, 3) := by decide +kernel
theorem d14 : decode yB 14 = .ok (.aload_n 1, 1) := by decide +kernel
theorem d15 : decode yB 15 = .ok (.checkcast 10, 3) := by decide +kernel
theorem d18 : decode yB 18 = .ok (.astore_n 2, 1) := by decide +kernel
theorem d19 : decode yB 19 = .ok (.getstatic 38, 3) := by decide +kernel
theorem d22 : decode yB 22 = .ok (.ifCond (.eq) 14, 3) := by decide +kernel
theorem d25 : decode yB 25 = .ok (.aload_n 0, 1) := by decide +kernel
theorem d26 : decode yB 26 = .ok (.getfield 15, 3) := by decide +kernel
theorem d29 : decode yB 29 = .ok (.aload_n 2, 1) := by decide +kernel
theorem d30 : decode yB 30 = .ok (.getfield 15, 3) := by decide +kernel
theorem d33 : decode yB 33 = .ok (.if_icmp (.ne) 21, 3) := by decide +kernel
theorem d36 : decode yB 36 = .ok (.aload_n 0, 1) := by decide +kernel
theorem d37 : decode yB 37 = .ok (.getfield 9, 3) := by decide +kernel
theorem d40 : decode yB 40 = .ok (.aload_n 2, 1) := by decide +kernel
theorem d41 : decode yB 41 = .ok (.getfield 9, 3) := by decide +kernel
theorem d44 : decode yB 44 = .ok (.invokestatic 541, 3) := by decide +kernel
theorem d47 : decode yB 47 = .ok (.ifCond (.eq) 7, 3) := by decide +kernel
theorem d50 : decode yB 50 = .ok (.iconst 1, 1) := by decide +kernel
theorem d51 : decode yB 51 = .ok (.goto 4, 3) := by decide +kernel
theorem d54 : decode yB 54 = .ok (.iconst 0, 1) := by decide +kernel
theorem d55 : decode yB 55 = .ok (.ireturn, 1) := by decide +kernel
def site : List Cond := [.classLink "java/lang/String" 10 "java/lang/String", .fieldLink "java/lang/String" 38 "java/lang/String" "COMPACT_STRINGS" "Z", .fieldLink "java/lang/String" 15 "java/lang/String" "coder" "B", .fieldLink "java/lang/String" 9 "java/lang/String" "value" "[B", LEq.tab] ++ staticW "java/lang/String" 541 LEq.yN
def tab : Cond := tabOf yN yB 3 (some .boolean) site
def P (x t : Addr) (V : Cell) (cd : Int32) (n : Nat) (f : Nat → Int32) (y t' : Addr) (V' : Cell) (cd' : Int32) (k : Nat) (g : Nat → Int32) (z : Int32) (args : Array Value) (s : State) : Prop := args = #[.ref x, .ref y] ∧ Txt x t V cd n f s ∧ Txt y t' V' cd' k g s ∧ StaticIs s "java/lang/String" "COMPACT_STRINGS" "Z" (.int z) ∧ ¬ z = 0
/-- equals(Object) of two Strings: whether the texts are the same -/
theorem law (l : Launch) (x t : Addr) (V : Cell) (cd : Int32) (n : Nat) (f : Nat → Int32) (y t' : Addr) (V' : Cell) (cd' : Int32) (k : Nat) (g : Nat → Int32) (z : Int32) : Law l yN 2 1 1 14 yB 3 (some .boolean) site (P x t V cd n f y t' V' cd' k g z) (Says01 (SameT n f k g)) [] 0 0 := by
  refine Law.of_walk (plainFor_of_name (by decide +kernel)) (by decide +kernel) (by decide +kernel) (by decide) (fun _ _ h => by rw [h.1]; rfl) (fun _ U U' hal hh h => ⟨h.1, h.2.1.mv hal hh, h.2.2.1.mv hal hh, h.2.2.2.1.there hal hh, h.2.2.2.2⟩) (fun r U U' V V' h1 hal h2 h => Says01.mv r U U' V V' h1 hal h2 h) ?_
  intro p e s m args below meth c s₁ X0 hexec hbytes hml hret hlk hnm hown hh0 W hP
  obtain ⟨rfl, hx, hy, s1, hz⟩ := hP
  have c1 : Steps p.tables e below (s₁.setTop (entryFrame m #[.ref x, .ref y] 3)) (s₁.setTop (mkF m 2 #[.val (.ref x), .val (.ref y), .unset] [.ref y, .ref x])) := Steps.trans (entry rfl) (by
    show Steps p.tables e below (s₁.setTop (mkF m 0 #[.val (.ref x), .val (.ref y), .unset] [])) _
    refine XS.aloadN X0.here hexec rfl (hb hbytes d0) rfl rfl ?_
    refine XS.aloadN X0.here hexec rfl (hb hbytes d1) rfl rfl ?_
    exact Steps.refl _)
  by_cases hxy : x = y
  · have c2 : Steps p.tables e below (s₁.setTop (entryFrame m #[.ref x, .ref y] 3)) (s₁.setTop (mkF m 6 #[.val (.ref x), .val (.ref y), .unset] [.int 1])) := c1.trans (by
      refine acmpNo X0.here hexec rfl (hb hbytes d2) rfl rfl rfl (by simp [acmp, hxy]) ?_
      refine iconstV X0.here hexec rfl 1 (hb hbytes d5) (by decide) ?_
      exact Steps.refl _)
    subst hxy
    have ec : cd = cd' := by
      obtain ⟨D, fd, a1, a2, a3⟩ := hx.2.2.1
      obtain ⟨D', fd', b1, b2, b3⟩ := hy.2.2.1
      cases a1.symm.trans b1
      obtain ⟨q1, q2, q3, q4⟩ := a2.1
      obtain ⟨r1, r2, r3, r4⟩ := b2.1
      cases q4.symm.trans r4
      cases a3.symm.trans b3; rfl
    have et : t = t' := by
      obtain ⟨D, fd, a1, a2, a3⟩ := hx.2.1
      obtain ⟨D', fd', b1, b2, b3⟩ := hy.2.1
      cases a1.symm.trans b1
      obtain ⟨q1, q2, q3, q4⟩ := a2.1
      obtain ⟨r1, r2, r3, r4⟩ := b2.1
      cases q4.symm.trans r4
      cases a3.symm.trans b3; rfl
    subst ec et
    have ev : V = V' := by cases hx.2.2.2.1.1.symm.trans hy.2.2.2.1.1; rfl
    subst ev
    have hs : SameT n f k g := (Cod.eqv hx.2.2.2.2.1 hy.2.2.2.2.1 hx.2.2.2.2.2 hy.2.2.2.2.2).mp ⟨rfl, fun _ _ => rfl⟩
    exact ⟨s₁, some (.int 1), _, _, _, X0, rfl, rfl, rfl, (fun h => by cases h), ⟨1, rfl, hh0, Or.inl ⟨rfl, hs⟩⟩, fun fs hl => c2.trans (X0.ireturnOut hexec hret rfl (Or.inr (Or.inl rfl)) (hb hbytes d6) hl)⟩
  · have c2 : Steps p.tables e below (s₁.setTop (entryFrame m #[.ref x, .ref y] 3)) (s₁.setTop (mkF m 8 #[.val (.ref x), .val (.ref y), .unset] [.ref y])) := c1.trans (by
      refine acmpYes X0.here hexec rfl (pc0 := 2) rfl (hb hbytes d2) rfl rfl rfl (by simp [acmp, hxy]) (by decide) rfl ?_
      refine XS.aloadN X0.here hexec rfl (hb hbytes d7) rfl rfl ?_
      exact Steps.refl _)
    obtain ⟨T3, X3, q3, st3⟩ := cinst X0 hexec hown (wk W (.classLink "java/lang/String" 10 "java/lang/String")) (hy.mv X0.warmed.alike hh0).1 (g := (mkF m 8 #[.val (.ref x), .val (.ref y), .unset] [.ref y])) rfl (rest := []) rfl (hb hbytes d8)
    have hh3 := q3.trans hh0
    have c4 : Steps p.tables e below (s₁.setTop (entryFrame m #[.ref x, .ref y] 3)) (T3.setTop (mkF m 15 #[.val (.ref x), .val (.ref y), .unset] [.ref y])) := (c2.trans (st3 _ (Steps.refl _))).trans (by
      refine XS.ifNo X3.here hexec rfl (hb hbytes d11) rfl (i0_eq_f (by decide)) ?_
      refine XS.aloadN X3.here hexec rfl (hb hbytes d14) rfl rfl ?_
      exact Steps.refl _)
    obtain ⟨T5, X5, q5, st5⟩ := cself X3 hexec hown (wk W (.classLink "java/lang/String" 10 "java/lang/String")) (hy.mv X3.warmed.alike hh3).1 (g := (mkF m 15 #[.val (.ref x), .val (.ref y), .unset] [.ref y])) rfl (rest := []) rfl (hb hbytes d15)
    have hh5 := q5.trans hh3
    have c6 : Steps p.tables e below (s₁.setTop (entryFrame m #[.ref x, .ref y] 3)) (T5.setTop (mkF m 19 #[.val (.ref x), .val (.ref y), .val (.ref y)] [])) := (c4.trans (st5 _ (Steps.refl _))).trans (by
      refine XS.astoreN X5.here hexec rfl (hb hbytes d18) rfl rfl rfl ?_
      exact Steps.refl _)
    obtain ⟨T7, X7, q7, st7⟩ := X5.sget hexec hown (wk W (.fieldLink "java/lang/String" 38 "java/lang/String" "COMPACT_STRINGS" "Z")) s1 (fun _ _ h => by rw [hh5]; exact h) (g := (mkF m 19 #[.val (.ref x), .val (.ref y), .val (.ref y)] [])) rfl (hb hbytes d19)
    have hh7 := q7.trans hh5
    have c8 : Steps p.tables e below (s₁.setTop (entryFrame m #[.ref x, .ref y] 3)) (T7.setTop (mkF m 26 #[.val (.ref x), .val (.ref y), .val (.ref y)] [.ref x])) := (c6.trans (st7 _ (Steps.refl _))).trans (by
      refine XS.ifNo X7.here hexec rfl (hb hbytes d22) rfl (i0_eq_f hz) ?_
      refine XS.aloadN X7.here hexec rfl (hb hbytes d25) rfl rfl ?_
      exact Steps.refl _)
    obtain ⟨T9, X9, q9, st9⟩ := X7.hget hexec hown (wk W (.fieldLink "java/lang/String" 15 "java/lang/String" "coder" "B")) (hx.mv X7.warmed.alike hh7).2.2.1 (g := (mkF m 26 #[.val (.ref x), .val (.ref y), .val (.ref y)] [.ref x])) rfl (rest := []) rfl (hb hbytes d26)
    have hh9 := q9.trans hh7
    have c10 : Steps p.tables e below (s₁.setTop (entryFrame m #[.ref x, .ref y] 3)) (T9.setTop (mkF m 30 #[.val (.ref x), .val (.ref y), .val (.ref y)] [.ref y, .int cd])) := (c8.trans (st9 _ (Steps.refl _))).trans (by
      refine XS.aloadN X9.here hexec rfl (hb hbytes d29) rfl rfl ?_
      exact Steps.refl _)
    obtain ⟨T11, X11, q11, st11⟩ := X9.hget hexec hown (wk W (.fieldLink "java/lang/String" 15 "java/lang/String" "coder" "B")) (hy.mv X9.warmed.alike hh9).2.2.1 (g := (mkF m 30 #[.val (.ref x), .val (.ref y), .val (.ref y)] [.ref y, .int cd])) rfl (rest := [.int cd]) rfl (hb hbytes d30)
    have hh11 := q11.trans hh9
    have c12 : Steps p.tables e below (s₁.setTop (entryFrame m #[.ref x, .ref y] 3)) (T11.setTop (mkF m 33 #[.val (.ref x), .val (.ref y), .val (.ref y)] [.int cd', .int cd])) := c10.trans (st11 _ (Steps.refl _))
    by_cases hcd : cd = cd'
    · subst hcd
      have c13 : Steps p.tables e below (s₁.setTop (entryFrame m #[.ref x, .ref y] 3)) (T11.setTop (mkF m 37 #[.val (.ref x), .val (.ref y), .val (.ref y)] [.ref x])) := c12.trans (by
        refine XS.icmpNo X11.here hexec rfl (hb hbytes d33) rfl (ii_ne_f rfl) ?_
        refine XS.aloadN X11.here hexec rfl (hb hbytes d36) rfl rfl ?_
        exact Steps.refl _)
      obtain ⟨T14, X14, q14, st14⟩ := X11.hget hexec hown (wk W (.fieldLink "java/lang/String" 9 "java/lang/String" "value" "[B")) (hx.mv X11.warmed.alike hh11).2.1 (g := (mkF m 37 #[.val (.ref x), .val (.ref y), .val (.ref y)] [.ref x])) rfl (rest := []) rfl (hb hbytes d37)
      have hh14 := q14.trans hh11
      have c15 : Steps p.tables e below (s₁.setTop (entryFrame m #[.ref x, .ref y] 3)) (T14.setTop (mkF m 41 #[.val (.ref x), .val (.ref y), .val (.ref y)] [.ref y, .ref t])) := (c13.trans (st14 _ (Steps.refl _))).trans (by
        refine XS.aloadN X14.here hexec rfl (hb hbytes d40) rfl rfl ?_
        exact Steps.refl _)
      obtain ⟨T16, X16, q16, st16⟩ := X14.hget hexec hown (wk W (.fieldLink "java/lang/String" 9 "java/lang/String" "value" "[B")) (hy.mv X14.warmed.alike hh14).2.1 (g := (mkF m 41 #[.val (.ref x), .val (.ref y), .val (.ref y)] [.ref y, .ref t])) rfl (rest := [.ref t]) rfl (hb hbytes d41)
      have hh16 := q16.trans hh14
      have c17 : Steps p.tables e below (s₁.setTop (entryFrame m #[.ref x, .ref y] 3)) (T16.setTop (mkF m 44 #[.val (.ref x), .val (.ref y), .val (.ref y)] [.ref t', .ref t])) := c15.trans (st16 _ (Steps.refl _))
      obtain ⟨v18, T18, X18, E18, g18⟩ := X16.callS hexec (LEq.law l t V t' V') hown (wks W (staticW "java/lang/String" 541 LEq.yN)) (wk W LEq.tab) (W := 0) (Nat.le_of_ble_eq_true rfl) (Nat.le_of_ble_eq_true rfl) (Nat.le_refl _) (Nat.le_refl _) (g := (mkF m 44 #[.val (.ref x), .val (.ref y), .val (.ref y)] [.ref t', .ref t])) rfl (by rw [hml]; rfl) c17 (argsL := [.ref t, .ref t']) (rest := []) rfl rfl (by show 2 * 0 + 0 ≤ _; decide) (hb hbytes d44) (⟨rfl, hx.2.2.2.1.mv X16.warmed.alike hh16, hx.2.2.2.2.1.ty, hy.2.2.2.1.mv X16.warmed.alike hh16, hy.2.2.2.2.1.ty⟩)
      obtain ⟨v, rfl, q18, hv⟩ := E18
      have iff := Cod.eqv hx.2.2.2.2.1 hy.2.2.2.2.1 hx.2.2.2.2.2 hy.2.2.2.2.2
      rcases hv with ⟨rfl, he⟩ | ⟨rfl, he⟩
      · have c19 : Steps p.tables e below (s₁.setTop (entryFrame m #[.ref x, .ref y] 3)) (T18.setTop (mkF m 55 #[.val (.ref x), .val (.ref y), .val (.ref y)] [.int 1])) := Steps.trans g18 (by
          refine XS.ifNo X18.here hexec rfl (hb hbytes d47) rfl (i0_eq_f (by decide)) ?_
          refine iconstV X18.here hexec rfl 1 (hb hbytes d50) (by decide) ?_
          refine XS.goto X18.here hexec rfl (pc0 := 51) rfl (hb hbytes d51) (by decide) rfl ?_
          exact Steps.refl _)
        exact ⟨T18, some (.int 1), _, _, _, X18, rfl, rfl, rfl, (fun h => by cases h), ⟨1, rfl, q18.trans hh16, Or.inl ⟨rfl, iff.mp he⟩⟩, fun fs hl => c19.trans (X18.ireturnOut hexec hret rfl (Or.inr (Or.inl rfl)) (hb hbytes d55) hl)⟩
      · have c19 : Steps p.tables e below (s₁.setTop (entryFrame m #[.ref x, .ref y] 3)) (T18.setTop (mkF m 55 #[.val (.ref x), .val (.ref y), .val (.ref y)] [.int 0])) := Steps.trans g18 (by
          refine XS.ifYes X18.here hexec rfl (pc0 := 47) rfl (hb hbytes d47) rfl (i0_eq_t rfl) (by decide) rfl ?_
          refine iconstV X18.here hexec rfl 0 (hb hbytes d54) (by decide) ?_
          exact Steps.refl _)
        exact ⟨T18, some (.int 0), _, _, _, X18, rfl, rfl, rfl, (fun h => by cases h), ⟨0, rfl, q18.trans hh16, Or.inr ⟨rfl, fun q => he (iff.mpr q)⟩⟩, fun fs hl => c19.trans (X18.ireturnOut hexec hret rfl (Or.inr (Or.inl rfl)) (hb hbytes d55) hl)⟩
    · have c13 : Steps p.tables e below (s₁.setTop (entryFrame m #[.ref x, .ref y] 3)) (T11.setTop (mkF m 55 #[.val (.ref x), .val (.ref y), .val (.ref y)] [.int 0])) := c12.trans (by
        refine XS.icmpYes X11.here hexec rfl (pc0 := 33) rfl (hb hbytes d33) rfl (ii_ne_t hcd) (by decide) rfl ?_
        refine iconstV X11.here hexec rfl 0 (hb hbytes d54) (by decide) ?_
        exact Steps.refl _)
      exact ⟨T11, some (.int 0), _, _, _, X11, rfl, rfl, rfl, (fun h => by cases h), ⟨0, rfl, hh11, Or.inr ⟨rfl, Cod.dif hx.2.2.2.2.1 hy.2.2.2.2.1 hcd⟩⟩, fun fs hl => c13.trans (X11.ireturnOut hexec hret rfl (Or.inr (Or.inl rfl)) (hb hbytes d55) hl)⟩
theorem pays {l : Launch} {R : Room} {p : Program} {e : Env} {below : List Frame} {s : State} {sargs : Array Value} {len W : Nat} (x t : Addr) (V : Cell) (cd : Int32) (n : Nat) (f : Nat → Int32) (y t' : Addr) (V' : Cell) (cd' : Int32) (k : Nat) (g : Nat → Int32) (z : Int32) (htab : tab.before sargs s = true) (hfr : 2 ≤ R.frames) (hlo : W + 28 ≤ R.locals) :
    Back l R p e below s sargs yN len W (fun A₁ a₁ => A₁.cells + 0 ≤ R.cells ∧ A₁.slots + 0 ≤ R.slots ∧ P x t V cd n f y t' V' cd' k g z a₁ A₁.U) (fun A₁ _ v₁ B₁ => Says01 (SameT n f k g) v₁ A₁.U B₁.U ∧ B₁.locs = A₁.locs ++ [] ∧ B₁.cells = A₁.cells + 0 ∧ B₁.slots = A₁.slots + 0) :=
  (law l x t V cd n f y t' V' cd' k g z).pays htab hfr (by omega)
end SEq
end StrChars
namespace StrChars.Road
open Jvm Sem ClassFile Op Lib Jvm.Stand Jvm.Free Jvm.Free.XT
open Jvm.Lib.Cold (StaticIs)
/-- the words of String.equals(Object) -/
abbrev wordsEq : List Jvm.Cond := [.code SEq.yN SEq.yB 3 (some .boolean), .initialized ST, .classLink ST 10 ST, .fieldLink ST 38 ST "COMPACT_STRINGS" "Z", .fieldLink ST 15 ST "coder" "B", .fieldLink ST 9 ST "value" "[B", .methodLink ST 541 LEq.yN, .static LEq.yN, .code LEq.yN LEq.yB 3 (some .boolean), .initialized "java/lang/StringLatin1"]
theorem tabEq_of {a : Array Value} {s : State} (h : ∀ w ∈ wordsEq, w.before a s = true) : SEq.tab.before a s = true := by
  have hl : LEq.tab.before a s = true := unparts (wk h (.code LEq.yN LEq.yB 3 (some .boolean))) (wks h (.initialized LEq.yN.cls :: LEq.site))
  have q := consq hl h
  exact unparts (wk q (.code SEq.yN SEq.yB 3 (some .boolean))) (wks q (.initialized SEq.yN.cls :: SEq.site))
theorem movedEq {Z s : State} {a0 args : Array Value} (hZ : Z.Warmed39 s.vm) (hw : ∀ d ∈ wordsEq, d.before a0 Z = true) : ∀ d ∈ wordsEq, d.before args s = true := fun d hd => by
  have t : ∀ d ∈ wordsEq, (d.onTables && d.keepsFace) = true := by decide +kernel
  exact RoadKit.mv hZ (hw d hd) (t d hd)
/-- the road's facts of a String, as the laws ask it -/
theorem txt_of {Z U : State} {a0 : Array Value} {kI : Nat} (wi : (Jvm.Cond.instantiable ST kI).before a0 Z = true) (al : Z.vm.Alike U.vm) {x t : Addr} {kb : ClassId} {cs : List Int32} {cd N2 : Int32} {vs : List Value} (E : RoadKit.Exa Z U.heap x ST) (V : RoadKit.Fld Z U.heap x ST "value" "[B" (.ref t)) (C : RoadKit.Fld Z U.heap x ST "coder" "B" (.int cd)) (K : RoadKit.Arv Z U.heap t kb .byte N2 vs (.int 0)) (hc : CodA cs cd N2 vs) (hb : ∀ c ∈ cs, ¬ c < 0 ∧ ¬ (65535 : Int32) < c) (l2 : cs.length ≤ 4000) :
    ∃ A, Txt x t A cd cs.length (fun j => cs.getD j 0) U := by
  obtain ⟨A, K1, K2, K3, K4, K5, K6⟩ := K
  have hcod := hc.cod (by omega) K3 K5
  obtain ⟨D, fV, fC, hB, F1, F2, g1, g2, -, -⟩ := strObj wi al E V C
  exact ⟨A, ⟨_, hB.2.2.1, D, hB.1, rfl, by cases q : D.vm <;> first | rfl | exact absurd q (hB.2.1.2 _)⟩, Has.of hB F1 g1, Has.of hB F2 g2, ⟨K1.1, State.isArrayOf_alike al K1.2.1, K1.2.2, by rcases hcod with ⟨-, q, -⟩ | ⟨-, q, -⟩ <;> omega⟩, hcod, fun j hj => by
    have e : cs.getD j 0 = cs[j] := by simp [List.getD_eq_getElem?_getD, hj]
    show ¬ cs.getD j 0 < 0 ∧ ¬ 65535 < cs.getD j 0
    rw [e]; exact hb _ (List.getElem_mem _)⟩
theorem same_list (cs ds : List Int32) : SameT cs.length (fun j => cs.getD j 0) ds.length (fun j => ds.getD j 0) ↔ cs = ds := by
  constructor
  · rintro ⟨e, q⟩
    refine List.ext_getElem e fun j h1 h2 => ?_
    have := q j h1
    simpa [List.getD_eq_getElem?_getD, h1, h2] using this
  · rintro rfl
    exact ⟨rfl, fun _ _ => rfl⟩
/-- **equals(Object) OF TWO SUCH STRINGS**: 1 just where the chars are the same -/
theorem eqW {p : Program} {l : Launch} {e : Env} {R : Room} {s : State} {args : Array Value} {below : List Frame} {len W : Nat} {Z : State} {a0 : Array Value} {h : Heap} (hZ : Z.Warmed39 s.vm) (hw : ∀ d ∈ wordsEq, d.before a0 Z = true) {kI : Nat} (wi : (Jvm.Cond.instantiable ST kI).before a0 Z = true)
    {x t : Addr} {kb : ClassId} {cs : List Int32} {cd N2 : Int32} {vs : List Value} (E : RoadKit.Exa Z h x ST) (V : RoadKit.Fld Z h x ST "value" "[B" (.ref t)) (C : RoadKit.Fld Z h x ST "coder" "B" (.int cd)) (K : RoadKit.Arv Z h t kb .byte N2 vs (.int 0)) (hc : CodA cs cd N2 vs) (hb : ∀ c ∈ cs, ¬ c < 0 ∧ ¬ (65535 : Int32) < c) (l2 : cs.length ≤ 4000)
    {y t' : Addr} {kb' : ClassId} {ds : List Int32} {cd' N2' : Int32} {vs' : List Value} (E' : RoadKit.Exa Z h y ST) (V' : RoadKit.Fld Z h y ST "value" "[B" (.ref t')) (C' : RoadKit.Fld Z h y ST "coder" "B" (.int cd')) (K' : RoadKit.Arv Z h t' kb' .byte N2' vs' (.int 0)) (hc' : CodA ds cd' N2' vs') (hb' : ∀ c ∈ ds, ¬ c < 0 ∧ ¬ (65535 : Int32) < c) (l2' : ds.length ≤ 4000)
    {z : Int32} (S : RoadKit.Sta Z h ST "COMPACT_STRINGS" "Z" (.int z)) (hz : ¬ z = 0) (hfr : 2 ≤ R.frames) (hlo : W + 28 ≤ R.locals) :
    Back l R p e below s args (⟨"java/lang/String", "equals", "(Ljava/lang/Object;)Z"⟩ : MethodName) len W (fun P a => a = #[.ref x, .ref y] ∧ P.U.heap = h ∧ P.cells + 0 ≤ R.cells ∧ P.slots + 0 ≤ R.slots)
      (fun P _ v B => ∃ L, (((v = some (.int 1) ∧ cs = ds) ∨ (v = some (.int 0) ∧ ¬ cs = ds)) ∧ L = [] ∧ B.U.heap = h) ∧ B.locs = P.locs ++ L ∧ B.cells = P.cells + 0 ∧ B.slots = P.slots + 0) := by
  intro m meth c P g ig mk a X hg hsize hdg hW hn hp'
  obtain ⟨rfl, rfl, r1, r2⟩ := hp'
  have al : Z.vm.Alike P.U.vm := hZ.alike.trans X.warmed.alike
  obtain ⟨A, hx⟩ := txt_of wi al E V C K hc hb l2
  obtain ⟨A', hy⟩ := txt_of wi al E' V' C' K' hc' hb' l2'
  obtain ⟨v, B, X', ⟨⟨w, hv, hh, hq⟩, hl, hk, hs⟩, st⟩ := SEq.pays x t A cd cs.length (fun j => cs.getD j 0) y t' A' cd' ds.length (fun j => ds.getD j 0) z (tabEq_of (movedEq hZ hw)) hfr hlo m meth c P g ig mk _ X hg hsize hdg hW hn ⟨r1, r2, rfl, hx, hy, sta_is al S, hz⟩
  refine ⟨v, B, X', ⟨[], ⟨?_, rfl, hh⟩, hl, hk, hs⟩, st⟩
  rcases hq with ⟨rfl, q⟩ | ⟨rfl, q⟩
  · exact Or.inl ⟨hv, (same_list cs ds).mp q⟩
  · exact Or.inr ⟨hv, fun e => q ((same_list cs ds).mpr e)⟩
end StrChars.Road
namespace StrChars.Road
open Jvm Sem ClassFile Op Lib Jvm.Stand Jvm.Free Jvm.Free.XT
open Jvm.Lib.Cold (StaticIs)
/-- what backV says of its String, as the contracts of this text ask it: cs's low bytes, coder 0 -/
theorem codOf {cs : List Int32} {n : Nat} (hn : cs.length = n) (hb : ∀ c ∈ cs, ¬ 255 < c) : CodA cs 0 (Int32.ofNat n) ((cs.map lo8).map Value.int) := Or.inl ⟨rfl, by rw [hn], by simp [List.map_map, Function.comp_def], hb⟩
end StrChars.Road
end Jvm.Pilot.@@N@@
namespace Jvm.Pilot.@@N@@
open Jvm Jvm.ClassFile Sem Op Lib Jvm.Free Jvm.Stand Jvm.LawKit Jvm.RoadKit Bundle Jvm.Pilot.@@N@@.Jvm.D
section Own
variable {p : Program} {l : Launch} {e : Env} {R : Room} {s : State} {m : MethodId} {args : Array Value} {below : List Frame} {meth : Method} {c : Code} {T : State} {locs : List Loc} {cells slots : Nat} {Z : State} {a0 : Array Value} {h : Heap}
/-- from U the run comes to the method's end, and P holds there -/
def OGo (p : Program) (e : Env) (below : List Frame) (U : State) (P : State → Outcome → Prop) : Prop :=
  ∃ t o, Steps p.tables e below U t ∧ t.status = .running ∧ Ended t below o ∧ P t o
theorem OGo.step {U U' : State} {P : State → Outcome → Prop} (k : ∀ t, Steps p.tables e below U' t → Steps p.tables e below U t) (g : OGo p e below U' P) : OGo p e below U P := by
  obtain ⟨t, o, h1, h2⟩ := g
  exact ⟨t, o, k t h1, h2⟩
def OEnd (s : State) (Q : Option Value → Heap → List Loc → Prop) (kc ks : Nat) (t : State) (o : Outcome) : Prop :=
  ∃ v L, o = .returned v ∧ Q v t.heap L ∧ FrameEnd s o t L kc ks
/-- the contract of one body, at one array of arguments and one heap -/
abbrev OMet (l : Launch) (Z : State) (y : MethodName) (bytes : ByteArray) (maxL : Nat) (ret : Option FieldType) (ws : List Jvm.Cond) (rm : Room) (as' : Array Value) (h0 : Heap) (Q : Option Value → Heap → List Loc → Prop) : Prop :=
  MetFree l y (head1 (Jvm.Cond.code y bytes maxL ret :: ws) rm) (fun a U => a = as' ∧ Z.Warmed39 U.vm ∧ U.heap = h0) (fun _ _ _ _ _ => True) (fun _ U o U' => ∃ v L, o = .returned v ∧ Q v U'.heap L ∧ FrameEnd U o U' L rm.cells rm.slots)
theorem OMet.body {y : MethodName} {bytes : ByteArray} {maxL : Nat} {ret : Option FieldType} {ws : List Jvm.Cond} {rm : Room} {as' : Array Value} {h0 : Heap} {Q : Option Value → Heap → List Loc → Prop} (hpn : plainFor y = true)
    (b : ∀ (p : Program) (e : Env) (s : State) (m : MethodId) (below : List Frame) (meth : Method) (c : Code) (s₁ : State), p.tables.exec = Jvm.exec → c.code = bytes → c.maxLocals = maxL → s.vm.findClass y.cls = some m.cls → meth.name = y.name → meth.sig.returnType = ret → meth.locks = false → Z.Warmed39 s.vm →
      Stand p l e rm s m as' below meth c s₁ [] 0 0 → s₁.heap = h0 → OGo p e below (s₁.setTop (entryFrame m as' maxL)) (OEnd s Q rm.cells rm.slots)) : OMet l Z y bytes maxL ret ws rm as' h0 Q := by
  refine MetFree.of_bodySF hpn hisR ?_
  intro p e s m args below meth c s₁ Bd hml0 hP hK
  obtain ⟨rfl, hZ, hh⟩ := hP
  exact b p e s m below meth c s₁ Bd.exec Bd.bytes hml0 (findClass_of_methodNamed Bd.named) (name_of_methodNamed Bd.named Bd.method).1 Bd.returns Bd.notSynchronized hZ (Stand.of_body Bd) (by rw [← hh, Bd.state]; rfl)
theorem own_ret (X : Stand p l e R s m args below meth c T locs cells slots) (hx : p.tables.exec = Jvm.exec) (hlk : meth.locks = false) {pc : Nat} {Ls : Array Slot} {w : Value} {t : FieldType} {i : Instr} {rest : List Value} (hret : meth.sig.returnType = some t) (hn : narrow t w = w)
    (hi : (i = .ireturn ∧ (t = .int ∨ t = .boolean ∨ t = .byte ∨ t = .char ∨ t = .short) ∧ ∃ z, w = .int z) ∨ (i = .lreturn ∧ t = .long ∧ ∃ z, w = .long z) ∨ (i = .dreturn ∧ t = .double ∧ ∃ z, w = .double z) ∨ (i = .freturn ∧ t = .float ∧ ∃ z, w = .float z) ∨ (i = .areturn ∧ t.isReference = true ∧ w.isRef = true))
    (hd : decode c.code pc = .ok (i, 1)) {Q : Option Value → Heap → List Loc → Prop} {kc ks : Nat} (hQ : Q (some w) T.heap locs) (h1 : cells ≤ kc) (h2 : slots ≤ ks) : OGo p e below (T.setTop (mkF m pc Ls (w :: rest))) (OEnd s Q kc ks) := by
  obtain ⟨fs, hr, hrun, hended, hW, hsame⟩ := X.leave (v := some w) (fun h => by rw [hret] at h; cases h) hlk
  exact ⟨_, _, retOut X hx hret hn hi hd hr, hrun, hended, _, _, rfl, hQ, ⟨_, rfl⟩, hW, hsame.mono h1 h2⟩
theorem own_retN (X : Stand p l e R s m args below meth c T locs cells slots) (hx : p.tables.exec = Jvm.exec) (hlk : meth.locks = false) {pc : Nat} {Ls : Array Slot} {z : Int32} {t : FieldType} {rest : List Value} (hret : meth.sig.returnType = some t) (ht : t = .boolean ∨ t = .byte ∨ t = .char ∨ t = .short)
    (hd : decode c.code pc = .ok (.ireturn, 1)) {Q : Option Value → Heap → List Loc → Prop} {kc ks : Nat} (hQ : Q (some (.int (nar t z))) T.heap locs) (h1 : cells ≤ kc) (h2 : slots ≤ ks) : OGo p e below (T.setTop (mkF m pc Ls (.int z :: rest))) (OEnd s Q kc ks) := by
  obtain ⟨fs, hr, hrun, hended, hW, hsame⟩ := X.leave (v := some (.int (nar t z))) (fun h => by rw [hret] at h; cases h) hlk
  exact ⟨_, _, retN X hx hret ht hd hr, hrun, hended, _, _, rfl, hQ, ⟨_, rfl⟩, hW, hsame.mono h1 h2⟩
theorem own_ret0 (X : Stand p l e R s m args below meth c T locs cells slots) (hx : p.tables.exec = Jvm.exec) (hlk : meth.locks = false) {pc : Nat} {Ls : Array Slot} (hret : meth.sig.returnType = none)
    (hd : decode c.code pc = .ok (.return_, 1)) {Q : Option Value → Heap → List Loc → Prop} {kc ks : Nat} (hQ : Q none T.heap locs) (h1 : cells ≤ kc) (h2 : slots ≤ ks) : OGo p e below (T.setTop (mkF m pc Ls [])) (OEnd s Q kc ks) := by
  obtain ⟨fs, hr, hrun, hended, hW, hsame⟩ := X.leave (v := none) (fun _ => rfl) hlk
  exact ⟨_, _, X.returnOut hx hret hd hr, hrun, hended, _, _, rfl, hQ, ⟨_, rfl⟩, hW, hsame.mono h1 h2⟩
/-- who pays a call: at these arguments and this heap -/
abbrev OBack (l : Launch) (R : Room) (p : Program) (e : Env) (below : List Frame) (s : State) (args : Array Value) (y : MethodName) (len W : Nat) (as' : Array Value) (h : Heap) (kc ks : Nat) (Q : Option Value → Heap → List Loc → Prop) : Prop :=
  Back l R p e below s args y len W (fun P a => a = as' ∧ P.U.heap = h ∧ P.cells + kc ≤ R.cells ∧ P.slots + ks ≤ R.slots) (fun P _ v B => ∃ L, Q v B.U.heap L ∧ B.locs = P.locs ++ L ∧ B.cells = P.cells + kc ∧ B.slots = P.slots + ks)
/-- a static call by the callee's contract -/
theorem own_callSK (X : Stand p l e R s m args below meth c T locs cells slots) (hx : p.tables.exec = Jvm.exec) (hZ : Z.Warmed39 s.vm) {own : String} {index : Nat} {y : MethodName} {bytes : ByteArray} {maxL : Nat} {ret : Option FieldType}
    (hown : s.vm.findClass own = some m.cls) (w1 : (Jvm.Cond.methodLink own index y).before a0 Z = true) (w2 : (Jvm.Cond.static y).before a0 Z = true) (w3 : (Jvm.Cond.initialized y.cls).before a0 Z = true)
    (w4 : (Jvm.Cond.code y bytes maxL ret).before a0 Z = true) (hy : y.cls ≠ "java/lang/invoke/MethodHandle" ∧ y.cls ≠ "java/lang/invoke/VarHandle")
    {W : Nat} {kc ks : Nat} {argsL rest : List Value} {Q : Option Value → Heap → List Loc → Prop} (hK : OBack l R p e below s args y 3 W argsL.toArray h kc ks Q) (eT : T.heap = h)
    {pc : Nat} {Ls : Array Slot} (hsize : Ls.size = c.maxLocals) (hlen : ∀ sig, parseMethodDescriptor y.desc = some sig → argsL.length = sig.parameters.length) (hW : (rest.map fun v => v.category).sum = W)
    (hd : decode c.code pc = .ok (.invokestatic index, 3)) (hc : cells + kc ≤ R.cells) (hs : slots + ks ≤ R.slots) {P : State → Outcome → Prop}
    (k : ∀ (v : Option Value) (T' : State) (L : List Loc), Stand p l e R s m args below meth c T' (locs ++ L) (cells + kc) (slots + ks) → Q v T'.heap L → OGo p e below (T'.setTop (mkF m (pc + 3) Ls (v.toList ++ rest))) P) :
    OGo p e below (T.setTop (mkF m pc Ls (argsL.reverse ++ rest))) P := by
  obtain ⟨v, vm, ⟨T', L', k', n'⟩, -, X', ⟨L, hQ, l1, y1, z1⟩, st⟩ := Jvm.LawKit.callS X hx (y := y) hown (mvT hZ w1) (mvT hZ w2) (mvT hZ w3) (mvT hZ w4) hy hK (g := mkF m pc Ls (argsL.reverse ++ rest)) rfl hsize (argsL := argsL) (rest := rest) hlen rfl
    (by show 2 * 0 + _ ≤ _; rw [hW]; omega) hd (fun _ _ => ⟨rfl, eT, hc, hs⟩)
  dsimp only [Pt.U, Pt.locs, Pt.cells, Pt.slots] at X' l1 y1 z1 st hQ
  subst l1 y1 z1
  exact OGo.step st (k v T' L X' hQ)
theorem own_callS (X : Stand p l e R s m args below meth c T locs cells slots) (hx : p.tables.exec = Jvm.exec) (hZ : Z.Warmed39 s.vm) {own : String} {index : Nat} {y : MethodName} {bytes : ByteArray} {maxL : Nat} {ret : Option FieldType}
    (hown : s.vm.findClass own = some m.cls) (w1 : (Jvm.Cond.methodLink own index y).before a0 Z = true) (w2 : (Jvm.Cond.static y).before a0 Z = true) (w3 : (Jvm.Cond.initialized y.cls).before a0 Z = true)
    (w4 : (Jvm.Cond.code y bytes maxL ret).before a0 Z = true) (hy : y.cls ≠ "java/lang/invoke/MethodHandle" ∧ y.cls ≠ "java/lang/invoke/VarHandle")
    {W : Nat} {rm : Room} {argsL rest : List Value} {Q : Option Value → Heap → List Loc → Prop} (hM : OMet l Z y bytes maxL ret [] rm argsL.toArray h Q) (eT : T.heap = h)
    {pc : Nat} {Ls : Array Slot} (hsize : Ls.size = c.maxLocals) (hlen : ∀ sig, parseMethodDescriptor y.desc = some sig → argsL.length = sig.parameters.length) (hW : (rest.map fun v => v.category).sum = W)
    (hd : decode c.code pc = .ok (.invokestatic index, 3)) (hf : rm.frames + 1 ≤ R.frames) (hl : W + (maxL + 11) + rm.locals ≤ R.locals) (hc : cells + rm.cells ≤ R.cells) (hs : slots + rm.slots ≤ R.slots) {P : State → Outcome → Prop}
    (k : ∀ (v : Option Value) (T' : State) (L : List Loc), Stand p l e R s m args below meth c T' (locs ++ L) (cells + rm.cells) (slots + rm.slots) → Q v T'.heap L → OGo p e below (T'.setTop (mkF m (pc + 3) Ls (v.toList ++ rest))) P) :
    OGo p e below (T.setTop (mkF m pc Ls (argsL.reverse ++ rest))) P := 
  own_callSK X hx hZ hown w1 w2 w3 w4 hy (backOf (W := W) hM hZ w4 w3 hf hl) eT hsize hlen hW hd hc hs k
/-- a constructor by its contract -/
theorem own_specialK (X : Stand p l e R s m args below meth c T locs cells slots) (hx : p.tables.exec = Jvm.exec) (hZ : Z.Warmed39 s.vm) {own : String} {index : Nat} {y : MethodName} {bytes : ByteArray} {maxL : Nat} (hy1 : y.name = "<init>")
    (hown : s.vm.findClass own = some m.cls) (w1 : (Jvm.Cond.methodLink own index y).before a0 Z = true) (w2 : (Jvm.Cond.instanceMethod y).before a0 Z = true)
    (w4 : (Jvm.Cond.code y bytes maxL none).before a0 Z = true) (hy : y.cls ≠ "java/lang/invoke/MethodHandle" ∧ y.cls ≠ "java/lang/invoke/VarHandle") {a : Addr}
    {W : Nat} {kc ks : Nat} {argsL rest : List Value} {Q : Option Value → Heap → List Loc → Prop} (hK : OBack l R p e below s args y 3 W (.ref a :: argsL).toArray h kc ks Q) (eT : T.heap = h)
    {pc : Nat} {Ls : Array Slot} (hsize : Ls.size = c.maxLocals) (hlen : ∀ sig, parseMethodDescriptor y.desc = some sig → argsL.length = sig.parameters.length) (hW : (rest.map fun v => v.category).sum = W)
    (hd : decode c.code pc = .ok (.invokespecial index, 3)) (hc : cells + kc ≤ R.cells) (hs : slots + ks ≤ R.slots) {P : State → Outcome → Prop}
    (k : ∀ (v : Option Value) (T' : State) (L : List Loc), Stand p l e R s m args below meth c T' (locs ++ L) (cells + kc) (slots + ks) → Q v T'.heap L → OGo p e below (T'.setTop (mkF m (pc + 3) Ls (v.toList ++ rest))) P) :
    OGo p e below (T.setTop (mkF m pc Ls (argsL.reverse ++ .ref a :: rest))) P := by
  obtain ⟨v, vm, ⟨T', L', k', n'⟩, -, X', ⟨L, hQ, l1, y1, z1⟩, st⟩ := X.specialBack hx (y := y) hy1 hown (mvT hZ w1) (mvT hZ w2) (mvT hZ w4) hy hK (g := mkF m pc Ls (argsL.reverse ++ .ref a :: rest)) rfl hsize (Steps.refl _) (a := a) (argsL := argsL) (rest := rest) hlen rfl
    (by show 2 * 0 + _ ≤ _; rw [hW]; omega) hd (fun _ _ => ⟨rfl, eT, hc, hs⟩)
  dsimp only [Pt.U, Pt.locs, Pt.cells, Pt.slots] at X' l1 y1 z1 st hQ
  subst l1 y1 z1
  exact OGo.step (fun _ kk => st.trans kk) (k v T' L X' hQ)
theorem own_special (X : Stand p l e R s m args below meth c T locs cells slots) (hx : p.tables.exec = Jvm.exec) (hZ : Z.Warmed39 s.vm) {own : String} {index : Nat} {y : MethodName} {bytes : ByteArray} {maxL : Nat} (hy1 : y.name = "<init>")
    (hown : s.vm.findClass own = some m.cls) (w1 : (Jvm.Cond.methodLink own index y).before a0 Z = true) (w2 : (Jvm.Cond.instanceMethod y).before a0 Z = true)
    (w4 : (Jvm.Cond.code y bytes maxL none).before a0 Z = true) (w3 : (Jvm.Cond.initialized y.cls).before a0 Z = true) (hy : y.cls ≠ "java/lang/invoke/MethodHandle" ∧ y.cls ≠ "java/lang/invoke/VarHandle") {a : Addr}
    {W : Nat} {rm : Room} {argsL rest : List Value} {Q : Option Value → Heap → List Loc → Prop} (hM : OMet l Z y bytes maxL none [] rm (.ref a :: argsL).toArray h Q) (eT : T.heap = h)
    {pc : Nat} {Ls : Array Slot} (hsize : Ls.size = c.maxLocals) (hlen : ∀ sig, parseMethodDescriptor y.desc = some sig → argsL.length = sig.parameters.length) (hW : (rest.map fun v => v.category).sum = W)
    (hd : decode c.code pc = .ok (.invokespecial index, 3)) (hf : rm.frames + 1 ≤ R.frames) (hl : W + (maxL + 11) + rm.locals ≤ R.locals) (hc : cells + rm.cells ≤ R.cells) (hs : slots + rm.slots ≤ R.slots) {P : State → Outcome → Prop}
    (k : ∀ (v : Option Value) (T' : State) (L : List Loc), Stand p l e R s m args below meth c T' (locs ++ L) (cells + rm.cells) (slots + rm.slots) → Q v T'.heap L → OGo p e below (T'.setTop (mkF m (pc + 3) Ls (v.toList ++ rest))) P) :
    OGo p e below (T.setTop (mkF m pc Ls (argsL.reverse ++ .ref a :: rest))) P := 
  own_specialK X hx hZ hy1 hown w1 w2 w4 hy (backOf (W := W) hM hZ w4 w3 hf hl) eT hsize hlen hW hd hc hs k
/-- an instance method by its contract -/
theorem own_virtualK (X : Stand p l e R s m args below meth c T locs cells slots) (hx : p.tables.exec = Jvm.exec) (hZ : Z.Warmed39 s.vm) {own C : String} {index : Nat} {y z : MethodName}
    (hown : s.vm.findClass own = some m.cls) (w1 : (Jvm.Cond.methodLink own index y).before a0 Z = true) (w2 : (Jvm.Cond.declares y).before a0 Z = true) (hnf : NotFace s y) (w5 : (Jvm.Cond.selects C y z).before a0 Z = true) (w6 : (Jvm.Cond.instanceMethod z).before a0 Z = true)
    (hy : y.cls ≠ "java/lang/invoke/MethodHandle" ∧ y.cls ≠ "java/lang/invoke/VarHandle") {b : Addr} (hb : Exa Z h b C)
    {W : Nat} {kc ks : Nat} {argsL rest : List Value} {Q : Option Value → Heap → List Loc → Prop} (hK : OBack l R p e below s args z 3 W (.ref b :: argsL).toArray h kc ks Q) (eT : T.heap = h)
    {pc : Nat} {Ls : Array Slot} (hsize : Ls.size = c.maxLocals) (hlen : ∀ sig, parseMethodDescriptor y.desc = some sig → argsL.length = sig.parameters.length) (hW : (rest.map fun v => v.category).sum = W)
    (hd : decode c.code pc = .ok (.invokevirtual index, 3)) (hc : cells + kc ≤ R.cells) (hs : slots + ks ≤ R.slots) {P : State → Outcome → Prop}
    (k : ∀ (v : Option Value) (T' : State) (L : List Loc), Stand p l e R s m args below meth c T' (locs ++ L) (cells + kc) (slots + ks) → Q v T'.heap L → OGo p e below (T'.setTop (mkF m (pc + 3) Ls (v.toList ++ rest))) P) :
    OGo p e below (T.setTop (mkF m pc Ls (argsL.reverse ++ .ref b :: rest))) P := by
  obtain ⟨cq, kq, qa, qb, qc⟩ := isOf hZ eT hb
  obtain ⟨v, vm, ⟨T', L', k', n'⟩, -, X', ⟨L, hQ, l1, y1, z1⟩, st⟩ := X.virtualBack hx (y := y) (z := z) hown (mvT hZ w1) (mvT hZ w2) hnf (mvT hZ w5) (mvT hZ w6) hy hK qa qc (g := mkF m pc Ls (argsL.reverse ++ .ref b :: rest)) rfl hsize (Steps.refl _) (argsL := argsL) (rest := rest) hlen rfl
    (by show 2 * 0 + _ ≤ _; rw [hW]; omega) hd (fun _ _ => ⟨rfl, eT, hc, hs⟩)
  dsimp only [Pt.U, Pt.locs, Pt.cells, Pt.slots] at X' l1 y1 z1 st hQ
  subst l1 y1 z1
  exact OGo.step (fun _ kk => st.trans kk) (k v T' L X' hQ)
theorem own_virtual (X : Stand p l e R s m args below meth c T locs cells slots) (hx : p.tables.exec = Jvm.exec) (hZ : Z.Warmed39 s.vm) {own C : String} {index : Nat} {y z : MethodName} {bytes : ByteArray} {maxL : Nat} {ret : Option FieldType}
    (hown : s.vm.findClass own = some m.cls) (w1 : (Jvm.Cond.methodLink own index y).before a0 Z = true) (w2 : (Jvm.Cond.declares y).before a0 Z = true) (hnf : NotFace s y) (w5 : (Jvm.Cond.selects C y z).before a0 Z = true) (w6 : (Jvm.Cond.instanceMethod z).before a0 Z = true)
    (hy : y.cls ≠ "java/lang/invoke/MethodHandle" ∧ y.cls ≠ "java/lang/invoke/VarHandle") (w4 : (Jvm.Cond.code z bytes maxL ret).before a0 Z = true) (w3 : (Jvm.Cond.initialized z.cls).before a0 Z = true) {b : Addr} (hb : Exa Z h b C)
    {W : Nat} {rm : Room} {argsL rest : List Value} {Q : Option Value → Heap → List Loc → Prop} (hM : OMet l Z z bytes maxL ret [] rm (.ref b :: argsL).toArray h Q) (eT : T.heap = h)
    {pc : Nat} {Ls : Array Slot} (hsize : Ls.size = c.maxLocals) (hlen : ∀ sig, parseMethodDescriptor y.desc = some sig → argsL.length = sig.parameters.length) (hW : (rest.map fun v => v.category).sum = W)
    (hd : decode c.code pc = .ok (.invokevirtual index, 3)) (hf : rm.frames + 1 ≤ R.frames) (hl : W + (maxL + 11) + rm.locals ≤ R.locals) (hc : cells + rm.cells ≤ R.cells) (hs : slots + rm.slots ≤ R.slots) {P : State → Outcome → Prop}
    (k : ∀ (v : Option Value) (T' : State) (L : List Loc), Stand p l e R s m args below meth c T' (locs ++ L) (cells + rm.cells) (slots + rm.slots) → Q v T'.heap L → OGo p e below (T'.setTop (mkF m (pc + 3) Ls (v.toList ++ rest))) P) :
    OGo p e below (T.setTop (mkF m pc Ls (argsL.reverse ++ .ref b :: rest))) P := 
  own_virtualK X hx hZ hown w1 w2 hnf w5 w6 hy hb (backOf (W := W) hM hZ w4 w3 hf hl) eT hsize hlen hW hd hc hs k
/-- an instance method that an ancestor declares, by its contract -/
theorem own_virtualUpK (X : Stand p l e R s m args below meth c T locs cells slots) (hx : p.tables.exec = Jvm.exec) (hZ : Z.Warmed39 s.vm) {own C owner : String} {index : Nat} {y z : MethodName}
    (hown : s.vm.findClass own = some m.cls) (w1 : (Jvm.Cond.methodLink own index y).before a0 Z = true) (w7 : (Jvm.Cond.sameMethod y.cls owner y.name y.desc).before a0 Z = true) (w2 : (Jvm.Cond.declares ⟨owner, y.name, y.desc⟩).before a0 Z = true) (w5 : (Jvm.Cond.selects C y z).before a0 Z = true) (w6 : (Jvm.Cond.instanceMethod z).before a0 Z = true)
    (hy : owner ≠ "java/lang/invoke/MethodHandle" ∧ owner ≠ "java/lang/invoke/VarHandle") {b : Addr} (hb : Exa Z h b C)
    {W : Nat} {kc ks : Nat} {argsL rest : List Value} {Q : Option Value → Heap → List Loc → Prop} (hK : OBack l R p e below s args z 3 W (.ref b :: argsL).toArray h kc ks Q) (eT : T.heap = h)
    {pc : Nat} {Ls : Array Slot} (hsize : Ls.size = c.maxLocals) (hlen : ∀ sig, parseMethodDescriptor y.desc = some sig → argsL.length = sig.parameters.length) (hW : (rest.map fun v => v.category).sum = W)
    (hd : decode c.code pc = .ok (.invokevirtual index, 3)) (hc : cells + kc ≤ R.cells) (hs : slots + ks ≤ R.slots) {P : State → Outcome → Prop}
    (k : ∀ (v : Option Value) (T' : State) (L : List Loc), Stand p l e R s m args below meth c T' (locs ++ L) (cells + kc) (slots + ks) → Q v T'.heap L → OGo p e below (T'.setTop (mkF m (pc + 3) Ls (v.toList ++ rest))) P) :
    OGo p e below (T.setTop (mkF m pc Ls (argsL.reverse ++ .ref b :: rest))) P := by
  obtain ⟨cq, kq, qa, qb, qc⟩ := isOf hZ eT hb
  obtain ⟨v, vm, ⟨T', L', k', n'⟩, -, X', ⟨L, hQ, l1, y1, z1⟩, st⟩ := X.virtualBackUp hx (x := y) (y := z) hown (mvT hZ w1) (mvT hZ w7) (mvT hZ w2) hy (mvT hZ w5) (mvT hZ w6) hK qa qc (g := mkF m pc Ls (argsL.reverse ++ .ref b :: rest)) rfl hsize (Steps.refl _) (argsL := argsL) (rest := rest) hlen rfl
    (by show 2 * 0 + _ ≤ _; rw [hW]; omega) hd (fun _ _ => ⟨rfl, eT, hc, hs⟩)
  dsimp only [Pt.U, Pt.locs, Pt.cells, Pt.slots] at X' l1 y1 z1 st hQ
  subst l1 y1 z1
  exact OGo.step (fun _ kk => st.trans kk) (k v T' L X' hQ)
theorem own_virtualUp (X : Stand p l e R s m args below meth c T locs cells slots) (hx : p.tables.exec = Jvm.exec) (hZ : Z.Warmed39 s.vm) {own C owner : String} {index : Nat} {y z : MethodName} {bytes : ByteArray} {maxL : Nat} {ret : Option FieldType}
    (hown : s.vm.findClass own = some m.cls) (w1 : (Jvm.Cond.methodLink own index y).before a0 Z = true) (w7 : (Jvm.Cond.sameMethod y.cls owner y.name y.desc).before a0 Z = true) (w2 : (Jvm.Cond.declares ⟨owner, y.name, y.desc⟩).before a0 Z = true) (w5 : (Jvm.Cond.selects C y z).before a0 Z = true) (w6 : (Jvm.Cond.instanceMethod z).before a0 Z = true)
    (hy : owner ≠ "java/lang/invoke/MethodHandle" ∧ owner ≠ "java/lang/invoke/VarHandle") (w4 : (Jvm.Cond.code z bytes maxL ret).before a0 Z = true) (w3 : (Jvm.Cond.initialized z.cls).before a0 Z = true) {b : Addr} (hb : Exa Z h b C)
    {W : Nat} {rm : Room} {argsL rest : List Value} {Q : Option Value → Heap → List Loc → Prop} (hM : OMet l Z z bytes maxL ret [] rm (.ref b :: argsL).toArray h Q) (eT : T.heap = h)
    {pc : Nat} {Ls : Array Slot} (hsize : Ls.size = c.maxLocals) (hlen : ∀ sig, parseMethodDescriptor y.desc = some sig → argsL.length = sig.parameters.length) (hW : (rest.map fun v => v.category).sum = W)
    (hd : decode c.code pc = .ok (.invokevirtual index, 3)) (hf : rm.frames + 1 ≤ R.frames) (hl : W + (maxL + 11) + rm.locals ≤ R.locals) (hc : cells + rm.cells ≤ R.cells) (hs : slots + rm.slots ≤ R.slots) {P : State → Outcome → Prop}
    (k : ∀ (v : Option Value) (T' : State) (L : List Loc), Stand p l e R s m args below meth c T' (locs ++ L) (cells + rm.cells) (slots + rm.slots) → Q v T'.heap L → OGo p e below (T'.setTop (mkF m (pc + 3) Ls (v.toList ++ rest))) P) :
    OGo p e below (T.setTop (mkF m pc Ls (argsL.reverse ++ .ref b :: rest))) P := 
  own_virtualUpK X hx hZ hown w1 w7 w2 w5 w6 hy hb (backOf (W := W) hM hZ w4 w3 hf hl) eT hsize hlen hW hd hc hs k
theorem own_cat {v : Value} (q : v.isRef = true) : v.category = 1 := by cases v <;> first | rfl | (simp [Value.isRef] at q)
theorem own_narR {v : Value} {t : FieldType} (q : v.isRef = true) (ht : t.isReference = true := by rfl) : narrow t v = v := by cases v <;> first | (simp [Value.isRef] at q; done) | (cases t <;> first | rfl | (cases ht))
theorem own_fitR {v : Value} {t : FieldType} (q : v.isRef = true) (ht : t.isReference = true := by rfl) : fits t v = true := by cases v <;> first | (simp [Value.isRef] at q; done) | (cases t <;> first | rfl | (cases ht))
theorem own_store1 {l l' : Array Slot} {i : Nat} {v : Value} {o : Slot} (hold : l[i]? = some o) (ho : o = .unset ∨ ∃ w, o = .val w ∧ w.category = 1) (hv : v.category = 1) (hl' : l.setIfInBounds i (.val v) = l' := by rfl) : storeLocals l i v = some l' := by
  rw [XS.store1 hold ho hv, hl']
end Own
theorem own_eqv {args : Array Value} {s : State} {a b : Term} {y : Value} (h : (Jvm.Cond.eq a b).value args s none s [] = some true) (hb : b.eval args s none [] s = some y) : a.eval args s none [] s = some y := by
  cases ha : a.eval args s none [] s with
  | none => simp [Cond.value, ha] at h
  | some x => cases x <;> cases y <;> simp_all [Cond.value]
theorem own_len {args : Array Value} {s : State} {t : Term} {a : Addr} {cl : Cell} {ty : FieldType} {n : Int32} (ev : t.eval args s none [] s = some (.ref a)) (A : Arr s s.heap a cl ty) (h : (Term.length t).eval args s none [] s = some (.int n)) : cl.slots.size < 2 ^ 31 ∧ cl.slots.size.toInt32 = n := by
  have ha : s.arrayAt? a = some cl := Arr.fin (State.WarmedH.refl s).alike A
  by_cases q : cl.slots.size < 2 ^ 31
  · rw [len_f ev ha q] at h
    exact ⟨q, Value.int.inj (Option.some.inj h)⟩
  · simp [Term.eval, ev, ha] at h
    omega
theorem own_elem {args : Array Value} {s : State} {t : Term} {a : Addr} {cl : Cell} {ty : FieldType} {j : Int32} {v : Value} (ev : t.eval args s none [] s = some (.ref a)) (A : Arr s s.heap a cl ty) (h : (Term.elem t (Term.int j)).eval args s none [] s = some v) (hn : ¬ j < 0 := by decide) : cl.slots[j.toNatClampNeg]? = some v := by
  have ha : s.arrayAt? a = some cl := Arr.fin (State.WarmedH.refl s).alike A
  rw [← elem_f ev (Term.int_eval j) ha hn]; exact h
section OwnW
variable {p : Program} {l : Launch} {e : Env} {R : Room} {s : State} {m : MethodId} {args : Array Value} {below : List Frame} {meth : Method} {c : Code} {T : State} {locs : List Loc} {cells slots : Nat} {Z : State} {a0 : Array Value} {h h' : Heap} {EL : List (String × Nat)} {vm0 : Vm}
/-- the contract of one body that may load String constants -/
abbrev OMetW (l : Launch) (Z : State) (EL : List (String × Nat)) (y : MethodName) (bytes : ByteArray) (maxL : Nat) (ret : Option FieldType) (ws : List Jvm.Cond) (rm : Room) (as' : Array Value) (h0 : Heap) (Q : Option Value → Heap → List Loc → Prop) : Prop :=
  MetFree l y (head1 (Jvm.Cond.code y bytes maxL ret :: ws) rm) (fun a U => a = as' ∧ Z.Warmed39 U.vm ∧ U.heap = h0 ∧ CHv Z EL U.vm h0) (fun _ _ _ _ _ => True) (fun _ U o U' => ∃ v L, o = .returned v ∧ Q v U'.heap L ∧ CHr Z EL U.vm U.heap U'.vm U'.heap ∧ ReturnedEndW U o U' L rm.cells rm.slots)
def OEndW (s Z : State) (EL : List (String × Nat)) (Q : Option Value → Heap → List Loc → Prop) (kc ks : Nat) (t : State) (o : Outcome) : Prop :=
  ∃ v L, o = .returned v ∧ Q v t.heap L ∧ CHr Z EL s.vm s.heap t.vm t.heap ∧ ReturnedEndW s o t L kc ks
/-- what a walk that may have interned keeps: the tables at hand, and that what they book stands in the heap at hand -/
def OW (Z s : State) (EL : List (String × Nat)) (vm0 : Vm) (h : Heap) : Prop := (∃ k, s.Since vm0 k ∧ k ≤ h.size) ∧ Z.Warmed39 vm0 ∧ CHr Z EL s.vm s.heap vm0 h
theorem OW.chv (O : OW Z s EL vm0 h) : CHv Z EL vm0 h := O.2.2.1
theorem OW.trans {vm1 : Vm} (O : OW Z s EL vm0 h) (hZ : Z.Warmed39 vm1) {k : Nat} (hS : s.Since vm1 k) (hk : k ≤ h'.size) (C : CHr Z EL vm0 h vm1 h') : OW Z s EL vm1 h' := ⟨⟨k, hS, hk⟩, hZ, O.2.2.trans C⟩
theorem OW.ext (O : OW Z s EL vm0 h) (E : Ext h h') : OW Z s EL vm0 h' := by
  obtain ⟨⟨k, a, b⟩, c, d⟩ := O
  exact ⟨⟨k, a, Nat.le_trans b E.1⟩, c, d.trans (CHr.ext E d.1)⟩
theorem OW.wr {a : Addr} {sl : Nat} {v : Value} (O : OW Z s EL vm0 h) (W : Wr h h' a sl v) (S : Safe Z EL vm0 h a) : OW Z s EL vm0 h' := by
  obtain ⟨⟨k, x, b⟩, c, d⟩ := O
  exact ⟨⟨k, x, by rw [W.size]; exact b⟩, c, d.trans (CHr.wr W S d.1)⟩
theorem OW.keep {ws : List Addr} (O : OW Z s EL vm0 h) (K : Keep h h' ws) (hs : ∀ x ∈ ws, Safe Z EL vm0 h x) : OW Z s EL vm0 h' := by
  obtain ⟨⟨k, x, b⟩, c, d⟩ := O
  exact ⟨⟨k, x, Nat.le_trans b K.1⟩, c, d.trans (CHr.keep K hs d.1)⟩
theorem OW.eq (O : OW Z s EL vm0 h) (q : h' = h) : OW Z s EL vm0 h' := q ▸ O
theorem OMetW.body {y : MethodName} {bytes : ByteArray} {maxL : Nat} {ret : Option FieldType} {ws : List Jvm.Cond} {rm : Room} {as' : Array Value} {h0 : Heap} {Q : Option Value → Heap → List Loc → Prop} (hpn : plainFor y = true)
    (b : ∀ (p : Program) (e : Env) (s : State) (m : MethodId) (below : List Frame) (meth : Method) (c : Code) (s₁ : State), p.tables.exec = Jvm.exec → c.code = bytes → c.maxLocals = maxL → (s.setVm s.vm).vm.findClass y.cls = some m.cls → meth.name = y.name → meth.sig.returnType = ret → meth.locks = false → Z.Warmed39 (s.setVm s.vm).vm →
      Stand p l e rm (s.setVm s.vm) m as' below meth c s₁ [] 0 0 → s₁.heap = h0 → OW Z s EL s.vm h0 → OGo p e below (s₁.setTop (entryFrame m as' maxL)) (OEndW s Z EL Q rm.cells rm.slots)) : OMetW l Z EL y bytes maxL ret ws rm as' h0 Q := by
  refine MetFree.of_bodySF hpn hisR ?_
  intro p e s m args below meth c s₁ Bd hml0 hP hK
  obtain ⟨rfl, hZ, hh, hC⟩ := hP
  exact b p e s m below meth c s₁ Bd.exec Bd.bytes hml0 (findClass_of_methodNamed Bd.named) (name_of_methodNamed Bd.named Bd.method).1 Bd.returns Bd.notSynchronized hZ (Stand.of_body Bd) (by rw [← hh, Bd.state]; rfl)
    ⟨⟨0, (State.WarmedH.refl s).since 0, Nat.zero_le _⟩, hZ, by rw [hh]; exact CHr.refl hC⟩
theorem own_endW (X : Stand p l e R (s.setVm vm0) m args below meth c T locs cells slots) (hlk : meth.locks = false) (hEL : EW Z a0 EL) (O : OW Z s EL vm0 h) (eT : T.heap = h) {v : Option Value} (hv : meth.sig.returnType = none → v = none) {Q : Option Value → Heap → List Loc → Prop} {kc ks : Nat} (hQ : Q v T.heap locs) (h1 : cells ≤ kc) (h2 : slots ≤ ks) :
    ∃ fs, (∀ (f : JFrame) (acts : List Action), f.method = m → f.locked = none → f.entered = [] → (doReturn e (T.setTop f) acts v).1 = T.setFrames fs) ∧ (T.setFrames fs).status = .running ∧ Ended (T.setFrames fs) below (.returned v) ∧ OEndW s Z EL Q kc ks (T.setFrames fs) (.returned v) := by
  obtain ⟨⟨k, hS, hk⟩, hZ, hC⟩ := O
  obtain ⟨fs, q1, q2, q3, q4, q5, q6, q7⟩ := X.leaveW hS (by rw [eT]; exact hk) (v := v) hv hlk
  refine ⟨fs, q1, q2, q3, v, locs, rfl, hQ, ?_, q4, q5, q6, q7.mono h1 h2⟩
  have C := hC.trans (CHv.at X hZ hEL hC.1)
  rw [← eT] at C
  exact C
theorem own_retW (X : Stand p l e R (s.setVm vm0) m args below meth c T locs cells slots) (hx : p.tables.exec = Jvm.exec) (hlk : meth.locks = false) (hEL : EW Z a0 EL) (O : OW Z s EL vm0 h) (eT : T.heap = h) {pc : Nat} {Ls : Array Slot} {w : Value} {t : FieldType} {i : Instr} {rest : List Value} (hret : meth.sig.returnType = some t) (hn : narrow t w = w)
    (hi : (i = .ireturn ∧ (t = .int ∨ t = .boolean ∨ t = .byte ∨ t = .char ∨ t = .short) ∧ ∃ z, w = .int z) ∨ (i = .lreturn ∧ t = .long ∧ ∃ z, w = .long z) ∨ (i = .dreturn ∧ t = .double ∧ ∃ z, w = .double z) ∨ (i = .freturn ∧ t = .float ∧ ∃ z, w = .float z) ∨ (i = .areturn ∧ t.isReference = true ∧ w.isRef = true))
    (hd : decode c.code pc = .ok (i, 1)) {Q : Option Value → Heap → List Loc → Prop} {kc ks : Nat} (hQ : Q (some w) T.heap locs) (h1 : cells ≤ kc) (h2 : slots ≤ ks) : OGo p e below (T.setTop (mkF m pc Ls (w :: rest))) (OEndW s Z EL Q kc ks) := by
  obtain ⟨fs, hr, q2, q3, q4⟩ := own_endW X hlk hEL O eT (v := some w) (fun h => by rw [hret] at h; cases h) hQ h1 h2
  exact ⟨_, _, retOut X hx hret hn hi hd hr, q2, q3, q4⟩
theorem own_retNW (X : Stand p l e R (s.setVm vm0) m args below meth c T locs cells slots) (hx : p.tables.exec = Jvm.exec) (hlk : meth.locks = false) (hEL : EW Z a0 EL) (O : OW Z s EL vm0 h) (eT : T.heap = h) {pc : Nat} {Ls : Array Slot} {z : Int32} {t : FieldType} {rest : List Value} (hret : meth.sig.returnType = some t) (ht : t = .boolean ∨ t = .byte ∨ t = .char ∨ t = .short)
    (hd : decode c.code pc = .ok (.ireturn, 1)) {Q : Option Value → Heap → List Loc → Prop} {kc ks : Nat} (hQ : Q (some (.int (nar t z))) T.heap locs) (h1 : cells ≤ kc) (h2 : slots ≤ ks) : OGo p e below (T.setTop (mkF m pc Ls (.int z :: rest))) (OEndW s Z EL Q kc ks) := by
  obtain ⟨fs, hr, q2, q3, q4⟩ := own_endW X hlk hEL O eT (v := some (.int (nar t z))) (fun h => by rw [hret] at h; cases h) hQ h1 h2
  exact ⟨_, _, retN X hx hret ht hd hr, q2, q3, q4⟩
theorem own_ret0W (X : Stand p l e R (s.setVm vm0) m args below meth c T locs cells slots) (hx : p.tables.exec = Jvm.exec) (hlk : meth.locks = false) (hEL : EW Z a0 EL) (O : OW Z s EL vm0 h) (eT : T.heap = h) {pc : Nat} {Ls : Array Slot} (hret : meth.sig.returnType = none)
    (hd : decode c.code pc = .ok (.return_, 1)) {Q : Option Value → Heap → List Loc → Prop} {kc ks : Nat} (hQ : Q none T.heap locs) (h1 : cells ≤ kc) (h2 : slots ≤ ks) : OGo p e below (T.setTop (mkF m pc Ls [])) (OEndW s Z EL Q kc ks) := by
  obtain ⟨fs, hr, q2, q3, q4⟩ := own_endW X hlk hEL O eT (v := none) (fun _ => rfl) hQ h1 h2
  exact ⟨_, _, X.returnOut hx hret hd hr, q2, q3, q4⟩
/-- behind a callee that may have interned -/
theorem own_behind {T' : State} {own : String} {L : List Loc} {kc ks : Nat} {Q : Option Value → Heap → List Loc → Prop} {v : Option Value} (O : OW Z s EL vm0 h) (eT : T.heap = h) (hown : (s.setVm vm0).vm.findClass own = some m.cls)
    (hS2 : (s.setVm vm0).Since T'.vm T'.heap.size) (hg : T.heap.size ≤ T'.heap.size) (C : CHr Z EL vm0 h T'.vm T'.heap) : OW Z s EL T'.vm T'.heap ∧ Z.Warmed39 (s.setVm T'.vm).vm ∧ (s.setVm T'.vm).vm.findClass own = some m.cls := by
  obtain ⟨⟨k, hS, hk⟩, hZ, hC⟩ := O
  have hW : Z.Warmed39 T'.vm := State.Warmed39.trans (t := s.setVm vm0) hZ hS2.1
  exact ⟨⟨⟨_, hS.trans hS2 (Nat.le_trans hk (by rw [← eT]; exact hg)), Nat.le_refl _⟩, hW, hC.trans C⟩, hW, (hS2.1.alike.findClass _ _).trans hown⟩
theorem own_callSW (X : Stand p l e R (s.setVm vm0) m args below meth c T locs cells slots) (hx : p.tables.exec = Jvm.exec) (hZ : Z.Warmed39 (s.setVm vm0).vm) {own : String} {index : Nat} {y : MethodName} {bytes : ByteArray} {maxL : Nat} {ret : Option FieldType}
    (hown : (s.setVm vm0).vm.findClass own = some m.cls) (w1 : (Jvm.Cond.methodLink own index y).before a0 Z = true) (w2 : (Jvm.Cond.static y).before a0 Z = true) (w3 : (Jvm.Cond.initialized y.cls).before a0 Z = true)
    (w4 : (Jvm.Cond.code y bytes maxL ret).before a0 Z = true) (hy : y.cls ≠ "java/lang/invoke/MethodHandle" ∧ y.cls ≠ "java/lang/invoke/VarHandle") (hEL : EW Z a0 EL) (O : OW Z s EL vm0 h)
    {W : Nat} {rm : Room} {argsL rest : List Value} {Q : Option Value → Heap → List Loc → Prop} (hM : OMetW l Z EL y bytes maxL ret [] rm argsL.toArray h Q) (eT : T.heap = h)
    {pc : Nat} {Ls : Array Slot} (hsize : Ls.size = c.maxLocals) (hlen : ∀ sig, parseMethodDescriptor y.desc = some sig → argsL.length = sig.parameters.length) (hW : (rest.map fun v => v.category).sum = W)
    (hd : decode c.code pc = .ok (.invokestatic index, 3)) (hf : rm.frames + 1 ≤ R.frames) (hl : W + (maxL + 11) + rm.locals ≤ R.locals) (hc : cells + rm.cells ≤ R.cells) (hs : slots + rm.slots ≤ R.slots) {P : State → Outcome → Prop}
    (k : ∀ (v : Option Value) (T' : State) (L : List Loc), Stand p l e R (s.setVm T'.vm) m args below meth c T' (locs ++ L) (cells + rm.cells) (slots + rm.slots) → Q v T'.heap L → OW Z s EL T'.vm T'.heap → Z.Warmed39 (s.setVm T'.vm).vm → (s.setVm T'.vm).vm.findClass own = some m.cls → CHr Z EL vm0 h T'.vm T'.heap → OGo p e below (T'.setTop (mkF m (pc + 3) Ls (v.toList ++ rest))) P) :
    OGo p e below (T.setTop (mkF m pc Ls (argsL.reverse ++ rest))) P := by
  obtain ⟨v, vm, ⟨T', L', k', n'⟩, -, X', hS2, hg, ⟨L, hQ, l1, y1, z1, C⟩, st⟩ := callSS X hx (y := y) hown (mvT hZ w1) (mvT hZ w2) (mvT hZ w3) (mvT hZ w4) hy (backOfSH (W := W) hM hZ w4 w3 hf hl hEL O.chv) (g := mkF m pc Ls (argsL.reverse ++ rest)) rfl hsize (argsL := argsL) (rest := rest) hlen rfl
    (by show 2 * 0 + _ ≤ _; rw [hW]; omega) hd (fun _ _ => ⟨rfl, eT, hc, hs⟩)
  dsimp only [Pt.U, Pt.locs, Pt.cells, Pt.slots] at X' l1 y1 z1 st hQ hS2 hg C
  subst l1 y1 z1
  obtain ⟨r1, r2, r3⟩ := own_behind (L := L) (kc := 0) (ks := 0) (Q := Q) (v := v) O eT hown hS2 hg C
  exact OGo.step (fun _ kk => st.trans kk) (k v T' L X' hQ r1 r2 r3 C)
theorem own_specialW (X : Stand p l e R (s.setVm vm0) m args below meth c T locs cells slots) (hx : p.tables.exec = Jvm.exec) (hZ : Z.Warmed39 (s.setVm vm0).vm) {own : String} {index : Nat} {y : MethodName} {bytes : ByteArray} {maxL : Nat} (hy1 : y.name = "<init>")
    (hown : (s.setVm vm0).vm.findClass own = some m.cls) (w1 : (Jvm.Cond.methodLink own index y).before a0 Z = true) (w2 : (Jvm.Cond.instanceMethod y).before a0 Z = true)
    (w4 : (Jvm.Cond.code y bytes maxL none).before a0 Z = true) (w3 : (Jvm.Cond.initialized y.cls).before a0 Z = true) (hy : y.cls ≠ "java/lang/invoke/MethodHandle" ∧ y.cls ≠ "java/lang/invoke/VarHandle") (hEL : EW Z a0 EL) (O : OW Z s EL vm0 h) {a : Addr}
    {W : Nat} {rm : Room} {argsL rest : List Value} {Q : Option Value → Heap → List Loc → Prop} (hM : OMetW l Z EL y bytes maxL none [] rm (.ref a :: argsL).toArray h Q) (eT : T.heap = h)
    {pc : Nat} {Ls : Array Slot} (hsize : Ls.size = c.maxLocals) (hlen : ∀ sig, parseMethodDescriptor y.desc = some sig → argsL.length = sig.parameters.length) (hW : (rest.map fun v => v.category).sum = W)
    (hd : decode c.code pc = .ok (.invokespecial index, 3)) (hf : rm.frames + 1 ≤ R.frames) (hl : W + (maxL + 11) + rm.locals ≤ R.locals) (hc : cells + rm.cells ≤ R.cells) (hs : slots + rm.slots ≤ R.slots) {P : State → Outcome → Prop}
    (k : ∀ (v : Option Value) (T' : State) (L : List Loc), Stand p l e R (s.setVm T'.vm) m args below meth c T' (locs ++ L) (cells + rm.cells) (slots + rm.slots) → Q v T'.heap L → OW Z s EL T'.vm T'.heap → Z.Warmed39 (s.setVm T'.vm).vm → (s.setVm T'.vm).vm.findClass own = some m.cls → CHr Z EL vm0 h T'.vm T'.heap → OGo p e below (T'.setTop (mkF m (pc + 3) Ls (v.toList ++ rest))) P) :
    OGo p e below (T.setTop (mkF m pc Ls (argsL.reverse ++ .ref a :: rest))) P := by
  obtain ⟨v, vm, ⟨T', L', k', n'⟩, -, X', hS2, hg, ⟨L, hQ, l1, y1, z1, C⟩, st⟩ := X.specialBackS hx (y := y) hy1 hown (mvT hZ w1) (mvT hZ w2) (mvT hZ w4) hy (backOfSH (W := W) hM hZ w4 w3 hf hl hEL O.chv) (g := mkF m pc Ls (argsL.reverse ++ .ref a :: rest)) rfl hsize (Steps.refl _) (a := a) (argsL := argsL) (rest := rest) hlen rfl
    (by show 2 * 0 + _ ≤ _; rw [hW]; omega) hd (fun _ _ => ⟨rfl, eT, hc, hs⟩)
  dsimp only [Pt.U, Pt.locs, Pt.cells, Pt.slots] at X' l1 y1 z1 st hQ hS2 hg C
  subst l1 y1 z1
  obtain ⟨r1, r2, r3⟩ := own_behind (L := L) (kc := 0) (ks := 0) (Q := Q) (v := v) O eT hown hS2 hg C
  exact OGo.step (fun _ kk => st.trans kk) (k v T' L X' hQ r1 r2 r3 C)
theorem own_virtualW (X : Stand p l e R (s.setVm vm0) m args below meth c T locs cells slots) (hx : p.tables.exec = Jvm.exec) (hZ : Z.Warmed39 (s.setVm vm0).vm) {own C : String} {index : Nat} {y z : MethodName} {bytes : ByteArray} {maxL : Nat} {ret : Option FieldType}
    (hown : (s.setVm vm0).vm.findClass own = some m.cls) (w1 : (Jvm.Cond.methodLink own index y).before a0 Z = true) (w2 : (Jvm.Cond.declares y).before a0 Z = true) (hnf : NotFace (s.setVm vm0) y) (w5 : (Jvm.Cond.selects C y z).before a0 Z = true) (w6 : (Jvm.Cond.instanceMethod z).before a0 Z = true)
    (hy : y.cls ≠ "java/lang/invoke/MethodHandle" ∧ y.cls ≠ "java/lang/invoke/VarHandle") (w4 : (Jvm.Cond.code z bytes maxL ret).before a0 Z = true) (w3 : (Jvm.Cond.initialized z.cls).before a0 Z = true) (hEL : EW Z a0 EL) (O : OW Z s EL vm0 h) {b : Addr} (hb : Exa Z h b C)
    {W : Nat} {rm : Room} {argsL rest : List Value} {Q : Option Value → Heap → List Loc → Prop} (hM : OMetW l Z EL z bytes maxL ret [] rm (.ref b :: argsL).toArray h Q) (eT : T.heap = h)
    {pc : Nat} {Ls : Array Slot} (hsize : Ls.size = c.maxLocals) (hlen : ∀ sig, parseMethodDescriptor y.desc = some sig → argsL.length = sig.parameters.length) (hW : (rest.map fun v => v.category).sum = W)
    (hd : decode c.code pc = .ok (.invokevirtual index, 3)) (hf : rm.frames + 1 ≤ R.frames) (hl : W + (maxL + 11) + rm.locals ≤ R.locals) (hc : cells + rm.cells ≤ R.cells) (hs : slots + rm.slots ≤ R.slots) {P : State → Outcome → Prop}
    (k : ∀ (v : Option Value) (T' : State) (L : List Loc), Stand p l e R (s.setVm T'.vm) m args below meth c T' (locs ++ L) (cells + rm.cells) (slots + rm.slots) → Q v T'.heap L → OW Z s EL T'.vm T'.heap → Z.Warmed39 (s.setVm T'.vm).vm → (s.setVm T'.vm).vm.findClass own = some m.cls → CHr Z EL vm0 h T'.vm T'.heap → OGo p e below (T'.setTop (mkF m (pc + 3) Ls (v.toList ++ rest))) P) :
    OGo p e below (T.setTop (mkF m pc Ls (argsL.reverse ++ .ref b :: rest))) P := by
  obtain ⟨cq, kq, qa, qb, qc⟩ := isOf hZ eT hb
  obtain ⟨v, vm, ⟨T', L', k', n'⟩, -, X', hS2, hg, ⟨L, hQ, l1, y1, z1, C⟩, st⟩ := X.virtualBackS hx (y := y) (z := z) hown (mvT hZ w1) (mvT hZ w2) hnf (mvT hZ w5) (mvT hZ w6) hy (backOfSH (W := W) hM hZ w4 w3 hf hl hEL O.chv) qa qc (g := mkF m pc Ls (argsL.reverse ++ .ref b :: rest)) rfl hsize (Steps.refl _) (argsL := argsL) (rest := rest) hlen rfl
    (by show 2 * 0 + _ ≤ _; rw [hW]; omega) hd (fun _ _ => ⟨rfl, eT, hc, hs⟩)
  dsimp only [Pt.U, Pt.locs, Pt.cells, Pt.slots] at X' l1 y1 z1 st hQ hS2 hg C
  subst l1 y1 z1
  obtain ⟨r1, r2, r3⟩ := own_behind (L := L) (kc := 0) (ks := 0) (Q := Q) (v := v) O eT hown hS2 hg C
  exact OGo.step (fun _ kk => st.trans kk) (k v T' L X' hQ r1 r2 r3 C)
/-- 'ldc' of a String constant of EL -/
theorem own_ldcW (X : Stand p l e R (s.setVm vm0) m args below meth c T locs cells slots) (hx : p.tables.exec = Jvm.exec) {own text : String} {index : Nat} (hown : (s.setVm vm0).vm.findClass own = some m.cls) (w : (Jvm.Cond.stringLink own index text).before a0 Z = true) (wS : ∀ a ∈ Bundle.stringAtoms, a.before a0 Z = true)
    (hEL : EW Z a0 EL) (O : OW Z s EL vm0 h) (eT : T.heap = h) (hmem : (own, index) ∈ EL) {vs : List Value} {z : Int32} (ht : (∀ c ∈ text.toList, c.toNat < 256) ∧ text.toList.map (fun c => Value.int (Jvm.Lit.byteI c.toNat.toUInt16)) = vs) (hz : ¬ z < 0) (hl : z.toNatClampNeg = vs.length)
    {pc : Nat} {Ls : Array Slot} {st : List Value} (hd : decode c.code pc = .ok (.ldc index, 2)) {n : Nat} (hn : 4 * text.toList.length ≤ n) (hbig : n ≤ 536870912) (hc : cells + 2 ≤ R.cells) (hl' : slots + (n + 4) ≤ R.slots) {P : State → Outcome → Prop}
    (k : ∀ (a b : Addr) (kb : ClassId) (T' : State), Stand p l e R (s.setVm T'.vm) m args below meth c T' locs (cells + 2) (slots + (n + 4)) → Ext h T'.heap → OW Z s EL T'.vm T'.heap → Z.Warmed39 (s.setVm T'.vm).vm → (s.setVm T'.vm).vm.findClass own = some m.cls → CHr Z EL vm0 h T'.vm T'.heap →
      Exa Z T'.heap a "java/lang/String" → Fld Z T'.heap a "java/lang/String" "coder" "B" (.int 0) → Fld Z T'.heap a "java/lang/String" "value" "[B" (.ref b) → Arv Z T'.heap b kb .byte z vs (.int 0) → (∀ x, Safe Z EL T'.vm T'.heap x → x ≠ a ∧ x ≠ b) → OGo p e below (T'.setTop (mkF m (pc + 2) Ls (.ref a :: st))) P) :
    OGo p e below (T.setTop (mkF m pc Ls st)) P := by
  obtain ⟨⟨k0, hS, hk⟩, hZ, hC⟩ := O
  obtain ⟨a, T', h', k1, b, kb, X', rfl, E, hS2, hk2, hW, hf, hE, hF1, hF2, hA, -, -, C, -, hsf, stp⟩ := ldcCH X hx hZ hown w wS eT hS hk hEL hmem hC.1 ht hz hl (g := mkF m pc Ls st) rfl hd hn hbig hc hl'
  exact OGo.step stp (k a b kb T' X' E ⟨⟨k1, hS2, hk2⟩, hW, hC.trans C⟩ hW hf C hE hF1 hF2 hA hsf)
end OwnW
theorem own_pd0 : parseMethodDescriptor "([C)V" = some ⟨[(.array .char)], none⟩ := by decide +kernel
theorem own_pd1 : parseMethodDescriptor "(Ljava/lang/Object;Ljava/lang/String;)Ljava/lang/Object;" = some ⟨[(.object "java/lang/Object"), (.object "java/lang/String")], some (.object "java/lang/Object")⟩ := by decide +kernel
theorem own_pd2 : parseMethodDescriptor "(Ljava/lang/String;J)V" = some ⟨[(.object "java/lang/String"), .long], none⟩ := by decide +kernel
theorem own_pd3 : parseMethodDescriptor "(ICCCC)Ljava/lang/String;" = some ⟨[.int, .char, .char, .char, .char], some (.object "java/lang/String")⟩ := by decide +kernel
theorem own_pd4 : parseMethodDescriptor "(Ljava/lang/String;)Lcom/example/lease/lease/model/AddToken;" = some ⟨[(.object "java/lang/String")], some (.object "com/example/lease/lease/model/AddToken")⟩ := by decide +kernel
theorem own_pd5 : parseMethodDescriptor "()Ljava/lang/String;" = some ⟨[], some (.object "java/lang/String")⟩ := by decide +kernel
theorem own_pd6 : parseMethodDescriptor "()I" = some ⟨[], some .int⟩ := by decide +kernel
theorem own_pd7 : parseMethodDescriptor "(Ljava/lang/Object;)Z" = some ⟨[(.object "java/lang/Object")], some .boolean⟩ := by decide +kernel
theorem own_pd8 : parseMethodDescriptor "()J" = some ⟨[], some .long⟩ := by decide +kernel
theorem own_pd9 : parseMethodDescriptor "([CIILjava/lang/Void;)V" = some ⟨[(.array .char), .int, .int, (.object "java/lang/Void")], none⟩ := by decide +kernel
theorem own_pd10 : parseMethodDescriptor "(I)I" = some ⟨[.int], some .int⟩ := by decide +kernel
theorem own_pd11 : parseMethodDescriptor "(I)[B" = some ⟨[.int], some (.array .byte)⟩ := by decide +kernel
theorem own_pd12 : parseMethodDescriptor "([BII)V" = some ⟨[(.array .byte), .int, .int], none⟩ := by decide +kernel
theorem own_pd13 : parseMethodDescriptor "([CI[BII)I" = some ⟨[(.array .char), .int, (.array .byte), .int, .int], some .int⟩ := by decide +kernel
theorem own_pd14 : parseMethodDescriptor "([CII)[B" = some ⟨[(.array .char), .int, .int], some (.array .byte)⟩ := by decide +kernel
theorem own_pd15 : parseMethodDescriptor "([BI)C" = some ⟨[(.array .byte), .int], some .char⟩ := by decide +kernel
theorem own_pd16 : parseMethodDescriptor "([BI)B" = some ⟨[(.array .byte), .int], some .byte⟩ := by decide +kernel
theorem own_pn0 : plainName "com/example/lease/lease/model/AddTokenOfPinLaw" = true := by first | (simp [plainName, overriddenIn]; done) | decide +kernel
theorem own_pn1 : plainName "java/util/Objects" = true := by first | (simp [plainName, overriddenIn]; done) | decide +kernel
theorem own_pn2 : plainName "com/example/lease/lease/model/AddToken" = true := by first | (simp [plainName, overriddenIn]; done) | decide +kernel
theorem own_pn3 : plainName "java/lang/String" = true := by first | (simp [plainName, overriddenIn]; done) | decide +kernel
theorem own_pn4 : plainName "java/lang/StringUTF16" = true := by first | (simp [plainName, overriddenIn]; done) | decide +kernel
theorem own_d_method_2_code_0 : decode method_2_code 0 = .ok (.iload_n 0, 1) := by decide +kernel
theorem own_d_method_2_code_1 : decode method_2_code 1 = .ok (.ifCond .ne 14, 3) := by decide +kernel
theorem own_d_method_2_code_4 : decode method_2_code 4 = .ok (.new 7, 3) := by decide +kernel
theorem own_d_method_2_code_7 : decode method_2_code 7 = .ok (.dup, 1) := by decide +kernel
theorem own_d_method_2_code_8 : decode method_2_code 8 = .ok (.iconst 0, 1) := by decide +kernel
theorem own_d_method_2_code_9 : decode method_2_code 9 = .ok (.newarray .char, 2) := by decide +kernel
theorem own_d_method_2_code_11 : decode method_2_code 11 = .ok (.invokespecial 9, 3) := by decide +kernel
theorem own_d_method_2_code_14 : decode method_2_code 14 = .ok (.areturn, 1) := by decide +kernel
theorem own_d_method_2_code_15 : decode method_2_code 15 = .ok (.iload_n 0, 1) := by decide +kernel
theorem own_d_method_2_code_16 : decode method_2_code 16 = .ok (.iconst 1, 1) := by decide +kernel
theorem own_d_method_2_code_17 : decode method_2_code 17 = .ok (.if_icmp .ne 18, 3) := by decide +kernel
theorem own_d_method_2_code_20 : decode method_2_code 20 = .ok (.new 7, 3) := by decide +kernel
theorem own_d_method_2_code_23 : decode method_2_code 23 = .ok (.dup, 1) := by decide +kernel
theorem own_d_method_2_code_24 : decode method_2_code 24 = .ok (.iconst 1, 1) := by decide +kernel
theorem own_d_method_2_code_25 : decode method_2_code 25 = .ok (.newarray .char, 2) := by decide +kernel
theorem own_d_method_2_code_27 : decode method_2_code 27 = .ok (.dup, 1) := by decide +kernel
theorem own_d_method_2_code_28 : decode method_2_code 28 = .ok (.iconst 0, 1) := by decide +kernel
theorem own_d_method_2_code_29 : decode method_2_code 29 = .ok (.iload_n 1, 1) := by decide +kernel
theorem own_d_method_2_code_30 : decode method_2_code 30 = .ok (.castore, 1) := by decide +kernel
theorem own_d_method_2_code_31 : decode method_2_code 31 = .ok (.invokespecial 9, 3) := by decide +kernel
theorem own_d_method_2_code_34 : decode method_2_code 34 = .ok (.areturn, 1) := by decide +kernel
theorem own_d_method_2_code_35 : decode method_2_code 35 = .ok (.iload_n 0, 1) := by decide +kernel
theorem own_d_method_2_code_36 : decode method_2_code 36 = .ok (.iconst 2, 1) := by decide +kernel
theorem own_d_method_2_code_37 : decode method_2_code 37 = .ok (.if_icmp .ne 22, 3) := by decide +kernel
theorem own_d_method_2_code_40 : decode method_2_code 40 = .ok (.new 7, 3) := by decide +kernel
theorem own_d_method_2_code_43 : decode method_2_code 43 = .ok (.dup, 1) := by decide +kernel
theorem own_d_method_2_code_44 : decode method_2_code 44 = .ok (.iconst 2, 1) := by decide +kernel
theorem own_d_method_2_code_45 : decode method_2_code 45 = .ok (.newarray .char, 2) := by decide +kernel
theorem own_d_method_2_code_47 : decode method_2_code 47 = .ok (.dup, 1) := by decide +kernel
theorem own_d_method_2_code_48 : decode method_2_code 48 = .ok (.iconst 0, 1) := by decide +kernel
theorem own_d_method_2_code_49 : decode method_2_code 49 = .ok (.iload_n 1, 1) := by decide +kernel
theorem own_d_method_2_code_50 : decode method_2_code 50 = .ok (.castore, 1) := by decide +kernel
theorem own_d_method_2_code_51 : decode method_2_code 51 = .ok (.dup, 1) := by decide +kernel
theorem own_d_method_2_code_52 : decode method_2_code 52 = .ok (.iconst 1, 1) := by decide +kernel
theorem own_d_method_2_code_53 : decode method_2_code 53 = .ok (.iload_n 2, 1) := by decide +kernel
theorem own_d_method_2_code_54 : decode method_2_code 54 = .ok (.castore, 1) := by decide +kernel
theorem own_d_method_2_code_55 : decode method_2_code 55 = .ok (.invokespecial 9, 3) := by decide +kernel
theorem own_d_method_2_code_58 : decode method_2_code 58 = .ok (.areturn, 1) := by decide +kernel
theorem own_d_method_2_code_59 : decode method_2_code 59 = .ok (.iload_n 0, 1) := by decide +kernel
theorem own_d_method_2_code_60 : decode method_2_code 60 = .ok (.iconst 3, 1) := by decide +kernel
theorem own_d_method_2_code_61 : decode method_2_code 61 = .ok (.if_icmp .ne 26, 3) := by decide +kernel
theorem own_d_method_2_code_64 : decode method_2_code 64 = .ok (.new 7, 3) := by decide +kernel
theorem own_d_method_2_code_67 : decode method_2_code 67 = .ok (.dup, 1) := by decide +kernel
theorem own_d_method_2_code_68 : decode method_2_code 68 = .ok (.iconst 3, 1) := by decide +kernel
theorem own_d_method_2_code_69 : decode method_2_code 69 = .ok (.newarray .char, 2) := by decide +kernel
theorem own_d_method_2_code_71 : decode method_2_code 71 = .ok (.dup, 1) := by decide +kernel
theorem own_d_method_2_code_72 : decode method_2_code 72 = .ok (.iconst 0, 1) := by decide +kernel
theorem own_d_method_2_code_73 : decode method_2_code 73 = .ok (.iload_n 1, 1) := by decide +kernel
theorem own_d_method_2_code_74 : decode method_2_code 74 = .ok (.castore, 1) := by decide +kernel
theorem own_d_method_2_code_75 : decode method_2_code 75 = .ok (.dup, 1) := by decide +kernel
theorem own_d_method_2_code_76 : decode method_2_code 76 = .ok (.iconst 1, 1) := by decide +kernel
theorem own_d_method_2_code_77 : decode method_2_code 77 = .ok (.iload_n 2, 1) := by decide +kernel
theorem own_d_method_2_code_78 : decode method_2_code 78 = .ok (.castore, 1) := by decide +kernel
theorem own_d_method_2_code_79 : decode method_2_code 79 = .ok (.dup, 1) := by decide +kernel
theorem own_d_method_2_code_80 : decode method_2_code 80 = .ok (.iconst 2, 1) := by decide +kernel
theorem own_d_method_2_code_81 : decode method_2_code 81 = .ok (.iload_n 3, 1) := by decide +kernel
theorem own_d_method_2_code_82 : decode method_2_code 82 = .ok (.castore, 1) := by decide +kernel
theorem own_d_method_2_code_83 : decode method_2_code 83 = .ok (.invokespecial 9, 3) := by decide +kernel
theorem own_d_method_2_code_86 : decode method_2_code 86 = .ok (.areturn, 1) := by decide +kernel
theorem own_d_method_2_code_87 : decode method_2_code 87 = .ok (.new 7, 3) := by decide +kernel
theorem own_d_method_2_code_90 : decode method_2_code 90 = .ok (.dup, 1) := by decide +kernel
theorem own_d_method_2_code_91 : decode method_2_code 91 = .ok (.iconst 4, 1) := by decide +kernel
theorem own_d_method_2_code_92 : decode method_2_code 92 = .ok (.newarray .char, 2) := by decide +kernel
theorem own_d_method_2_code_94 : decode method_2_code 94 = .ok (.dup, 1) := by decide +kernel
theorem own_d_method_2_code_95 : decode method_2_code 95 = .ok (.iconst 0, 1) := by decide +kernel
theorem own_d_method_2_code_96 : decode method_2_code 96 = .ok (.iload_n 1, 1) := by decide +kernel
theorem own_d_method_2_code_97 : decode method_2_code 97 = .ok (.castore, 1) := by decide +kernel
theorem own_d_method_2_code_98 : decode method_2_code 98 = .ok (.dup, 1) := by decide +kernel
theorem own_d_method_2_code_99 : decode method_2_code 99 = .ok (.iconst 1, 1) := by decide +kernel
theorem own_d_method_2_code_100 : decode method_2_code 100 = .ok (.iload_n 2, 1) := by decide +kernel
theorem own_d_method_2_code_101 : decode method_2_code 101 = .ok (.castore, 1) := by decide +kernel
theorem own_d_method_2_code_102 : decode method_2_code 102 = .ok (.dup, 1) := by decide +kernel
theorem own_d_method_2_code_103 : decode method_2_code 103 = .ok (.iconst 2, 1) := by decide +kernel
theorem own_d_method_2_code_104 : decode method_2_code 104 = .ok (.iload_n 3, 1) := by decide +kernel
theorem own_d_method_2_code_105 : decode method_2_code 105 = .ok (.castore, 1) := by decide +kernel
theorem own_d_method_2_code_106 : decode method_2_code 106 = .ok (.dup, 1) := by decide +kernel
theorem own_d_method_2_code_107 : decode method_2_code 107 = .ok (.iconst 3, 1) := by decide +kernel
theorem own_d_method_2_code_108 : decode method_2_code 108 = .ok (.iload 4, 2) := by decide +kernel
theorem own_d_method_2_code_110 : decode method_2_code 110 = .ok (.castore, 1) := by decide +kernel
theorem own_d_method_2_code_111 : decode method_2_code 111 = .ok (.invokespecial 9, 3) := by decide +kernel
theorem own_d_method_2_code_114 : decode method_2_code 114 = .ok (.areturn, 1) := by decide +kernel
theorem own_d_jdk_31_method_11_code_0 : decode jdk_31_method_11_code 0 = .ok (.aload_n 0, 1) := by decide +kernel
theorem own_d_jdk_31_method_11_code_1 : decode jdk_31_method_11_code 1 = .ok (.ifnonnull 12, 3) := by decide +kernel
theorem own_d_jdk_31_method_11_code_13 : decode jdk_31_method_11_code 13 = .ok (.aload_n 0, 1) := by decide +kernel
theorem own_d_jdk_31_method_11_code_14 : decode jdk_31_method_11_code 14 = .ok (.areturn, 1) := by decide +kernel
theorem own_d_prog_4_method_1_code_0 : decode prog_4_method_1_code 0 = .ok (.aload_n 0, 1) := by decide +kernel
theorem own_d_prog_4_method_1_code_1 : decode prog_4_method_1_code 1 = .ok (.invokespecial 1, 3) := by decide +kernel
theorem own_d_prog_4_method_1_code_4 : decode prog_4_method_1_code 4 = .ok (.aload_n 0, 1) := by decide +kernel
theorem own_d_prog_4_method_1_code_5 : decode prog_4_method_1_code 5 = .ok (.aload_n 1, 1) := by decide +kernel
theorem own_d_prog_4_method_1_code_6 : decode prog_4_method_1_code 6 = .ok (.ldc 7, 2) := by decide +kernel
theorem own_d_prog_4_method_1_code_8 : decode prog_4_method_1_code 8 = .ok (.invokestatic 9, 3) := by decide +kernel
theorem own_d_prog_4_method_1_code_11 : decode prog_4_method_1_code 11 = .ok (.checkcast 15, 3) := by decide +kernel
theorem own_d_prog_4_method_1_code_14 : decode prog_4_method_1_code 14 = .ok (.putfield 17, 3) := by decide +kernel
theorem own_d_prog_4_method_1_code_17 : decode prog_4_method_1_code 17 = .ok (.aload_n 0, 1) := by decide +kernel
theorem own_d_prog_4_method_1_code_18 : decode prog_4_method_1_code 18 = .ok (.lload_n 2, 1) := by decide +kernel
theorem own_d_prog_4_method_1_code_19 : decode prog_4_method_1_code 19 = .ok (.putfield 22, 3) := by decide +kernel
theorem own_d_prog_4_method_1_code_22 : decode prog_4_method_1_code 22 = .ok (.return_, 1) := by decide +kernel
theorem own_d_prog_4_method_2_code_0 : decode prog_4_method_2_code 0 = .ok (.new 18, 3) := by decide +kernel
theorem own_d_prog_4_method_2_code_3 : decode prog_4_method_2_code 3 = .ok (.dup, 1) := by decide +kernel
theorem own_d_prog_4_method_2_code_4 : decode prog_4_method_2_code 4 = .ok (.aload_n 0, 1) := by decide +kernel
theorem own_d_prog_4_method_2_code_5 : decode prog_4_method_2_code 5 = .ok (.ldc2_w 26, 3) := by decide +kernel
theorem own_d_prog_4_method_2_code_8 : decode prog_4_method_2_code 8 = .ok (.invokespecial 28, 3) := by decide +kernel
theorem own_d_prog_4_method_2_code_11 : decode prog_4_method_2_code 11 = .ok (.areturn, 1) := by decide +kernel
theorem own_d_prog_4_method_4_code_0 : decode prog_4_method_4_code 0 = .ok (.aload_n 0, 1) := by decide +kernel
theorem own_d_prog_4_method_4_code_1 : decode prog_4_method_4_code 1 = .ok (.getfield 17, 3) := by decide +kernel
theorem own_d_prog_4_method_4_code_4 : decode prog_4_method_4_code 4 = .ok (.areturn, 1) := by decide +kernel
theorem own_d_prog_4_method_5_code_0 : decode prog_4_method_5_code 0 = .ok (.aload_n 0, 1) := by decide +kernel
theorem own_d_prog_4_method_5_code_1 : decode prog_4_method_5_code 1 = .ok (.getfield 22, 3) := by decide +kernel
theorem own_d_prog_4_method_5_code_4 : decode prog_4_method_5_code 4 = .ok (.lreturn, 1) := by decide +kernel
theorem own_d_jdk_42_method_149_code_0 : decode jdk_42_method_149_code 0 = .ok (.aload_n 0, 1) := by decide +kernel
theorem own_d_jdk_42_method_149_code_1 : decode jdk_42_method_149_code 1 = .ok (.invokespecial 1, 3) := by decide +kernel
theorem own_d_jdk_42_method_149_code_4 : decode jdk_42_method_149_code 4 = .ok (.iload_n 3, 1) := by decide +kernel
theorem own_d_jdk_42_method_149_code_5 : decode jdk_42_method_149_code 5 = .ok (.ifCond .ne 22, 3) := by decide +kernel
theorem own_d_jdk_42_method_149_code_8 : decode jdk_42_method_149_code 8 = .ok (.aload_n 0, 1) := by decide +kernel
theorem own_d_jdk_42_method_149_code_9 : decode jdk_42_method_149_code 9 = .ok (.ldc 7, 2) := by decide +kernel
theorem own_d_jdk_42_method_149_code_11 : decode jdk_42_method_149_code 11 = .ok (.getfield 9, 3) := by decide +kernel
theorem own_d_jdk_42_method_149_code_14 : decode jdk_42_method_149_code 14 = .ok (.putfield 9, 3) := by decide +kernel
theorem own_d_jdk_42_method_149_code_17 : decode jdk_42_method_149_code 17 = .ok (.aload_n 0, 1) := by decide +kernel
theorem own_d_jdk_42_method_149_code_18 : decode jdk_42_method_149_code 18 = .ok (.ldc 7, 2) := by decide +kernel
theorem own_d_jdk_42_method_149_code_20 : decode jdk_42_method_149_code 20 = .ok (.getfield 15, 3) := by decide +kernel
theorem own_d_jdk_42_method_149_code_23 : decode jdk_42_method_149_code 23 = .ok (.putfield 15, 3) := by decide +kernel
theorem own_d_jdk_42_method_149_code_26 : decode jdk_42_method_149_code 26 = .ok (.return_, 1) := by decide +kernel
theorem own_d_jdk_42_method_3_code_0 : decode jdk_42_method_3_code 0 = .ok (.aload_n 0, 1) := by decide +kernel
theorem own_d_jdk_42_method_3_code_1 : decode jdk_42_method_3_code 1 = .ok (.aload_n 1, 1) := by decide +kernel
theorem own_d_jdk_42_method_3_code_2 : decode jdk_42_method_3_code 2 = .ok (.iconst 0, 1) := by decide +kernel
theorem own_d_jdk_42_method_3_code_3 : decode jdk_42_method_3_code 3 = .ok (.aload_n 1, 1) := by decide +kernel
theorem own_d_jdk_42_method_3_code_4 : decode jdk_42_method_3_code 4 = .ok (.arraylength, 1) := by decide +kernel
theorem own_d_jdk_42_method_3_code_5 : decode jdk_42_method_3_code 5 = .ok (.aconst_null, 1) := by decide +kernel
theorem own_d_jdk_42_method_3_code_6 : decode jdk_42_method_3_code 6 = .ok (.invokespecial 27, 3) := by decide +kernel
theorem own_d_jdk_42_method_3_code_9 : decode jdk_42_method_3_code 9 = .ok (.return_, 1) := by decide +kernel
theorem own_d_jdk_52_method_4_code_0 : decode jdk_52_method_4_code 0 = .ok (.getstatic 44, 3) := by decide +kernel
theorem own_d_jdk_52_method_4_code_3 : decode jdk_52_method_4_code 3 = .ok (.ifCond .ne 25, 3) := by decide +kernel
theorem own_d_jdk_52_method_4_code_28 : decode jdk_52_method_4_code 28 = .ok (.iload_n 1, 1) := by decide +kernel
theorem own_d_jdk_52_method_4_code_29 : decode jdk_52_method_4_code 29 = .ok (.iconst 1, 1) := by decide +kernel
theorem own_d_jdk_52_method_4_code_30 : decode jdk_52_method_4_code 30 = .ok (.ishl, 1) := by decide +kernel
theorem own_d_jdk_52_method_4_code_31 : decode jdk_52_method_4_code 31 = .ok (.istore_n 1, 1) := by decide +kernel
theorem own_d_jdk_52_method_4_code_32 : decode jdk_52_method_4_code 32 = .ok (.aload_n 0, 1) := by decide +kernel
theorem own_d_jdk_52_method_4_code_33 : decode jdk_52_method_4_code 33 = .ok (.iload_n 1, 1) := by decide +kernel
theorem own_d_jdk_52_method_4_code_34 : decode jdk_52_method_4_code 34 = .ok (.iinc 1 1, 3) := by decide +kernel
theorem own_d_jdk_52_method_4_code_37 : decode jdk_52_method_4_code 37 = .ok (.iload_n 2, 1) := by decide +kernel
theorem own_d_jdk_52_method_4_code_38 : decode jdk_52_method_4_code 38 = .ok (.getstatic 59, 3) := by decide +kernel
theorem own_d_jdk_52_method_4_code_41 : decode jdk_52_method_4_code 41 = .ok (.ishr, 1) := by decide +kernel
theorem own_d_jdk_52_method_4_code_42 : decode jdk_52_method_4_code 42 = .ok (.i2b, 1) := by decide +kernel
theorem own_d_jdk_52_method_4_code_43 : decode jdk_52_method_4_code 43 = .ok (.bastore, 1) := by decide +kernel
theorem own_d_jdk_52_method_4_code_44 : decode jdk_52_method_4_code 44 = .ok (.aload_n 0, 1) := by decide +kernel
theorem own_d_jdk_52_method_4_code_45 : decode jdk_52_method_4_code 45 = .ok (.iload_n 1, 1) := by decide +kernel
theorem own_d_jdk_52_method_4_code_46 : decode jdk_52_method_4_code 46 = .ok (.iload_n 2, 1) := by decide +kernel
theorem own_d_jdk_52_method_4_code_47 : decode jdk_52_method_4_code 47 = .ok (.getstatic 63, 3) := by decide +kernel
theorem own_d_jdk_52_method_4_code_50 : decode jdk_52_method_4_code 50 = .ok (.ishr, 1) := by decide +kernel
theorem own_d_jdk_52_method_4_code_51 : decode jdk_52_method_4_code 51 = .ok (.i2b, 1) := by decide +kernel
theorem own_d_jdk_52_method_4_code_52 : decode jdk_52_method_4_code 52 = .ok (.bastore, 1) := by decide +kernel
theorem own_d_jdk_52_method_4_code_53 : decode jdk_52_method_4_code 53 = .ok (.return_, 1) := by decide +kernel
theorem own_d_jdk_52_method_5_code_0 : decode jdk_52_method_5_code 0 = .ok (.getstatic 44, 3) := by decide +kernel
theorem own_d_jdk_52_method_5_code_3 : decode jdk_52_method_5_code 3 = .ok (.ifCond .ne 25, 3) := by decide +kernel
theorem own_d_jdk_52_method_5_code_28 : decode jdk_52_method_5_code 28 = .ok (.iload_n 1, 1) := by decide +kernel
theorem own_d_jdk_52_method_5_code_29 : decode jdk_52_method_5_code 29 = .ok (.iconst 1, 1) := by decide +kernel
theorem own_d_jdk_52_method_5_code_30 : decode jdk_52_method_5_code 30 = .ok (.ishl, 1) := by decide +kernel
theorem own_d_jdk_52_method_5_code_31 : decode jdk_52_method_5_code 31 = .ok (.istore_n 1, 1) := by decide +kernel
theorem own_d_jdk_52_method_5_code_32 : decode jdk_52_method_5_code 32 = .ok (.aload_n 0, 1) := by decide +kernel
theorem own_d_jdk_52_method_5_code_33 : decode jdk_52_method_5_code 33 = .ok (.iload_n 1, 1) := by decide +kernel
theorem own_d_jdk_52_method_5_code_34 : decode jdk_52_method_5_code 34 = .ok (.iinc 1 1, 3) := by decide +kernel
theorem own_d_jdk_52_method_5_code_37 : decode jdk_52_method_5_code 37 = .ok (.baload, 1) := by decide +kernel
theorem own_d_jdk_52_method_5_code_38 : decode jdk_52_method_5_code 38 = .ok (.sipush 255, 3) := by decide +kernel
theorem own_d_jdk_52_method_5_code_41 : decode jdk_52_method_5_code 41 = .ok (.iand, 1) := by decide +kernel
theorem own_d_jdk_52_method_5_code_42 : decode jdk_52_method_5_code 42 = .ok (.getstatic 59, 3) := by decide +kernel
theorem own_d_jdk_52_method_5_code_45 : decode jdk_52_method_5_code 45 = .ok (.ishl, 1) := by decide +kernel
theorem own_d_jdk_52_method_5_code_46 : decode jdk_52_method_5_code 46 = .ok (.aload_n 0, 1) := by decide +kernel
theorem own_d_jdk_52_method_5_code_47 : decode jdk_52_method_5_code 47 = .ok (.iload_n 1, 1) := by decide +kernel
theorem own_d_jdk_52_method_5_code_48 : decode jdk_52_method_5_code 48 = .ok (.baload, 1) := by decide +kernel
theorem own_d_jdk_52_method_5_code_49 : decode jdk_52_method_5_code 49 = .ok (.sipush 255, 3) := by decide +kernel
theorem own_d_jdk_52_method_5_code_52 : decode jdk_52_method_5_code 52 = .ok (.iand, 1) := by decide +kernel
theorem own_d_jdk_52_method_5_code_53 : decode jdk_52_method_5_code 53 = .ok (.getstatic 63, 3) := by decide +kernel
theorem own_d_jdk_52_method_5_code_56 : decode jdk_52_method_5_code 56 = .ok (.ishl, 1) := by decide +kernel
theorem own_d_jdk_52_method_5_code_57 : decode jdk_52_method_5_code 57 = .ok (.ior, 1) := by decide +kernel
theorem own_d_jdk_52_method_5_code_58 : decode jdk_52_method_5_code 58 = .ok (.i2c, 1) := by decide +kernel
theorem own_d_jdk_52_method_5_code_59 : decode jdk_52_method_5_code 59 = .ok (.ireturn, 1) := by decide +kernel
theorem own_d_jdk_52_method_3_code_0 : decode jdk_52_method_3_code 0 = .ok (.iload_n 0, 1) := by decide +kernel
theorem own_d_jdk_52_method_3_code_1 : decode jdk_52_method_3_code 1 = .ok (.ifCond .ge 11, 3) := by decide +kernel
theorem own_d_jdk_52_method_3_code_12 : decode jdk_52_method_3_code 12 = .ok (.iload_n 0, 1) := by decide +kernel
theorem own_d_jdk_52_method_3_code_13 : decode jdk_52_method_3_code 13 = .ok (.ldc 20, 2) := by decide +kernel
theorem own_d_jdk_52_method_3_code_15 : decode jdk_52_method_3_code 15 = .ok (.if_icmp .lt 40, 3) := by decide +kernel
theorem own_d_jdk_52_method_3_code_55 : decode jdk_52_method_3_code 55 = .ok (.iload_n 0, 1) := by decide +kernel
theorem own_d_jdk_52_method_3_code_56 : decode jdk_52_method_3_code 56 = .ok (.iconst 1, 1) := by decide +kernel
theorem own_d_jdk_52_method_3_code_57 : decode jdk_52_method_3_code 57 = .ok (.ishl, 1) := by decide +kernel
theorem own_d_jdk_52_method_3_code_58 : decode jdk_52_method_3_code 58 = .ok (.ireturn, 1) := by decide +kernel
theorem own_d_jdk_52_method_2_code_0 : decode jdk_52_method_2_code 0 = .ok (.iload_n 0, 1) := by decide +kernel
theorem own_d_jdk_52_method_2_code_1 : decode jdk_52_method_2_code 1 = .ok (.invokestatic 11, 3) := by decide +kernel
theorem own_d_jdk_52_method_2_code_4 : decode jdk_52_method_2_code 4 = .ok (.newarray .byte, 2) := by decide +kernel
theorem own_d_jdk_52_method_2_code_6 : decode jdk_52_method_2_code 6 = .ok (.areturn, 1) := by decide +kernel
theorem own_d_jdk_52_method_14_code_0 : decode jdk_52_method_14_code 0 = .ok (.iload_n 2, 1) := by decide +kernel
theorem own_d_jdk_52_method_14_code_1 : decode jdk_52_method_14_code 1 = .ok (.invokestatic 107, 3) := by decide +kernel
theorem own_d_jdk_52_method_14_code_4 : decode jdk_52_method_14_code 4 = .ok (.astore_n 3, 1) := by decide +kernel
theorem own_d_jdk_52_method_14_code_5 : decode jdk_52_method_14_code 5 = .ok (.iconst 0, 1) := by decide +kernel
theorem own_d_jdk_52_method_14_code_6 : decode jdk_52_method_14_code 6 = .ok (.istore 4, 2) := by decide +kernel
theorem own_d_jdk_52_method_14_code_8 : decode jdk_52_method_14_code 8 = .ok (.iload 4, 2) := by decide +kernel
theorem own_d_jdk_52_method_14_code_10 : decode jdk_52_method_14_code 10 = .ok (.iload_n 2, 1) := by decide +kernel
theorem own_d_jdk_52_method_14_code_11 : decode jdk_52_method_14_code 11 = .ok (.if_icmp .ge 21, 3) := by decide +kernel
theorem own_d_jdk_52_method_14_code_14 : decode jdk_52_method_14_code 14 = .ok (.aload_n 3, 1) := by decide +kernel
theorem own_d_jdk_52_method_14_code_15 : decode jdk_52_method_14_code 15 = .ok (.iload 4, 2) := by decide +kernel
theorem own_d_jdk_52_method_14_code_17 : decode jdk_52_method_14_code 17 = .ok (.aload_n 0, 1) := by decide +kernel
theorem own_d_jdk_52_method_14_code_18 : decode jdk_52_method_14_code 18 = .ok (.iload_n 1, 1) := by decide +kernel
theorem own_d_jdk_52_method_14_code_19 : decode jdk_52_method_14_code 19 = .ok (.caload, 1) := by decide +kernel
theorem own_d_jdk_52_method_14_code_20 : decode jdk_52_method_14_code 20 = .ok (.invokestatic 111, 3) := by decide +kernel
theorem own_d_jdk_52_method_14_code_23 : decode jdk_52_method_14_code 23 = .ok (.iinc 1 1, 3) := by decide +kernel
theorem own_d_jdk_52_method_14_code_26 : decode jdk_52_method_14_code 26 = .ok (.iinc 4 1, 3) := by decide +kernel
theorem own_d_jdk_52_method_14_code_29 : decode jdk_52_method_14_code 29 = .ok (.goto (-21), 3) := by decide +kernel
theorem own_d_jdk_52_method_14_code_32 : decode jdk_52_method_14_code 32 = .ok (.aload_n 3, 1) := by decide +kernel
theorem own_d_jdk_52_method_14_code_33 : decode jdk_52_method_14_code 33 = .ok (.areturn, 1) := by decide +kernel
theorem own_d_jdk_52_method_21_code_0 : decode jdk_52_method_21_code 0 = .ok (.iconst 0, 1) := by decide +kernel
theorem own_d_jdk_52_method_21_code_1 : decode jdk_52_method_21_code 1 = .ok (.istore 5, 2) := by decide +kernel
theorem own_d_jdk_52_method_21_code_3 : decode jdk_52_method_21_code 3 = .ok (.iload 5, 2) := by decide +kernel
theorem own_d_jdk_52_method_21_code_5 : decode jdk_52_method_21_code 5 = .ok (.iload 4, 2) := by decide +kernel
theorem own_d_jdk_52_method_21_code_7 : decode jdk_52_method_21_code 7 = .ok (.if_icmp .ge 37, 3) := by decide +kernel
theorem own_d_jdk_52_method_21_code_10 : decode jdk_52_method_21_code 10 = .ok (.aload_n 0, 1) := by decide +kernel
theorem own_d_jdk_52_method_21_code_11 : decode jdk_52_method_21_code 11 = .ok (.iload_n 1, 1) := by decide +kernel
theorem own_d_jdk_52_method_21_code_12 : decode jdk_52_method_21_code 12 = .ok (.caload, 1) := by decide +kernel
theorem own_d_jdk_52_method_21_code_13 : decode jdk_52_method_21_code 13 = .ok (.istore 6, 2) := by decide +kernel
theorem own_d_jdk_52_method_21_code_15 : decode jdk_52_method_21_code 15 = .ok (.iload 6, 2) := by decide +kernel
theorem own_d_jdk_52_method_21_code_17 : decode jdk_52_method_21_code 17 = .ok (.sipush 255, 3) := by decide +kernel
theorem own_d_jdk_52_method_21_code_20 : decode jdk_52_method_21_code 20 = .ok (.if_icmp .le 6, 3) := by decide +kernel
theorem own_d_jdk_52_method_21_code_23 : decode jdk_52_method_21_code 23 = .ok (.iload 5, 2) := by decide +kernel
theorem own_d_jdk_52_method_21_code_25 : decode jdk_52_method_21_code 25 = .ok (.ireturn, 1) := by decide +kernel
theorem own_d_jdk_52_method_21_code_26 : decode jdk_52_method_21_code 26 = .ok (.aload_n 2, 1) := by decide +kernel
theorem own_d_jdk_52_method_21_code_27 : decode jdk_52_method_21_code 27 = .ok (.iload_n 3, 1) := by decide +kernel
theorem own_d_jdk_52_method_21_code_28 : decode jdk_52_method_21_code 28 = .ok (.iload 6, 2) := by decide +kernel
theorem own_d_jdk_52_method_21_code_30 : decode jdk_52_method_21_code 30 = .ok (.i2b, 1) := by decide +kernel
theorem own_d_jdk_52_method_21_code_31 : decode jdk_52_method_21_code 31 = .ok (.bastore, 1) := by decide +kernel
theorem own_d_jdk_52_method_21_code_32 : decode jdk_52_method_21_code 32 = .ok (.iinc 1 1, 3) := by decide +kernel
theorem own_d_jdk_52_method_21_code_35 : decode jdk_52_method_21_code 35 = .ok (.iinc 3 1, 3) := by decide +kernel
theorem own_d_jdk_52_method_21_code_38 : decode jdk_52_method_21_code 38 = .ok (.iinc 5 1, 3) := by decide +kernel
theorem own_d_jdk_52_method_21_code_41 : decode jdk_52_method_21_code 41 = .ok (.goto (-38), 3) := by decide +kernel
theorem own_d_jdk_52_method_16_code_0 : decode jdk_52_method_16_code 0 = .ok (.iload_n 2, 1) := by decide +kernel
theorem own_d_jdk_52_method_16_code_1 : decode jdk_52_method_16_code 1 = .ok (.newarray .byte, 2) := by decide +kernel
theorem own_d_jdk_52_method_16_code_3 : decode jdk_52_method_16_code 3 = .ok (.astore_n 3, 1) := by decide +kernel
theorem own_d_jdk_52_method_16_code_4 : decode jdk_52_method_16_code 4 = .ok (.aload_n 0, 1) := by decide +kernel
theorem own_d_jdk_52_method_16_code_5 : decode jdk_52_method_16_code 5 = .ok (.iload_n 1, 1) := by decide +kernel
theorem own_d_jdk_52_method_16_code_6 : decode jdk_52_method_16_code 6 = .ok (.aload_n 3, 1) := by decide +kernel
theorem own_d_jdk_52_method_16_code_7 : decode jdk_52_method_16_code 7 = .ok (.iconst 0, 1) := by decide +kernel
theorem own_d_jdk_52_method_16_code_8 : decode jdk_52_method_16_code 8 = .ok (.iload_n 2, 1) := by decide +kernel
theorem own_d_jdk_52_method_16_code_9 : decode jdk_52_method_16_code 9 = .ok (.invokestatic 115, 3) := by decide +kernel
theorem own_d_jdk_52_method_16_code_12 : decode jdk_52_method_16_code 12 = .ok (.istore 4, 2) := by decide +kernel
theorem own_d_jdk_52_method_16_code_14 : decode jdk_52_method_16_code 14 = .ok (.iload 4, 2) := by decide +kernel
theorem own_d_jdk_52_method_16_code_16 : decode jdk_52_method_16_code 16 = .ok (.iload_n 2, 1) := by decide +kernel
theorem own_d_jdk_52_method_16_code_17 : decode jdk_52_method_16_code 17 = .ok (.if_icmp .eq 40, 3) := by decide +kernel
theorem own_d_jdk_52_method_16_code_20 : decode jdk_52_method_16_code 20 = .ok (.aload_n 0, 1) := by decide +kernel
theorem own_d_jdk_52_method_16_code_21 : decode jdk_52_method_16_code 21 = .ok (.iload_n 1, 1) := by decide +kernel
theorem own_d_jdk_52_method_16_code_22 : decode jdk_52_method_16_code 22 = .ok (.iload_n 2, 1) := by decide +kernel
theorem own_d_jdk_52_method_16_code_23 : decode jdk_52_method_16_code 23 = .ok (.invokestatic 119, 3) := by decide +kernel
theorem own_d_jdk_52_method_16_code_26 : decode jdk_52_method_16_code 26 = .ok (.astore 5, 2) := by decide +kernel
theorem own_d_jdk_52_method_16_code_28 : decode jdk_52_method_16_code 28 = .ok (.aload 5, 2) := by decide +kernel
theorem own_d_jdk_52_method_16_code_30 : decode jdk_52_method_16_code 30 = .ok (.iload 4, 2) := by decide +kernel
theorem own_d_jdk_52_method_16_code_32 : decode jdk_52_method_16_code 32 = .ok (.invokestatic 71, 3) := by decide +kernel
theorem own_d_jdk_52_method_16_code_35 : decode jdk_52_method_16_code 35 = .ok (.sipush 255, 3) := by decide +kernel
theorem own_d_jdk_52_method_16_code_38 : decode jdk_52_method_16_code 38 = .ok (.if_icmp .gt 16, 3) := by decide +kernel
theorem own_d_jdk_52_method_16_code_54 : decode jdk_52_method_16_code 54 = .ok (.aload 5, 2) := by decide +kernel
theorem own_d_jdk_52_method_16_code_56 : decode jdk_52_method_16_code 56 = .ok (.areturn, 1) := by decide +kernel
theorem own_d_jdk_52_method_15_code_0 : decode jdk_52_method_15_code 0 = .ok (.iload_n 1, 1) := by decide +kernel
theorem own_d_jdk_52_method_15_code_1 : decode jdk_52_method_15_code 1 = .ok (.aload_n 0, 1) := by decide +kernel
theorem own_d_jdk_52_method_15_code_2 : decode jdk_52_method_15_code 2 = .ok (.arraylength, 1) := by decide +kernel
theorem own_d_jdk_52_method_15_code_3 : decode jdk_52_method_15_code 3 = .ok (.isub, 1) := by decide +kernel
theorem own_d_jdk_52_method_15_code_4 : decode jdk_52_method_15_code 4 = .ok (.bipush 31, 2) := by decide +kernel
theorem own_d_jdk_52_method_15_code_6 : decode jdk_52_method_15_code 6 = .ok (.iushr, 1) := by decide +kernel
theorem own_d_jdk_52_method_15_code_7 : decode jdk_52_method_15_code 7 = .ok (.i2b, 1) := by decide +kernel
theorem own_d_jdk_52_method_15_code_8 : decode jdk_52_method_15_code 8 = .ok (.ireturn, 1) := by decide +kernel
theorem own_d_jdk_42_method_149_code_27 : decode jdk_42_method_149_code 27 = .ok (.getstatic 38, 3) := by decide +kernel
theorem own_d_jdk_42_method_149_code_30 : decode jdk_42_method_149_code 30 = .ok (.ifCond .eq 28, 3) := by decide +kernel
theorem own_d_jdk_42_method_149_code_33 : decode jdk_42_method_149_code 33 = .ok (.aload_n 1, 1) := by decide +kernel
theorem own_d_jdk_42_method_149_code_34 : decode jdk_42_method_149_code 34 = .ok (.iload_n 2, 1) := by decide +kernel
theorem own_d_jdk_42_method_149_code_35 : decode jdk_42_method_149_code 35 = .ok (.iload_n 3, 1) := by decide +kernel
theorem own_d_jdk_42_method_149_code_36 : decode jdk_42_method_149_code 36 = .ok (.invokestatic 177, 3) := by decide +kernel
theorem own_d_jdk_42_method_149_code_39 : decode jdk_42_method_149_code 39 = .ok (.astore 5, 2) := by decide +kernel
theorem own_d_jdk_42_method_149_code_41 : decode jdk_42_method_149_code 41 = .ok (.aload_n 0, 1) := by decide +kernel
theorem own_d_jdk_42_method_149_code_42 : decode jdk_42_method_149_code 42 = .ok (.aload 5, 2) := by decide +kernel
theorem own_d_jdk_42_method_149_code_44 : decode jdk_42_method_149_code 44 = .ok (.iload_n 3, 1) := by decide +kernel
theorem own_d_jdk_42_method_149_code_45 : decode jdk_42_method_149_code 45 = .ok (.invokestatic 47, 3) := by decide +kernel
theorem own_d_jdk_42_method_149_code_48 : decode jdk_42_method_149_code 48 = .ok (.putfield 15, 3) := by decide +kernel
theorem own_d_jdk_42_method_149_code_51 : decode jdk_42_method_149_code 51 = .ok (.aload_n 0, 1) := by decide +kernel
theorem own_d_jdk_42_method_149_code_52 : decode jdk_42_method_149_code 52 = .ok (.aload 5, 2) := by decide +kernel
theorem own_d_jdk_42_method_149_code_54 : decode jdk_42_method_149_code 54 = .ok (.putfield 9, 3) := by decide +kernel
theorem own_d_jdk_42_method_149_code_57 : decode jdk_42_method_149_code 57 = .ok (.return_, 1) := by decide +kernel
theorem own_hEL {Z : State} {a0 : Array Value} (hw : ∀ d ∈ tables_1, d.before a0 Z = true) : EW Z a0 consts_1 := (EW.cons (hw _ (List.mem_of_getElem? (i := 47) rfl)) (by decide) (EW.cons (hw _ (List.mem_of_getElem? (i := 109) rfl)) (by decide) EW.nil))
theorem own_wS {Z : State} {a0 : Array Value} (hw : ∀ d ∈ tables_1, d.before a0 Z = true) : ∀ a ∈ Bundle.stringAtoms, a.before a0 Z = true := fun a ha => hw a ((by decide +kernel : ∀ a ∈ Bundle.stringAtoms, a ∈ tables_1) a ha)

section OwnS
variable {p : Program} {l : Launch} {e : Env} {R : Room} {s : State} {args : Array Value} {below : List Frame} {Z : State} {a0 : Array Value} {h h1 h2 : Heap} {EL : List (String × Nat)} {vm : Vm}
theorem own_ext_refl (h : Heap) : Ext h h := ⟨Nat.le_refl _, fun _ _ q => q⟩
theorem own_ext_trans (E : Ext h h1) (F : Ext h1 h2) : Ext h h2 := ⟨Nat.le_trans E.1 F.1, fun a c q => F.2 a c (E.2 a c q)⟩
theorem own_ext_keep {ws : List Addr} (E : Ext h h1) (K : Keep h1 h2 ws) (q : ∀ x ∈ ws, h.size ≤ x) : Ext h h2 := ⟨Nat.le_trans E.1 K.1, fun a c r => K.2.1 a c (E.2 a c r) fun z => absurd (Array.getElem?_eq_some_iff.mp r).1 (Nat.not_lt.mpr (q a z))⟩
theorem own_ext_wr {a : Addr} {sl : Nat} {v : Value} (E : Ext h h1) (W : Wr h1 h2 a sl v) (q : h.size ≤ a) : Ext h h2 := own_ext_keep E (Keep.of_wr W) (allS q all0)
theorem own_keep_ext (E : Ext h h1) (ws : List Addr) : Keep h h1 ws := (Keep.refl h ws).ext E
/-- the String x says cs -/
def OStr (Z : State) (h : Heap) (x : Addr) (cs : List Int32) : Prop :=
  ∃ (t : Addr) (kb : ClassId) (cd N2 : Int32) (vs : List Value), Exa Z h x "java/lang/String" ∧ Fld Z h x "java/lang/String" "value" "[B" (.ref t) ∧ Fld Z h x "java/lang/String" "coder" "B" (.int cd) ∧ Arv Z h t kb .byte N2 vs (.int 0) ∧
    StrChars.Road.CodA cs cd N2 vs ∧ (∀ c ∈ cs, ¬ c < 0 ∧ ¬ (65535 : Int32) < c) ∧ cs.length ≤ 4000
theorem OStr.ext {x : Addr} {cs : List Int32} (F : OStr Z h x cs) (E : Ext h h1) : OStr Z h1 x cs := by
  obtain ⟨t, kb, cd, N2, vs, a, b, c, d, r⟩ := F
  exact ⟨t, kb, cd, N2, vs, a.ext E, b.ext E, c.ext E, d.ext E, r⟩
theorem OStr.exa {x : Addr} {cs : List Int32} (F : OStr Z h x cs) : Exa Z h x "java/lang/String" := by obtain ⟨t, kb, cd, N2, vs, a, r⟩ := F; exact a
theorem OStr.lt {x : Addr} {cs : List Int32} (F : OStr Z h x cs) : x < h.size := F.exa.lt
/-- a value that is null or a String -/
def OSv (Z : State) (h : Heap) (v : Value) (o : Option (List Int32)) : Prop := (v = .null ∧ o = none) ∨ ∃ x cs, v = .ref x ∧ o = some cs ∧ OStr Z h x cs
theorem OSv.ext {v : Value} {o : Option (List Int32)} (F : OSv Z h v o) (E : Ext h h1) : OSv Z h1 v o := by
  rcases F with q | ⟨x, cs, q1, q2, q3⟩
  · exact Or.inl q
  · exact Or.inr ⟨x, cs, q1, q2, q3.ext E⟩
theorem OSv.isRef {v : Value} {o : Option (List Int32)} (F : OSv Z h v o) : v.isRef = true := by
  rcases F with ⟨rfl, -⟩ | ⟨x, cs, rfl, -⟩ <;> rfl
/-- two that were made one after the other -/
theorem OSv.sep {v w : Value} {o o' : Option (List Int32)} (F : OSv Z h v o) (G : OSv Z h1 w o') (q : ∀ y, w = .ref y → h.size ≤ y) : v = w → o = o' := by
  intro e
  subst e
  rcases F with ⟨rfl, rfl⟩ | ⟨x, cs, rfl, rfl, F⟩
  · rcases G with ⟨-, rfl⟩ | ⟨y, ds, q1, -⟩
    · rfl
    · cases q1
  · exact absurd F.lt (Nat.not_lt.mpr (q x rfl))
/-- a String under construction, its 'value' not yet written, is no booked one -/
theorem own_safe_null {x : Addr} (hal : Z.vm.Alike vm) (E : Exa Z h x "java/lang/String") (F : Fld Z h x "java/lang/String" "value" "[B" .null) : Safe Z EL vm h x := fun B => by
  obtain ⟨cell, cf, k, i, f, e1, e2, -, -, -, -, e7⟩ := F
  obtain ⟨p, -, u, a, -, q, -, G, rfl | rfl⟩ := B
  · cases (show h[q.sa]? = some q.sC from G.ha).symm.trans e1
    obtain ⟨cS, ⟨⟨-, -, -, ⟨c1, k1, i1, f1, -⟩, -, -, -, v1, -⟩, -⟩, -⟩ := G
    obtain ⟨k3, e3, -⟩ := State.fieldFound?_setVm (s := Z) hal e2
    have e4 := (show (Wst Z vm h).fieldFound? _ _ _ = _ from e3).symm.trans f1
    simp only [Option.some.injEq, Prod.mk.injEq] at e4
    rw [← e4.2.2.2, e7] at v1
    cases v1
  · cases (show h[q.sd]? = some q.SA from G.hd).symm.trans e1
    obtain ⟨cell2, k2, g1, g2, -⟩ := E
    cases e1.symm.trans g1
    obtain ⟨cS, -, -, fb, -⟩ := G
    have fb' : vm.findClass "[B" = some q.SA.cls := fb
    rw [hal.findClass] at fb'
    exact ids_ne fb' g2 (by decide) rfl
/-- a class with no road to another -/
theorem own_notCast {C O K : String} {n : Nat} (w : (Jvm.Cond.superclass C O).before a0 Z = true) (w0 : (Jvm.Cond.noSuperclass O).before a0 Z = true) (wk : (Jvm.Cond.instantiable K n).before a0 Z = true) (h1 : C ≠ K) (h2 : O ≠ K) : ∃ c t, Z.vm.findClass C = some c ∧ Z.vm.findClass K = some t ∧ Z.vm.assignable c t = false := by
  obtain ⟨co, ko, o1, o2, o3, -, -⟩ := Cond.noSuperclass_spec w0
  obtain ⟨t, kt, t1, t2, t3, t4, -, -⟩ := Cond.instantiable_spec wk
  obtain ⟨c, c0⟩ := found_sup w
  obtain ⟨pp, k, kp, c1, c2, c3, c4, c5, c6, c7⟩ := Cond.superclass_spec c0 w
  cases o1.symm.trans c1
  have n1 := ids_ne c0 t1 h1
  have n2 := ids_ne o1 t1 h2
  have hi : kt.isInterface = false := by simp only [Bool.or_eq_false_iff] at t4; exact t4.1
  have hs : ∀ fuel, Z.vm.isSubclassAux fuel co t = false := fun fuel => by
    cases fuel with
    | zero => rfl
    | succ f => simp [Vm.isSubclassAux, n2, o2, o3]
  have hc : ∀ fuel, Z.vm.isSubclassAux fuel c t = false := fun fuel => by
    cases fuel with
    | zero => rfl
    | succ f => simp [Vm.isSubclassAux, n1, c2, c4, hs]
  refine ⟨c, t, c0, t1, ?_⟩
  show Z.vm.assignableAux (255 + 1) c t = false
  simp [Vm.assignableAux, n1, c2, t2, c5, t3, hi, Vm.isSubclass, hc]
/-- equals of two Strings -/
theorem own_seq {len W : Nat} (hZ : Z.Warmed39 s.vm) (hw : ∀ d ∈ StrChars.Road.wordsEq, d.before a0 Z = true) {kI : Nat} (wi : (Jvm.Cond.instantiable "java/lang/String" kI).before a0 Z = true) {x y : Addr} {cs ds : List Int32} (F : OStr Z h x cs) (G : OStr Z h y ds)
    {z : Int32} (S : Sta Z h "java/lang/String" "COMPACT_STRINGS" "Z" (.int z)) (hz : ¬ z = 0) (n0 : Nat) (hfr : 2 ≤ R.frames) (hlo : W + 28 ≤ R.locals) :
    OBack l R p e below s args (⟨"java/lang/String", "equals", "(Ljava/lang/Object;)Z"⟩ : MethodName) len W #[.ref x, .ref y] h 0 0 (fun v h' L => v = some (.int (if cs = ds then 1 else 0)) ∧ Fr n0 L ∧ h' = h) := by
  obtain ⟨t, kb, cd, N2, vs, a1, a2, a3, a4, a5, a6, a7⟩ := F
  obtain ⟨t', kb', cd', N2', vs', b1, b2, b3, b4, b5, b6, b7⟩ := G
  refine Back.mono (StrChars.Road.eqW hZ hw wi a1 a2 a3 a4 a5 a6 a7 b1 b2 b3 b4 b5 b6 b7 S hz hfr hlo) (fun P a hp => hp) (fun P a v B hp hq => ?_)
  obtain ⟨L, ⟨q1, rfl, q3⟩, hl, hc, hs⟩ := hq
  refine ⟨[], ⟨?_, Fr.nil n0, q3⟩, hl, hc, hs⟩
  rcases q1 with ⟨q, r⟩ | ⟨q, r⟩
  · rw [q, if_pos r]
  · rw [q, if_neg r]
end OwnS
theorem own_ch255 (x : Int32) : ¬ nar .char ((x &&& (255 : Int32)).toUInt32.toUInt16.toUInt32.toInt32) < 0 ∧ ¬ (255 : Int32) < nar .char ((x &&& (255 : Int32)).toUInt32.toUInt16.toUInt32.toInt32) := by
  have t : ∀ k : Fin 256, ¬ nar .char ((Int32.ofNat k.val).toUInt32.toUInt16.toUInt32.toInt32) < 0 ∧ ¬ (255 : Int32) < nar .char ((Int32.ofNat k.val).toUInt32.toUInt16.toUInt32.toInt32) := by decide +kernel
  have h : (x &&& 255).toBitVec.toNat < 256 := by
    simp only [Int32.toBitVec_and, BitVec.toNat_and]
    exact Nat.lt_succ_of_le Nat.and_le_right
  have e : (x &&& 255) = Int32.ofNat (x &&& 255).toBitVec.toNat := by
    apply Int32.toBitVec_inj.mp
    show _ = BitVec.ofNat 32 _
    rw [BitVec.ofNat_toNat]; simp
  rw [e]
  exact t ⟨_, h⟩
theorem own_up (cs : List Int32) (h : ∀ c ∈ cs, ¬ c < 0 ∧ ¬ (255 : Int32) < c) : ∀ c ∈ cs, ¬ c < 0 ∧ ¬ (65535 : Int32) < c := fun c hc => ⟨(h c hc).1, fun q => (h c hc).2 (Int32.lt_trans (by decide : (255 : Int32) < 65535) q)⟩
theorem own_all0 {P : Int32 → Prop} : ∀ c ∈ ([] : List Int32), P c := fun _ q => nomatch q
theorem own_allS {P : Int32 → Prop} {x : Int32} {cs : List Int32} (a : P x) (r : ∀ c ∈ cs, P c) : ∀ c ∈ x :: cs, P c := fun c q => by
  cases q with
  | head => exact a
  | tail _ q => exact r c q
theorem own_narC {c : Int32} (h : ¬ c < 0 ∧ ¬ (255 : Int32) < c) : nar .char c = c := by
  have t : ∀ k : Fin 256, nar .char (Int32.ofNat k.val) = Int32.ofNat k.val := by decide +kernel
  have h0 : 0 ≤ c.toInt := by have := h.1; rw [Int32.lt_iff_toInt_lt] at this; have z : (0 : Int32).toInt = 0 := rfl; omega
  have h1 : c.toInt ≤ 255 := by have := h.2; rw [Int32.lt_iff_toInt_lt] at this; have z : (255 : Int32).toInt = 255 := rfl; omega
  have e : c = Int32.ofNat c.toInt.toNat := Int32.toInt_inj.mp (by rw [Int32.toInt_ofNat_of_lt (by omega)]; omega)
  rw [e]
  exact t ⟨c.toInt.toNat, by omega⟩
theorem own_nc {c : Int32} (h : ¬ c < 0 ∧ ¬ (255 : Int32) < c) : ¬ nar .char c < 0 ∧ ¬ (255 : Int32) < nar .char c := by rw [own_narC h]; exact h
theorem own_narb (x : Int32) : nar .byte x.toInt8.toInt32 = x.toInt8.toInt32 := by show x.toInt8.toInt32.toInt8.toInt32 = _; simp
theorem own_chL (x : Int64) : ¬ nar .char ((x &&& (255 : Int64)).toInt32.toUInt32.toUInt16.toUInt32.toInt32) < 0 ∧ ¬ (255 : Int32) < nar .char ((x &&& (255 : Int64)).toInt32.toUInt32.toUInt16.toUInt32.toInt32) := by
  have t : ∀ k : Fin 256, ¬ nar .char ((Int64.ofNat k.val).toInt32.toUInt32.toUInt16.toUInt32.toInt32) < 0 ∧ ¬ (255 : Int32) < nar .char ((Int64.ofNat k.val).toInt32.toUInt32.toUInt16.toUInt32.toInt32) := by decide +kernel
  have h : (x &&& 255).toBitVec.toNat < 256 := by
    simp only [Int64.toBitVec_and, BitVec.toNat_and]
    exact Nat.lt_succ_of_le Nat.and_le_right
  have e : (x &&& 255) = Int64.ofNat (x &&& 255).toBitVec.toNat := by
    apply Int64.toBitVec_inj.mp
    show _ = BitVec.ofNat 64 _
    rw [BitVec.ofNat_toNat]; simp
  rw [e]
  exact t ⟨_, h⟩


theorem own_slen {p : Program} {l : Launch} {e : Env} {R : Room} {s : State} {args : Array Value} {below : List Frame} {len W : Nat} {Z : State} {a0 : Array Value} {h : Heap} (hZ : Z.Warmed39 s.vm) (hw : ∀ d ∈ StrChars.Road.wordsLen, d.before a0 Z = true) {kI : Nat} (wi : (Jvm.Cond.instantiable "java/lang/String" kI).before a0 Z = true)
    {x : Addr} {cs : List Int32} {z : Int32} (F : OStr Z h x cs) (S : Sta Z h "java/lang/String" "COMPACT_STRINGS" "Z" (.int z)) (hz : ¬ z = 0) (n0 : Nat) (hfr : 2 ≤ R.frames) (hlo : W + 25 ≤ R.locals) :
    OBack l R p e below s args (⟨"java/lang/String", "length", "()I"⟩ : MethodName) len W #[.ref x] h 0 0 (fun v h' L => v = some (.int (Int32.ofNat cs.length)) ∧ Fr n0 L ∧ h' = h) := by
  obtain ⟨t, kb, cd, N2, vs, a1, a2, a3, a4, a5, a6, a7⟩ := F
  refine Back.mono (StrChars.Road.lenW hZ hw wi a1 a2 a3 a4 a5 a6 S hz a7 hfr hlo) (fun P a hp => hp) (fun P a v B hp hq => ?_)
  obtain ⟨L, ⟨q1, rfl, q3⟩, hl, hc, hs⟩ := hq
  exact ⟨[], ⟨q1, Fr.nil n0, q3⟩, hl, hc, hs⟩


theorem own_if0 {q : Prop} [Decidable q] (h : (if q then (1 : Int32) else 0) = 0) : ¬ q := fun z => by rw [if_pos z] at h; exact absurd h (by decide)
theorem own_if1 {q : Prop} [Decidable q] (h : ¬ (if q then (1 : Int32) else 0) = 0) : q := by
  by_cases z : q
  · exact z
  · exact absurd (if_neg z) h
theorem own_narB {q : Prop} [Decidable q] : nar .boolean (if q then (1 : Int32) else 0) = if q then (1 : Int32) else 0 := by split <;> rfl
theorem own_nar1 : nar .boolean (1 : Int32) = 1 := by decide
theorem own_nar0 : nar .boolean (0 : Int32) = 0 := by decide

theorem own_lo (x : Int32) : nar .byte (x >>> ((0 : Int32) &&& 31)).toInt8.toInt32 = StrChars.lo8 x := by rw [own_narb, StrChars.shr0]; rfl
theorem own_hi (x : Int32) : nar .byte (x >>> ((8 : Int32) &&& 31)).toInt8.toInt32 = StrChars.hi8 x := by rw [own_narb]; rfl
theorem own_nar16 (x : Int32) : ¬ nar .char x < 0 ∧ ¬ (65535 : Int32) < nar .char x := by
  have e : (nar .char x).toInt = (x.toUInt32.toUInt16.toNat : Int) := by
    show (x.toUInt32.toUInt16.toUInt32.toInt32).toInt = _
    have h := x.toUInt32.toUInt16.toNat_lt
    show x.toUInt32.toUInt16.toUInt32.toBitVec.toInt = _
    rw [BitVec.toInt_eq_toNat_of_lt]
    · rfl
    · show 2 * x.toUInt32.toUInt16.toUInt32.toNat < 2 ^ 32
      have : x.toUInt32.toUInt16.toUInt32.toNat = x.toUInt32.toUInt16.toNat := rfl
      omega
  have h := x.toUInt32.toUInt16.toNat_lt
  have z0 : (0 : Int32).toInt = 0 := rfl
  have z1 : (65535 : Int32).toInt = 65535 := rfl
  rw [Int32.lt_iff_toInt_lt, Int32.lt_iff_toInt_lt, e, z0, z1]
  omega
theorem own_narcc (x : Int32) : nar .char (x.toUInt32.toUInt16.toUInt32.toInt32) = x.toUInt32.toUInt16.toUInt32.toInt32 := by
  have e : x.toUInt32.toUInt16.toUInt32.toInt32.toUInt32.toUInt16 = x.toUInt32.toUInt16 := by
    show x.toUInt32.toUInt16.toUInt32.toUInt16 = _
    exact UInt16.toUInt16_toUInt32 _
  show (x.toUInt32.toUInt16.toUInt32.toInt32.toUInt32.toUInt16).toUInt32.toInt32 = _
  rw [e]

def own_mk (n c0_ c1_ c2_ c3_ : Int32) : List Int32 := if n = 0 then [] else if n = 1 then [(nar .char c0_)] else if n = 2 then [(nar .char c0_), (nar .char c1_)] else if n = 3 then [(nar .char c0_), (nar .char c1_), (nar .char c2_)] else [(nar .char c0_), (nar .char c1_), (nar .char c2_), (nar .char c3_)]
theorem own_mk_len (n c0_ c1_ c2_ c3_ : Int32) (h : n = 0 ∨ n = 1 ∨ n = 2 ∨ n = 3 ∨ n = 4) : Int32.ofNat (own_mk n c0_ c1_ c2_ c3_).length = n := by
  rcases h with rfl | rfl | rfl | rfl | rfl <;> rfl
theorem own_five (x : Int32) : (x &&& (2147483647 : Int32)) % (5 : Int32) = 0 ∨ (x &&& (2147483647 : Int32)) % (5 : Int32) = 1 ∨ (x &&& (2147483647 : Int32)) % (5 : Int32) = 2 ∨ (x &&& (2147483647 : Int32)) % (5 : Int32) = 3 ∨ (x &&& (2147483647 : Int32)) % (5 : Int32) = 4 := by
  have e1 : (x &&& (2147483647 : Int32)).toInt = x.toInt % 2 ^ 31 := Jvm.Kit.i32_mask x 2147483647 (k := 31) (by decide) (by decide)
  have e2 : ((x &&& (2147483647 : Int32)) % (5 : Int32)).toInt = (x &&& (2147483647 : Int32)).toInt % (5 : Int32).toInt := by
    rw [Int32.toInt_mod]; exact Int.tmod_eq_emod_of_nonneg (by omega)
  have z5 : (5 : Int32).toInt = 5 := rfl
  have z0 : (0 : Int32).toInt = 0 := rfl
  have z1 : (1 : Int32).toInt = 1 := rfl
  have z2 : (2 : Int32).toInt = 2 := rfl
  have z3 : (3 : Int32).toInt = 3 := rfl
  have z4 : (4 : Int32).toInt = 4 := rfl
  rw [z5] at e2
  simp only [← Int32.toInt_inj, e2, z0, z1, z2, z3, z4]
  omega

set_option maxRecDepth 65536 in
set_option maxHeartbeats 40000000 in
theorem own_new4E (l : Launch) (Z : State) (a0 : Array Value) (hw : ∀ d ∈ tables_1, d.before a0 Z = true) (ws : List Jvm.Cond) (a b : Addr) (h0 : Heap) (n0 : Nat) (Z0 : n0 ≤ h0.size) (E1 : Exa Z h0 a "java/lang/String") (Fv : Fld Z h0 a "java/lang/String" "value" "[B" .null) (Fc : Fld Z h0 a "java/lang/String" "coder" "B" (.int (0 : Int32))) (ga : n0 ≤ a) :
    OMetW l Z consts_1 (⟨"java/lang/String", "<init>", "([CIILjava/lang/Void;)V"⟩ : MethodName) jdk_42_method_149_code 6 none ws ({ frames := 1, cells := 4, slots := 8, locals := 16 } : Room) #[(.ref a), (.ref b), (.int (0 : Int32)), (.int (0 : Int32)), .null] h0 (fun v h L => v = none ∧ Fr n0 L ∧ Keep h0 h [a] ∧ OStr Z h a []) := by
  refine OMetW.body (plainFor_of_name own_pn3) ?_
  intro p e s m below meth c s₁ hx hby hml hown hnm hret hlk hZ X0 e0 OW0
  have hEL := own_hEL hw
  have wS := own_wS hw
  refine OGo.step (fun _ kk => castTop (show entryFrame m #[(.ref a), (.ref b), (.int (0 : Int32)), (.int (0 : Int32)), .null] 6 = (mkF m 0 #[.val (.ref a), .val (.ref b), .val (.int (0 : Int32)), .val (.int (0 : Int32)), .val .null, .unset] []) from by first | (simp [entryFrame, mkF, argsToLocals, Value.category]; done) | rfl) kk) ?_
  show OGo p e below (s₁.setTop (mkF m 0 #[.val (.ref a), .val (.ref b), .val (.int (0 : Int32)), .val (.int (0 : Int32)), .val .null, .unset] [])) _
  have sf212 := own_safe_null (EL := consts_1) OW0.2.1.alike E1 Fv
  refine OGo.step (fun _ kk => XS.aloadN X0.here hx rfl (hb hby own_d_jdk_42_method_149_code_0) rfl rfl kk) ?_
  show OGo p e below (s₁.setTop (mkF m 1 #[.val (.ref a), .val (.ref b), .val (.int (0 : Int32)), .val (.int (0 : Int32)), .val .null, .unset] [(.ref a)])) _
  obtain ⟨T213, X213, e213, st213⟩ := initO X0 hx hZ hown (hw _ (List.mem_of_getElem? (i := 17) rfl)) (hw _ (List.mem_of_getElem? (i := 18) rfl)) (hw _ (List.mem_of_getElem? (i := 19) rfl)) e0 (g := (mkF m 1 #[.val (.ref a), .val (.ref b), .val (.int (0 : Int32)), .val (.int (0 : Int32)), .val .null, .unset] [(.ref a)])) rfl (by rw [hml]; rfl) rfl (hb hby own_d_jdk_42_method_149_code_1) (by decide) (W := 0) (by show 2 * 0 + _ ≤ _; exact Nat.le_of_eq rfl) (by decide)
  refine OGo.step st213 ?_
  show OGo p e below (T213.setTop (mkF m 4 #[.val (.ref a), .val (.ref b), .val (.int (0 : Int32)), .val (.int (0 : Int32)), .val .null, .unset] [])) _
  refine OGo.step (fun _ kk => XS.iloadN X213.here hx rfl (hb hby own_d_jdk_42_method_149_code_4) rfl kk) ?_
  show OGo p e below (T213.setTop (mkF m 5 #[.val (.ref a), .val (.ref b), .val (.int (0 : Int32)), .val (.int (0 : Int32)), .val .null, .unset] [(.int (0 : Int32))])) _
  refine OGo.step (fun _ kk => XS.ifNo X213.here hx rfl (hb hby own_d_jdk_42_method_149_code_5) rfl ((if0 _ _).trans (teq rfl).2) kk) ?_
  show OGo p e below (T213.setTop (mkF m 8 #[.val (.ref a), .val (.ref b), .val (.int (0 : Int32)), .val (.int (0 : Int32)), .val .null, .unset] [])) _
  refine OGo.step (fun _ kk => XS.aloadN X213.here hx rfl (hb hby own_d_jdk_42_method_149_code_8) rfl rfl kk) ?_
  show OGo p e below (T213.setTop (mkF m 9 #[.val (.ref a), .val (.ref b), .val (.int (0 : Int32)), .val (.int (0 : Int32)), .val .null, .unset] [(.ref a)])) _
  refine own_ldcW X213 hx hown (hw _ (List.mem_of_getElem? (i := 109) rfl)) wS hEL OW0 e213 (by decide) (vs := []) (z := (0 : Int32)) ⟨by decide, by decide⟩ (by decide) (by decide) (pc := 9) (Ls := #[.val (.ref a), .val (.ref b), .val (.int (0 : Int32)), .val (.int (0 : Int32)), .val .null, .unset]) (st := [(.ref a)]) (hb hby own_d_jdk_42_method_149_code_9) (n := 0) (by decide) (by decide) (by decide) (by decide) ?_
  intro z zb kb214 T214 X214 E214 OW214 hZ hown CH214 Es214 Fc214 Fv214 Av214 Ns214
  have sf215 := CH214.safe (E1).lt sf212
  have sz214 : n0 ≤ T214.heap.size := Nat.le_trans Z0 E214.1
  show OGo p e below (T214.setTop (mkF m 11 #[.val (.ref a), .val (.ref b), .val (.int (0 : Int32)), .val (.int (0 : Int32)), .val .null, .unset] [(.ref z), (.ref a)])) _
  have nab := (Ns214 _ sf215).2
  obtain ⟨T216, X216, e216, st216⟩ := getF X214 hx hZ hown (host := "") (Or.inl (hw _ (List.mem_of_getElem? (i := 34) rfl))) Via.refl rfl Fv214 (g := (mkF m 11 #[.val (.ref a), .val (.ref b), .val (.int (0 : Int32)), .val (.int (0 : Int32)), .val .null, .unset] [(.ref z), (.ref a)])) rfl rfl (hb hby own_d_jdk_42_method_149_code_11)
  refine OGo.step st216 ?_
  show OGo p e below (T216.setTop (mkF m 14 #[.val (.ref a), .val (.ref b), .val (.int (0 : Int32)), .val (.int (0 : Int32)), .val .null, .unset] [(.ref zb), (.ref a)])) _
  have fc217 := (Fv.ext E214)
  have fc218 := (E1.ext E214)
  obtain ⟨T219, h219, X219, e219, W219, st219⟩ := putF X216 hx hZ hown (host := "") (Or.inl (hw _ (List.mem_of_getElem? (i := 34) rfl))) Via.refl e216 fc217 fc218 (Or.inr ⟨(hw _ (List.mem_of_getElem? (i := 35) rfl)), rfl, hnm⟩) (hw _ (List.mem_of_getElem? (i := 7) rfl)) (ty := (.array .byte)) (by decide) rfl rfl (g := (mkF m 14 #[.val (.ref a), .val (.ref b), .val (.int (0 : Int32)), .val (.int (0 : Int32)), .val .null, .unset] [(.ref zb), (.ref a)])) rfl rfl (hb hby own_d_jdk_42_method_149_code_14)
  refine OGo.step st219 ?_
  show OGo p e below (T219.setTop (mkF m 17 #[.val (.ref a), .val (.ref b), .val (.int (0 : Int32)), .val (.int (0 : Int32)), .val .null, .unset] [])) _
  have Fw219 := fc217.same W219
  have Nf219 := Fr.snoc X219 (Fr.nil n0) ga
  have sz219 : n0 ≤ h219.size := by rw [W219.size]; exact sz214
  have sw220 := sf215
  have sf221 := Safe.wr W219 sw220 OW214.chv sf215
  have OW222 := OW214.wr W219 sw220
  refine OGo.step (fun _ kk => XS.aloadN X219.here hx rfl (hb hby own_d_jdk_42_method_149_code_17) rfl rfl kk) ?_
  show OGo p e below (T219.setTop (mkF m 18 #[.val (.ref a), .val (.ref b), .val (.int (0 : Int32)), .val (.int (0 : Int32)), .val .null, .unset] [(.ref a)])) _
  refine own_ldcW X219 hx hown (hw _ (List.mem_of_getElem? (i := 109) rfl)) wS hEL OW222 e219 (by decide) (vs := []) (z := (0 : Int32)) ⟨by decide, by decide⟩ (by decide) (by decide) (pc := 18) (Ls := #[.val (.ref a), .val (.ref b), .val (.int (0 : Int32)), .val (.int (0 : Int32)), .val .null, .unset]) (st := [(.ref a)]) (hb hby own_d_jdk_42_method_149_code_18) (n := 0) (by decide) (by decide) (by decide) (by decide) ?_
  intro z2 z2b kb223 T223 X223 E223 OW223 hZ hown CH223 Es223 Fc223 Fv223 Av223 Ns223
  have fc225 := (fc218.wr W219)
  have sf224 := CH223.safe (fc225).lt sf221
  have sz223 : n0 ≤ T223.heap.size := Nat.le_trans sz219 E223.1
  show OGo p e below (T223.setTop (mkF m 20 #[.val (.ref a), .val (.ref b), .val (.int (0 : Int32)), .val (.int (0 : Int32)), .val .null, .unset] [(.ref z2), (.ref a)])) _
  obtain ⟨T226, X226, e226, st226⟩ := getF X223 hx hZ hown (host := "") (Or.inl (hw _ (List.mem_of_getElem? (i := 32) rfl))) Via.refl rfl Fc223 (g := (mkF m 20 #[.val (.ref a), .val (.ref b), .val (.int (0 : Int32)), .val (.int (0 : Int32)), .val .null, .unset] [(.ref z2), (.ref a)])) rfl rfl (hb hby own_d_jdk_42_method_149_code_20)
  refine OGo.step st226 ?_
  show OGo p e below (T226.setTop (mkF m 23 #[.val (.ref a), .val (.ref b), .val (.int (0 : Int32)), .val (.int (0 : Int32)), .val .null, .unset] [(.int (0 : Int32)), (.ref a)])) _
  have fc227 := (((Fc.ext E214).other W219 (Or.inr (slot_ne (Or.inr (hw _ (List.mem_of_getElem? (i := 33) rfl))) (Or.inr (hw _ (List.mem_of_getElem? (i := 35) rfl))) (by decide) (t := .byte) (t' := (.array .byte)) (by decide) (by decide)))).ext E223)
  have fc228 := (fc225.ext E223)
  obtain ⟨T229, h229, X229, e229, W229, st229⟩ := putFN X226 hx hZ hown (hw _ (List.mem_of_getElem? (i := 32) rfl)) Via.refl e226 fc227 fc228 (Or.inr ⟨(hw _ (List.mem_of_getElem? (i := 33) rfl)), rfl, hnm⟩) (hw _ (List.mem_of_getElem? (i := 7) rfl)) (ty := .byte) (v' := (.int (0 : Int32))) (by decide) rfl rfl (g := (mkF m 23 #[.val (.ref a), .val (.ref b), .val (.int (0 : Int32)), .val (.int (0 : Int32)), .val .null, .unset] [(.int (0 : Int32)), (.ref a)])) rfl rfl (hb hby own_d_jdk_42_method_149_code_23)
  refine OGo.step st229 ?_
  show OGo p e below (T229.setTop (mkF m 26 #[.val (.ref a), .val (.ref b), .val (.int (0 : Int32)), .val (.int (0 : Int32)), .val .null, .unset] [])) _
  have Fw229 := fc227.same W229
  have Nf229 := Fr.snoc X229 Nf219 ga
  have sz229 : n0 ≤ h229.size := by rw [W229.size]; exact sz223
  have sw230 := sf224
  have sf231 := Safe.wr W229 sw230 OW223.chv sf224
  have OW232 := OW223.wr W229 sw230
  have fc233 := (fc228.wr W229)
  have fc234 := ((Fw219.ext E223).other W229 (Or.inr (slot_ne (Or.inr (hw _ (List.mem_of_getElem? (i := 35) rfl))) (Or.inr (hw _ (List.mem_of_getElem? (i := 33) rfl))) (by decide) (t := (.array .byte)) (t' := .byte) (by decide) (by decide))))
  have fc235 := (((Av214.other W219 (Ne.symm nab)).ext E223).other W229 (Ne.symm nab))
  have HQ : OStr Z h229 a [] := ⟨zb, _, 0, 0, [], fc233, fc234, Fw229, fc235, Or.inl ⟨rfl, rfl, rfl, own_all0⟩, own_all0, by decide⟩
  have HK := (((((Keep.refl h0 [a]).ext E214).wr W219 (Or.inl (List.mem_of_getElem? (i := 0) rfl))).ext E223).wr W229 (Or.inl (List.mem_of_getElem? (i := 0) rfl)))
  exact own_ret0W X229 hx hlk hEL OW232 e229 hret (hb hby own_d_jdk_42_method_149_code_26) (by rw [e229]; exact ⟨rfl, Nf229, HK, HQ⟩) (by decide) (by decide)

set_option maxRecDepth 65536 in
set_option maxHeartbeats 40000000 in
theorem own_new1E (l : Launch) (Z : State) (a0 : Array Value) (hw : ∀ d ∈ tables_1, d.before a0 Z = true) (ws : List Jvm.Cond) (a b : Addr) (kb : ClassId) (h0 : Heap) (n0 : Nat) (Z0 : n0 ≤ h0.size) (E1 : Exa Z h0 a "java/lang/String") (Fv : Fld Z h0 a "java/lang/String" "value" "[B" .null) (Fc : Fld Z h0 a "java/lang/String" "coder" "B" (.int (0 : Int32))) (ga : n0 ≤ a) (Vb : Arv Z h0 b kb .char (0 : Int32) [] (.int (0 : Int32))) :
    OMetW l Z consts_1 (⟨"java/lang/String", "<init>", "([C)V"⟩ : MethodName) jdk_42_method_3_code 2 none ws ({ frames := 2, cells := 4, slots := 8, locals := 33 } : Room) #[(.ref a), (.ref b)] h0 (fun v h L => v = none ∧ Fr n0 L ∧ Keep h0 h [a] ∧ OStr Z h a []) := by
  refine OMetW.body (plainFor_of_name own_pn3) ?_
  intro p e s m below meth c s₁ hx hby hml hown hnm hret hlk hZ X0 e0 OW0
  have hEL := own_hEL hw
  have wS := own_wS hw
  refine OGo.step (fun _ kk => castTop (show entryFrame m #[(.ref a), (.ref b)] 2 = (mkF m 0 #[.val (.ref a), .val (.ref b)] []) from by first | (simp [entryFrame, mkF, argsToLocals, Value.category]; done) | rfl) kk) ?_
  show OGo p e below (s₁.setTop (mkF m 0 #[.val (.ref a), .val (.ref b)] [])) _
  obtain ⟨cb, Ab, qb, Sb, Mb, Hb, Gb⟩ := Vb
  refine OGo.step (fun _ kk => XS.aloadN X0.here hx rfl (hb hby own_d_jdk_42_method_3_code_0) rfl rfl kk) ?_
  show OGo p e below (s₁.setTop (mkF m 1 #[.val (.ref a), .val (.ref b)] [(.ref a)])) _
  refine OGo.step (fun _ kk => XS.aloadN X0.here hx rfl (hb hby own_d_jdk_42_method_3_code_1) rfl rfl kk) ?_
  show OGo p e below (s₁.setTop (mkF m 2 #[.val (.ref a), .val (.ref b)] [(.ref b), (.ref a)])) _
  refine OGo.step (fun _ kk => XS.iconst X0.here hx rfl (hb hby own_d_jdk_42_method_3_code_2) kk) ?_
  show OGo p e below (s₁.setTop (mkF m 3 #[.val (.ref a), .val (.ref b)] [(.int (0 : Int32)), (.ref b), (.ref a)])) _
  refine OGo.step (fun _ kk => XS.aloadN X0.here hx rfl (hb hby own_d_jdk_42_method_3_code_3) rfl rfl kk) ?_
  show OGo p e below (s₁.setTop (mkF m 4 #[.val (.ref a), .val (.ref b)] [(.ref b), (.int (0 : Int32)), (.ref b), (.ref a)])) _
  refine OGo.step (fun _ kk => X0.arraylength hx (by rw [e0]; exact (Ab).1) (State.isArrayOf_alike hZ.alike (Ab).2.1) (g := (mkF m 4 #[.val (.ref a), .val (.ref b)] [(.ref b), (.int (0 : Int32)), (.ref b), (.ref a)])) rfl rfl (hb hby own_d_jdk_42_method_3_code_4) _ kk) ?_
  rw [len_of Sb Mb]
  show OGo p e below (s₁.setTop (mkF m 5 #[.val (.ref a), .val (.ref b)] [(.int (0 : Int32)), (.int (0 : Int32)), (.ref b), (.ref a)])) _
  refine OGo.step (fun _ kk => XS.aconstNull X0.here hx rfl (hb hby own_d_jdk_42_method_3_code_5) kk) ?_
  show OGo p e below (s₁.setTop (mkF m 6 #[.val (.ref a), .val (.ref b)] [.null, (.int (0 : Int32)), (.int (0 : Int32)), (.ref b), (.ref a)])) _
  refine own_specialW X0 hx hZ (y := (⟨"java/lang/String", "<init>", "([CIILjava/lang/Void;)V"⟩ : MethodName)) rfl hown (hw _ (List.mem_of_getElem? (i := 13) rfl)) (hw _ (List.mem_of_getElem? (i := 14) rfl)) (hw _ (List.mem_of_getElem? (i := 16) rfl)) (hw _ (List.mem_of_getElem? (i := 8) rfl)) (by decide) hEL OW0 (a := a) (W := 0) (own_new4E l Z a0 hw [] a b h0 n0 Z0 E1 Fv Fc ga) e0  (pc := 6) (Ls := #[.val (.ref a), .val (.ref b)]) (argsL := [(.ref b), (.int (0 : Int32)), (.int (0 : Int32)), .null]) (rest := []) (by rw [hml]; rfl) (lenOf own_pd9 rfl) rfl (hb hby own_d_jdk_42_method_3_code_6) (by decide) (by decide) (by decide) (by decide) ?_
  intro v236 T236 L236 X236 hQ236 OW236 hZ hown CH236
  obtain ⟨rfl, N236, K236, O236⟩ := hQ236
  show OGo p e below (T236.setTop (mkF m 9 #[.val (.ref a), .val (.ref b)] [])) _
  exact own_ret0W X236 hx hlk hEL OW236 rfl hret (hb hby own_d_jdk_42_method_3_code_9) ⟨rfl, Fr.app (Fr.nil n0) N236, K236, O236⟩ (by decide) (by decide)

set_option maxRecDepth 65536 in
set_option maxHeartbeats 40000000 in
theorem own_putc0 (l : Launch) (Z : State) (a0 : Array Value) (hw : ∀ d ∈ tables_1, d.before a0 Z = true) (ws : List Jvm.Cond) (u : Addr) (kb : ClassId) (N : Int32) (vs : List Value) (ch : Int32) (h0 : Heap) (n0 : Nat) (Z0 : n0 ≤ h0.size) (SA : Sta Z h0 "java/lang/StringUTF16" "$assertionsDisabled" "Z" (.int (1 : Int32))) (SH : Sta Z h0 "java/lang/StringUTF16" "HI_BYTE_SHIFT" "I" (.int (0 : Int32))) (SL : Sta Z h0 "java/lang/StringUTF16" "LO_BYTE_SHIFT" "I" (.int (8 : Int32))) (gu : n0 ≤ u) (Vu : Arv Z h0 u kb .byte N vs (.int (0 : Int32))) (hl : 1 < vs.length) (hN0 : (0 : Int32) < N) (hN1 : (1 : Int32) < N) :
    OMet l Z (⟨"java/lang/StringUTF16", "putChar", "([BII)V"⟩ : MethodName) jdk_52_method_4_code 3 none ws ({ frames := 0, cells := 0, slots := 0, locals := 0 } : Room) #[(.ref u), (.int (0 : Int32)), (.int ch)] h0 (fun v h L => v = none ∧ Fr n0 L ∧ Keep h0 h [u] ∧ Arv Z h u kb .byte N ((vs.set 0 (.int (StrChars.lo8 ch))).set 1 (.int (StrChars.hi8 ch))) (.int (0 : Int32))) := by
  refine OMet.body (plainFor_of_name own_pn4) ?_
  intro p e s m below meth c s₁ hx hby hml hown hnm hret hlk hZ X0 e0
  refine OGo.step (fun _ kk => castTop (show entryFrame m #[(.ref u), (.int (0 : Int32)), (.int ch)] 3 = (mkF m 0 #[.val (.ref u), .val (.int (0 : Int32)), .val (.int ch)] []) from by first | (simp [entryFrame, mkF, argsToLocals, Value.category]; done) | rfl) kk) ?_
  show OGo p e below (s₁.setTop (mkF m 0 #[.val (.ref u), .val (.int (0 : Int32)), .val (.int ch)] [])) _
  obtain ⟨T237, X237, e237, st237⟩ := getS2 X0 hx hZ hown (host := "") (Or.inl (hw _ (List.mem_of_getElem? (i := 103) rfl))) Via.refl e0 SA (g := (mkF m 0 #[.val (.ref u), .val (.int (0 : Int32)), .val (.int ch)] [])) rfl (hb hby own_d_jdk_52_method_4_code_0)
  refine OGo.step st237 ?_
  show OGo p e below (T237.setTop (mkF m 3 #[.val (.ref u), .val (.int (0 : Int32)), .val (.int ch)] [(.int (1 : Int32))])) _
  refine OGo.step (fun _ kk => XS.ifYes X237.here hx rfl (pc0 := 3) (pc' := 28) rfl (hb hby own_d_jdk_52_method_4_code_3) rfl ((if0 _ _).trans (feq (by decide)).2) (by decide) (by decide) kk) ?_
  show OGo p e below (T237.setTop (mkF m 28 #[.val (.ref u), .val (.int (0 : Int32)), .val (.int ch)] [])) _
  refine OGo.step (fun _ kk => XS.iloadN X237.here hx rfl (hb hby own_d_jdk_52_method_4_code_28) rfl kk) ?_
  show OGo p e below (T237.setTop (mkF m 29 #[.val (.ref u), .val (.int (0 : Int32)), .val (.int ch)] [(.int (0 : Int32))])) _
  refine OGo.step (fun _ kk => XS.iconst X237.here hx rfl (hb hby own_d_jdk_52_method_4_code_29) kk) ?_
  show OGo p e below (T237.setTop (mkF m 30 #[.val (.ref u), .val (.int (0 : Int32)), .val (.int ch)] [(.int (1 : Int32)), (.int (0 : Int32))])) _
  refine OGo.step (fun _ kk => XS.ishl X237.here hx rfl (hb hby own_d_jdk_52_method_4_code_30) rfl kk) ?_
  show OGo p e below (T237.setTop (mkF m 31 #[.val (.ref u), .val (.int (0 : Int32)), .val (.int ch)] [(.int ((0 : Int32) <<< ((1 : Int32) &&& 31)))])) _
  refine OGo.step (fun _ kk => XS.istoreN X237.here hx rfl (hb hby own_d_jdk_52_method_4_code_31) rfl (l' := #[.val (.ref u), .val (.int ((0 : Int32) <<< ((1 : Int32) &&& 31))), .val (.int ch)]) rfl kk) ?_
  show OGo p e below (T237.setTop (mkF m 32 #[.val (.ref u), .val (.int ((0 : Int32) <<< ((1 : Int32) &&& 31))), .val (.int ch)] [])) _
  show OGo p e below (T237.setTop (mkF m 32 #[.val (.ref u), .val (.int (0 : Int32)), .val (.int ch)] [])) _
  refine OGo.step (fun _ kk => XS.aloadN X237.here hx rfl (hb hby own_d_jdk_52_method_4_code_32) rfl rfl kk) ?_
  show OGo p e below (T237.setTop (mkF m 33 #[.val (.ref u), .val (.int (0 : Int32)), .val (.int ch)] [(.ref u)])) _
  refine OGo.step (fun _ kk => XS.iloadN X237.here hx rfl (hb hby own_d_jdk_52_method_4_code_33) rfl kk) ?_
  show OGo p e below (T237.setTop (mkF m 34 #[.val (.ref u), .val (.int (0 : Int32)), .val (.int ch)] [(.int (0 : Int32)), (.ref u)])) _
  refine OGo.step (fun _ kk => XS.iinc X237.here hx rfl (hb hby own_d_jdk_52_method_4_code_34) rfl (l' := #[.val (.ref u), .val (.int ((0 : Int32) + (1 : Int32))), .val (.int ch)]) rfl kk) ?_
  show OGo p e below (T237.setTop (mkF m 37 #[.val (.ref u), .val (.int ((0 : Int32) + (1 : Int32))), .val (.int ch)] [(.int (0 : Int32)), (.ref u)])) _
  show OGo p e below (T237.setTop (mkF m 37 #[.val (.ref u), .val (.int (1 : Int32)), .val (.int ch)] [(.int (0 : Int32)), (.ref u)])) _
  refine OGo.step (fun _ kk => XS.iloadN X237.here hx rfl (hb hby own_d_jdk_52_method_4_code_37) rfl kk) ?_
  show OGo p e below (T237.setTop (mkF m 38 #[.val (.ref u), .val (.int (1 : Int32)), .val (.int ch)] [(.int ch), (.int (0 : Int32)), (.ref u)])) _
  obtain ⟨T238, X238, e238, st238⟩ := getS2 X237 hx hZ hown (host := "") (Or.inl (hw _ (List.mem_of_getElem? (i := 104) rfl))) Via.refl e237 SH (g := (mkF m 38 #[.val (.ref u), .val (.int (1 : Int32)), .val (.int ch)] [(.int ch), (.int (0 : Int32)), (.ref u)])) rfl (hb hby own_d_jdk_52_method_4_code_38)
  refine OGo.step st238 ?_
  show OGo p e below (T238.setTop (mkF m 41 #[.val (.ref u), .val (.int (1 : Int32)), .val (.int ch)] [(.int (0 : Int32)), (.int ch), (.int (0 : Int32)), (.ref u)])) _
  refine OGo.step (fun _ kk => XS.ishr X238.here hx rfl (hb hby own_d_jdk_52_method_4_code_41) rfl kk) ?_
  show OGo p e below (T238.setTop (mkF m 42 #[.val (.ref u), .val (.int (1 : Int32)), .val (.int ch)] [(.int (ch >>> ((0 : Int32) &&& 31))), (.int (0 : Int32)), (.ref u)])) _
  refine OGo.step (fun _ kk => XS.i2b X238.here hx rfl (hb hby own_d_jdk_52_method_4_code_42) rfl kk) ?_
  show OGo p e below (T238.setTop (mkF m 43 #[.val (.ref u), .val (.int (1 : Int32)), .val (.int ch)] [(.int ((ch >>> ((0 : Int32) &&& 31)).toInt8.toInt32)), (.int (0 : Int32)), (.ref u)])) _
  obtain ⟨cA239, A239, q239, S239, M239, H239, G239⟩ := id Vu
  obtain ⟨T240, h240, X240, e240, W240, st240⟩ := stB X238 hx hZ e238 A239 (j := (0 : Int32)) (inb_of S239 ⟨by decide, hN0⟩) (g := (mkF m 43 #[.val (.ref u), .val (.int (1 : Int32)), .val (.int ch)] [(.int ((ch >>> ((0 : Int32) &&& 31)).toInt8.toInt32)), (.int (0 : Int32)), (.ref u)])) rfl rfl (hb hby own_d_jdk_52_method_4_code_43)
  refine OGo.step st240 ?_
  show OGo p e below (T240.setTop (mkF m 44 #[.val (.ref u), .val (.int (1 : Int32)), .val (.int ch)] [])) _
  have Va239 : Arv Z h240 u kb .byte N (vs.set 0 (.int (StrChars.lo8 ch))) (.int (0 : Int32)) := by rw [← (own_lo ch)]; exact Arv.set A239 q239 S239 M239 H239 G239 (fits_nar_byte _) W240 0 rfl (Nat.lt_of_succ_lt hl)
  have Nf240 := Fr.snoc X240 (Fr.nil n0) gu
  have sz240 : n0 ≤ h240.size := by rw [W240.size]; exact Z0
  refine OGo.step (fun _ kk => XS.aloadN X240.here hx rfl (hb hby own_d_jdk_52_method_4_code_44) rfl rfl kk) ?_
  show OGo p e below (T240.setTop (mkF m 45 #[.val (.ref u), .val (.int (1 : Int32)), .val (.int ch)] [(.ref u)])) _
  refine OGo.step (fun _ kk => XS.iloadN X240.here hx rfl (hb hby own_d_jdk_52_method_4_code_45) rfl kk) ?_
  show OGo p e below (T240.setTop (mkF m 46 #[.val (.ref u), .val (.int (1 : Int32)), .val (.int ch)] [(.int (1 : Int32)), (.ref u)])) _
  refine OGo.step (fun _ kk => XS.iloadN X240.here hx rfl (hb hby own_d_jdk_52_method_4_code_46) rfl kk) ?_
  show OGo p e below (T240.setTop (mkF m 47 #[.val (.ref u), .val (.int (1 : Int32)), .val (.int ch)] [(.int ch), (.int (1 : Int32)), (.ref u)])) _
  have fc241 := (SL.wr W240)
  obtain ⟨T242, X242, e242, st242⟩ := getS2 X240 hx hZ hown (host := "") (Or.inl (hw _ (List.mem_of_getElem? (i := 105) rfl))) Via.refl e240 fc241 (g := (mkF m 47 #[.val (.ref u), .val (.int (1 : Int32)), .val (.int ch)] [(.int ch), (.int (1 : Int32)), (.ref u)])) rfl (hb hby own_d_jdk_52_method_4_code_47)
  refine OGo.step st242 ?_
  show OGo p e below (T242.setTop (mkF m 50 #[.val (.ref u), .val (.int (1 : Int32)), .val (.int ch)] [(.int (8 : Int32)), (.int ch), (.int (1 : Int32)), (.ref u)])) _
  refine OGo.step (fun _ kk => XS.ishr X242.here hx rfl (hb hby own_d_jdk_52_method_4_code_50) rfl kk) ?_
  show OGo p e below (T242.setTop (mkF m 51 #[.val (.ref u), .val (.int (1 : Int32)), .val (.int ch)] [(.int (ch >>> ((8 : Int32) &&& 31))), (.int (1 : Int32)), (.ref u)])) _
  refine OGo.step (fun _ kk => XS.i2b X242.here hx rfl (hb hby own_d_jdk_52_method_4_code_51) rfl kk) ?_
  show OGo p e below (T242.setTop (mkF m 52 #[.val (.ref u), .val (.int (1 : Int32)), .val (.int ch)] [(.int ((ch >>> ((8 : Int32) &&& 31)).toInt8.toInt32)), (.int (1 : Int32)), (.ref u)])) _
  obtain ⟨cA243, A243, q243, S243, M243, H243, G243⟩ := id Va239
  obtain ⟨T244, h244, X244, e244, W244, st244⟩ := stB X242 hx hZ e242 A243 (j := (1 : Int32)) (inb_of S243 ⟨by decide, hN1⟩) (g := (mkF m 52 #[.val (.ref u), .val (.int (1 : Int32)), .val (.int ch)] [(.int ((ch >>> ((8 : Int32) &&& 31)).toInt8.toInt32)), (.int (1 : Int32)), (.ref u)])) rfl rfl (hb hby own_d_jdk_52_method_4_code_52)
  refine OGo.step st244 ?_
  show OGo p e below (T244.setTop (mkF m 53 #[.val (.ref u), .val (.int (1 : Int32)), .val (.int ch)] [])) _
  have Va243 : Arv Z h244 u kb .byte N ((vs.set 0 (.int (StrChars.lo8 ch))).set 1 (.int (StrChars.hi8 ch))) (.int (0 : Int32)) := by rw [← (own_hi ch)]; exact Arv.set A243 q243 S243 M243 H243 G243 (fits_nar_byte _) W244 1 rfl (by rw [List.length_set]; exact hl)
  have Nf244 := Fr.snoc X244 Nf240 gu
  have sz244 : n0 ≤ h244.size := by rw [W244.size]; exact sz240
  have HK := (((Keep.refl h0 [u]).wr W240 (Or.inl (List.mem_of_getElem? (i := 0) rfl))).wr W244 (Or.inl (List.mem_of_getElem? (i := 0) rfl)))
  exact own_ret0 X244 hx hlk hret (hb hby own_d_jdk_52_method_4_code_53) (by rw [e244]; exact ⟨rfl, Nf244, HK, Va243⟩) (by decide) (by decide)

set_option maxRecDepth 65536 in
set_option maxHeartbeats 40000000 in
theorem own_getc0 (l : Launch) (Z : State) (a0 : Array Value) (hw : ∀ d ∈ tables_1, d.before a0 Z = true) (ws : List Jvm.Cond) (u : Addr) (kb : ClassId) (N : Int32) (vs : List Value) (x y : Int32) (h0 : Heap) (n0 : Nat) (Z0 : n0 ≤ h0.size) (SA : Sta Z h0 "java/lang/StringUTF16" "$assertionsDisabled" "Z" (.int (1 : Int32))) (SH : Sta Z h0 "java/lang/StringUTF16" "HI_BYTE_SHIFT" "I" (.int (0 : Int32))) (SL : Sta Z h0 "java/lang/StringUTF16" "LO_BYTE_SHIFT" "I" (.int (8 : Int32))) (Vu : Arv Z h0 u kb .byte N vs (.int (0 : Int32))) (hN0 : (0 : Int32) < N) (hN1 : (1 : Int32) < N) (hb0 : 0 < N.toNatClampNeg) (hb1 : 1 < N.toNatClampNeg) (g0 : vs.getD 0 (.int (0 : Int32)) = .int x) (g1 : vs.getD 1 (.int (0 : Int32)) = .int y) :
    OMet l Z (⟨"java/lang/StringUTF16", "getChar", "([BI)C"⟩ : MethodName) jdk_52_method_5_code 2 (some .char) ws ({ frames := 0, cells := 0, slots := 0, locals := 0 } : Room) #[(.ref u), (.int (0 : Int32))] h0 (fun v h L => v = some (.int (StrChars.pairCh x y)) ∧ Fr n0 L ∧ h = h0) := by
  refine OMet.body (plainFor_of_name own_pn4) ?_
  intro p e s m below meth c s₁ hx hby hml hown hnm hret hlk hZ X0 e0
  refine OGo.step (fun _ kk => castTop (show entryFrame m #[(.ref u), (.int (0 : Int32))] 2 = (mkF m 0 #[.val (.ref u), .val (.int (0 : Int32))] []) from by first | (simp [entryFrame, mkF, argsToLocals, Value.category]; done) | rfl) kk) ?_
  show OGo p e below (s₁.setTop (mkF m 0 #[.val (.ref u), .val (.int (0 : Int32))] [])) _
  obtain ⟨cu, Au, qu, Su, Mu, Hu, Gu⟩ := id Vu
  obtain ⟨T245, X245, e245, st245⟩ := getS2 X0 hx hZ hown (host := "") (Or.inl (hw _ (List.mem_of_getElem? (i := 103) rfl))) Via.refl e0 SA (g := (mkF m 0 #[.val (.ref u), .val (.int (0 : Int32))] [])) rfl (hb hby own_d_jdk_52_method_5_code_0)
  refine OGo.step st245 ?_
  show OGo p e below (T245.setTop (mkF m 3 #[.val (.ref u), .val (.int (0 : Int32))] [(.int (1 : Int32))])) _
  refine OGo.step (fun _ kk => XS.ifYes X245.here hx rfl (pc0 := 3) (pc' := 28) rfl (hb hby own_d_jdk_52_method_5_code_3) rfl ((if0 _ _).trans (feq (by decide)).2) (by decide) (by decide) kk) ?_
  show OGo p e below (T245.setTop (mkF m 28 #[.val (.ref u), .val (.int (0 : Int32))] [])) _
  refine OGo.step (fun _ kk => XS.iloadN X245.here hx rfl (hb hby own_d_jdk_52_method_5_code_28) rfl kk) ?_
  show OGo p e below (T245.setTop (mkF m 29 #[.val (.ref u), .val (.int (0 : Int32))] [(.int (0 : Int32))])) _
  refine OGo.step (fun _ kk => XS.iconst X245.here hx rfl (hb hby own_d_jdk_52_method_5_code_29) kk) ?_
  show OGo p e below (T245.setTop (mkF m 30 #[.val (.ref u), .val (.int (0 : Int32))] [(.int (1 : Int32)), (.int (0 : Int32))])) _
  refine OGo.step (fun _ kk => XS.ishl X245.here hx rfl (hb hby own_d_jdk_52_method_5_code_30) rfl kk) ?_
  show OGo p e below (T245.setTop (mkF m 31 #[.val (.ref u), .val (.int (0 : Int32))] [(.int ((0 : Int32) <<< ((1 : Int32) &&& 31)))])) _
  refine OGo.step (fun _ kk => XS.istoreN X245.here hx rfl (hb hby own_d_jdk_52_method_5_code_31) rfl (l' := #[.val (.ref u), .val (.int ((0 : Int32) <<< ((1 : Int32) &&& 31)))]) rfl kk) ?_
  show OGo p e below (T245.setTop (mkF m 32 #[.val (.ref u), .val (.int ((0 : Int32) <<< ((1 : Int32) &&& 31)))] [])) _
  show OGo p e below (T245.setTop (mkF m 32 #[.val (.ref u), .val (.int (0 : Int32))] [])) _
  refine OGo.step (fun _ kk => XS.aloadN X245.here hx rfl (hb hby own_d_jdk_52_method_5_code_32) rfl rfl kk) ?_
  show OGo p e below (T245.setTop (mkF m 33 #[.val (.ref u), .val (.int (0 : Int32))] [(.ref u)])) _
  refine OGo.step (fun _ kk => XS.iloadN X245.here hx rfl (hb hby own_d_jdk_52_method_5_code_33) rfl kk) ?_
  show OGo p e below (T245.setTop (mkF m 34 #[.val (.ref u), .val (.int (0 : Int32))] [(.int (0 : Int32)), (.ref u)])) _
  refine OGo.step (fun _ kk => XS.iinc X245.here hx rfl (hb hby own_d_jdk_52_method_5_code_34) rfl (l' := #[.val (.ref u), .val (.int ((0 : Int32) + (1 : Int32)))]) rfl kk) ?_
  show OGo p e below (T245.setTop (mkF m 37 #[.val (.ref u), .val (.int ((0 : Int32) + (1 : Int32)))] [(.int (0 : Int32)), (.ref u)])) _
  show OGo p e below (T245.setTop (mkF m 37 #[.val (.ref u), .val (.int (1 : Int32))] [(.int (0 : Int32)), (.ref u)])) _
  refine OGo.step (fun _ kk => X245.baloadBytes hx (j := (0 : Int32)) (v := (.int x)) (by rw [e245]; exact (Au).1) (State.isArrayOf_alike hZ.alike (Au).2.1) (Au).2.2 (inb_of Su ⟨by decide, hN0⟩) (by rw [← g0]; exact Hu 0 (by rw [Su]; exact hb0)) (g := (mkF m 37 #[.val (.ref u), .val (.int (1 : Int32))] [(.int (0 : Int32)), (.ref u)])) rfl rfl (hb hby own_d_jdk_52_method_5_code_37) _ kk) ?_
  show OGo p e below (T245.setTop (mkF m 38 #[.val (.ref u), .val (.int (1 : Int32))] [(.int x)])) _
  refine OGo.step (fun _ kk => XS.sipush X245.here hx rfl (hb hby own_d_jdk_52_method_5_code_38) kk) ?_
  show OGo p e below (T245.setTop (mkF m 41 #[.val (.ref u), .val (.int (1 : Int32))] [(.int (255 : Int32)), (.int x)])) _
  refine OGo.step (fun _ kk => XS.iand X245.here hx rfl (hb hby own_d_jdk_52_method_5_code_41) rfl kk) ?_
  show OGo p e below (T245.setTop (mkF m 42 #[.val (.ref u), .val (.int (1 : Int32))] [(.int (x &&& (255 : Int32)))])) _
  obtain ⟨T246, X246, e246, st246⟩ := getS2 X245 hx hZ hown (host := "") (Or.inl (hw _ (List.mem_of_getElem? (i := 104) rfl))) Via.refl e245 SH (g := (mkF m 42 #[.val (.ref u), .val (.int (1 : Int32))] [(.int (x &&& (255 : Int32)))])) rfl (hb hby own_d_jdk_52_method_5_code_42)
  refine OGo.step st246 ?_
  show OGo p e below (T246.setTop (mkF m 45 #[.val (.ref u), .val (.int (1 : Int32))] [(.int (0 : Int32)), (.int (x &&& (255 : Int32)))])) _
  refine OGo.step (fun _ kk => XS.ishl X246.here hx rfl (hb hby own_d_jdk_52_method_5_code_45) rfl kk) ?_
  show OGo p e below (T246.setTop (mkF m 46 #[.val (.ref u), .val (.int (1 : Int32))] [(.int ((x &&& (255 : Int32)) <<< ((0 : Int32) &&& 31)))])) _
  refine OGo.step (fun _ kk => XS.aloadN X246.here hx rfl (hb hby own_d_jdk_52_method_5_code_46) rfl rfl kk) ?_
  show OGo p e below (T246.setTop (mkF m 47 #[.val (.ref u), .val (.int (1 : Int32))] [(.ref u), (.int ((x &&& (255 : Int32)) <<< ((0 : Int32) &&& 31)))])) _
  refine OGo.step (fun _ kk => XS.iloadN X246.here hx rfl (hb hby own_d_jdk_52_method_5_code_47) rfl kk) ?_
  show OGo p e below (T246.setTop (mkF m 48 #[.val (.ref u), .val (.int (1 : Int32))] [(.int (1 : Int32)), (.ref u), (.int ((x &&& (255 : Int32)) <<< ((0 : Int32) &&& 31)))])) _
  refine OGo.step (fun _ kk => X246.baloadBytes hx (j := (1 : Int32)) (v := (.int y)) (by rw [e246]; exact (Au).1) (State.isArrayOf_alike hZ.alike (Au).2.1) (Au).2.2 (inb_of Su ⟨by decide, hN1⟩) (by rw [← g1]; exact Hu 1 (by rw [Su]; exact hb1)) (g := (mkF m 48 #[.val (.ref u), .val (.int (1 : Int32))] [(.int (1 : Int32)), (.ref u), (.int ((x &&& (255 : Int32)) <<< ((0 : Int32) &&& 31)))])) rfl rfl (hb hby own_d_jdk_52_method_5_code_48) _ kk) ?_
  show OGo p e below (T246.setTop (mkF m 49 #[.val (.ref u), .val (.int (1 : Int32))] [(.int y), (.int ((x &&& (255 : Int32)) <<< ((0 : Int32) &&& 31)))])) _
  refine OGo.step (fun _ kk => XS.sipush X246.here hx rfl (hb hby own_d_jdk_52_method_5_code_49) kk) ?_
  show OGo p e below (T246.setTop (mkF m 52 #[.val (.ref u), .val (.int (1 : Int32))] [(.int (255 : Int32)), (.int y), (.int ((x &&& (255 : Int32)) <<< ((0 : Int32) &&& 31)))])) _
  refine OGo.step (fun _ kk => XS.iand X246.here hx rfl (hb hby own_d_jdk_52_method_5_code_52) rfl kk) ?_
  show OGo p e below (T246.setTop (mkF m 53 #[.val (.ref u), .val (.int (1 : Int32))] [(.int (y &&& (255 : Int32))), (.int ((x &&& (255 : Int32)) <<< ((0 : Int32) &&& 31)))])) _
  obtain ⟨T247, X247, e247, st247⟩ := getS2 X246 hx hZ hown (host := "") (Or.inl (hw _ (List.mem_of_getElem? (i := 105) rfl))) Via.refl e246 SL (g := (mkF m 53 #[.val (.ref u), .val (.int (1 : Int32))] [(.int (y &&& (255 : Int32))), (.int ((x &&& (255 : Int32)) <<< ((0 : Int32) &&& 31)))])) rfl (hb hby own_d_jdk_52_method_5_code_53)
  refine OGo.step st247 ?_
  show OGo p e below (T247.setTop (mkF m 56 #[.val (.ref u), .val (.int (1 : Int32))] [(.int (8 : Int32)), (.int (y &&& (255 : Int32))), (.int ((x &&& (255 : Int32)) <<< ((0 : Int32) &&& 31)))])) _
  refine OGo.step (fun _ kk => XS.ishl X247.here hx rfl (hb hby own_d_jdk_52_method_5_code_56) rfl kk) ?_
  show OGo p e below (T247.setTop (mkF m 57 #[.val (.ref u), .val (.int (1 : Int32))] [(.int ((y &&& (255 : Int32)) <<< ((8 : Int32) &&& 31))), (.int ((x &&& (255 : Int32)) <<< ((0 : Int32) &&& 31)))])) _
  refine OGo.step (fun _ kk => XS.ior X247.here hx rfl (hb hby own_d_jdk_52_method_5_code_57) rfl kk) ?_
  show OGo p e below (T247.setTop (mkF m 58 #[.val (.ref u), .val (.int (1 : Int32))] [(.int (((x &&& (255 : Int32)) <<< ((0 : Int32) &&& 31)) ||| ((y &&& (255 : Int32)) <<< ((8 : Int32) &&& 31))))])) _
  refine OGo.step (fun _ kk => XS.i2c X247.here hx rfl (hb hby own_d_jdk_52_method_5_code_58) rfl kk) ?_
  show OGo p e below (T247.setTop (mkF m 59 #[.val (.ref u), .val (.int (1 : Int32))] [(.int ((((x &&& (255 : Int32)) <<< ((0 : Int32) &&& 31)) ||| ((y &&& (255 : Int32)) <<< ((8 : Int32) &&& 31))).toUInt32.toUInt16.toUInt32.toInt32))])) _
  exact own_retN X247 hx hlk hret (by simp) (hb hby own_d_jdk_52_method_5_code_59) ⟨congrArg (fun z => some (Value.int z)) (own_narcc _), Fr.nil n0, e247⟩ (by decide) (by decide)

set_option maxRecDepth 65536 in
set_option maxHeartbeats 40000000 in
theorem own_putc1 (l : Launch) (Z : State) (a0 : Array Value) (hw : ∀ d ∈ tables_1, d.before a0 Z = true) (ws : List Jvm.Cond) (u : Addr) (kb : ClassId) (N : Int32) (vs : List Value) (ch : Int32) (h0 : Heap) (n0 : Nat) (Z0 : n0 ≤ h0.size) (SA : Sta Z h0 "java/lang/StringUTF16" "$assertionsDisabled" "Z" (.int (1 : Int32))) (SH : Sta Z h0 "java/lang/StringUTF16" "HI_BYTE_SHIFT" "I" (.int (0 : Int32))) (SL : Sta Z h0 "java/lang/StringUTF16" "LO_BYTE_SHIFT" "I" (.int (8 : Int32))) (gu : n0 ≤ u) (Vu : Arv Z h0 u kb .byte N vs (.int (0 : Int32))) (hl : 3 < vs.length) (hN0 : (2 : Int32) < N) (hN1 : (3 : Int32) < N) :
    OMet l Z (⟨"java/lang/StringUTF16", "putChar", "([BII)V"⟩ : MethodName) jdk_52_method_4_code 3 none ws ({ frames := 0, cells := 0, slots := 0, locals := 0 } : Room) #[(.ref u), (.int (1 : Int32)), (.int ch)] h0 (fun v h L => v = none ∧ Fr n0 L ∧ Keep h0 h [u] ∧ Arv Z h u kb .byte N ((vs.set 2 (.int (StrChars.lo8 ch))).set 3 (.int (StrChars.hi8 ch))) (.int (0 : Int32))) := by
  refine OMet.body (plainFor_of_name own_pn4) ?_
  intro p e s m below meth c s₁ hx hby hml hown hnm hret hlk hZ X0 e0
  refine OGo.step (fun _ kk => castTop (show entryFrame m #[(.ref u), (.int (1 : Int32)), (.int ch)] 3 = (mkF m 0 #[.val (.ref u), .val (.int (1 : Int32)), .val (.int ch)] []) from by first | (simp [entryFrame, mkF, argsToLocals, Value.category]; done) | rfl) kk) ?_
  show OGo p e below (s₁.setTop (mkF m 0 #[.val (.ref u), .val (.int (1 : Int32)), .val (.int ch)] [])) _
  obtain ⟨T248, X248, e248, st248⟩ := getS2 X0 hx hZ hown (host := "") (Or.inl (hw _ (List.mem_of_getElem? (i := 103) rfl))) Via.refl e0 SA (g := (mkF m 0 #[.val (.ref u), .val (.int (1 : Int32)), .val (.int ch)] [])) rfl (hb hby own_d_jdk_52_method_4_code_0)
  refine OGo.step st248 ?_
  show OGo p e below (T248.setTop (mkF m 3 #[.val (.ref u), .val (.int (1 : Int32)), .val (.int ch)] [(.int (1 : Int32))])) _
  refine OGo.step (fun _ kk => XS.ifYes X248.here hx rfl (pc0 := 3) (pc' := 28) rfl (hb hby own_d_jdk_52_method_4_code_3) rfl ((if0 _ _).trans (feq (by decide)).2) (by decide) (by decide) kk) ?_
  show OGo p e below (T248.setTop (mkF m 28 #[.val (.ref u), .val (.int (1 : Int32)), .val (.int ch)] [])) _
  refine OGo.step (fun _ kk => XS.iloadN X248.here hx rfl (hb hby own_d_jdk_52_method_4_code_28) rfl kk) ?_
  show OGo p e below (T248.setTop (mkF m 29 #[.val (.ref u), .val (.int (1 : Int32)), .val (.int ch)] [(.int (1 : Int32))])) _
  refine OGo.step (fun _ kk => XS.iconst X248.here hx rfl (hb hby own_d_jdk_52_method_4_code_29) kk) ?_
  show OGo p e below (T248.setTop (mkF m 30 #[.val (.ref u), .val (.int (1 : Int32)), .val (.int ch)] [(.int (1 : Int32)), (.int (1 : Int32))])) _
  refine OGo.step (fun _ kk => XS.ishl X248.here hx rfl (hb hby own_d_jdk_52_method_4_code_30) rfl kk) ?_
  show OGo p e below (T248.setTop (mkF m 31 #[.val (.ref u), .val (.int (1 : Int32)), .val (.int ch)] [(.int ((1 : Int32) <<< ((1 : Int32) &&& 31)))])) _
  refine OGo.step (fun _ kk => XS.istoreN X248.here hx rfl (hb hby own_d_jdk_52_method_4_code_31) rfl (l' := #[.val (.ref u), .val (.int ((1 : Int32) <<< ((1 : Int32) &&& 31))), .val (.int ch)]) rfl kk) ?_
  show OGo p e below (T248.setTop (mkF m 32 #[.val (.ref u), .val (.int ((1 : Int32) <<< ((1 : Int32) &&& 31))), .val (.int ch)] [])) _
  show OGo p e below (T248.setTop (mkF m 32 #[.val (.ref u), .val (.int (2 : Int32)), .val (.int ch)] [])) _
  refine OGo.step (fun _ kk => XS.aloadN X248.here hx rfl (hb hby own_d_jdk_52_method_4_code_32) rfl rfl kk) ?_
  show OGo p e below (T248.setTop (mkF m 33 #[.val (.ref u), .val (.int (2 : Int32)), .val (.int ch)] [(.ref u)])) _
  refine OGo.step (fun _ kk => XS.iloadN X248.here hx rfl (hb hby own_d_jdk_52_method_4_code_33) rfl kk) ?_
  show OGo p e below (T248.setTop (mkF m 34 #[.val (.ref u), .val (.int (2 : Int32)), .val (.int ch)] [(.int (2 : Int32)), (.ref u)])) _
  refine OGo.step (fun _ kk => XS.iinc X248.here hx rfl (hb hby own_d_jdk_52_method_4_code_34) rfl (l' := #[.val (.ref u), .val (.int ((2 : Int32) + (1 : Int32))), .val (.int ch)]) rfl kk) ?_
  show OGo p e below (T248.setTop (mkF m 37 #[.val (.ref u), .val (.int ((2 : Int32) + (1 : Int32))), .val (.int ch)] [(.int (2 : Int32)), (.ref u)])) _
  show OGo p e below (T248.setTop (mkF m 37 #[.val (.ref u), .val (.int (3 : Int32)), .val (.int ch)] [(.int (2 : Int32)), (.ref u)])) _
  refine OGo.step (fun _ kk => XS.iloadN X248.here hx rfl (hb hby own_d_jdk_52_method_4_code_37) rfl kk) ?_
  show OGo p e below (T248.setTop (mkF m 38 #[.val (.ref u), .val (.int (3 : Int32)), .val (.int ch)] [(.int ch), (.int (2 : Int32)), (.ref u)])) _
  obtain ⟨T249, X249, e249, st249⟩ := getS2 X248 hx hZ hown (host := "") (Or.inl (hw _ (List.mem_of_getElem? (i := 104) rfl))) Via.refl e248 SH (g := (mkF m 38 #[.val (.ref u), .val (.int (3 : Int32)), .val (.int ch)] [(.int ch), (.int (2 : Int32)), (.ref u)])) rfl (hb hby own_d_jdk_52_method_4_code_38)
  refine OGo.step st249 ?_
  show OGo p e below (T249.setTop (mkF m 41 #[.val (.ref u), .val (.int (3 : Int32)), .val (.int ch)] [(.int (0 : Int32)), (.int ch), (.int (2 : Int32)), (.ref u)])) _
  refine OGo.step (fun _ kk => XS.ishr X249.here hx rfl (hb hby own_d_jdk_52_method_4_code_41) rfl kk) ?_
  show OGo p e below (T249.setTop (mkF m 42 #[.val (.ref u), .val (.int (3 : Int32)), .val (.int ch)] [(.int (ch >>> ((0 : Int32) &&& 31))), (.int (2 : Int32)), (.ref u)])) _
  refine OGo.step (fun _ kk => XS.i2b X249.here hx rfl (hb hby own_d_jdk_52_method_4_code_42) rfl kk) ?_
  show OGo p e below (T249.setTop (mkF m 43 #[.val (.ref u), .val (.int (3 : Int32)), .val (.int ch)] [(.int ((ch >>> ((0 : Int32) &&& 31)).toInt8.toInt32)), (.int (2 : Int32)), (.ref u)])) _
  obtain ⟨cA250, A250, q250, S250, M250, H250, G250⟩ := id Vu
  obtain ⟨T251, h251, X251, e251, W251, st251⟩ := stB X249 hx hZ e249 A250 (j := (2 : Int32)) (inb_of S250 ⟨by decide, hN0⟩) (g := (mkF m 43 #[.val (.ref u), .val (.int (3 : Int32)), .val (.int ch)] [(.int ((ch >>> ((0 : Int32) &&& 31)).toInt8.toInt32)), (.int (2 : Int32)), (.ref u)])) rfl rfl (hb hby own_d_jdk_52_method_4_code_43)
  refine OGo.step st251 ?_
  show OGo p e below (T251.setTop (mkF m 44 #[.val (.ref u), .val (.int (3 : Int32)), .val (.int ch)] [])) _
  have Va250 : Arv Z h251 u kb .byte N (vs.set 2 (.int (StrChars.lo8 ch))) (.int (0 : Int32)) := by rw [← (own_lo ch)]; exact Arv.set A250 q250 S250 M250 H250 G250 (fits_nar_byte _) W251 2 rfl (Nat.lt_of_succ_lt hl)
  have Nf251 := Fr.snoc X251 (Fr.nil n0) gu
  have sz251 : n0 ≤ h251.size := by rw [W251.size]; exact Z0
  refine OGo.step (fun _ kk => XS.aloadN X251.here hx rfl (hb hby own_d_jdk_52_method_4_code_44) rfl rfl kk) ?_
  show OGo p e below (T251.setTop (mkF m 45 #[.val (.ref u), .val (.int (3 : Int32)), .val (.int ch)] [(.ref u)])) _
  refine OGo.step (fun _ kk => XS.iloadN X251.here hx rfl (hb hby own_d_jdk_52_method_4_code_45) rfl kk) ?_
  show OGo p e below (T251.setTop (mkF m 46 #[.val (.ref u), .val (.int (3 : Int32)), .val (.int ch)] [(.int (3 : Int32)), (.ref u)])) _
  refine OGo.step (fun _ kk => XS.iloadN X251.here hx rfl (hb hby own_d_jdk_52_method_4_code_46) rfl kk) ?_
  show OGo p e below (T251.setTop (mkF m 47 #[.val (.ref u), .val (.int (3 : Int32)), .val (.int ch)] [(.int ch), (.int (3 : Int32)), (.ref u)])) _
  have fc252 := (SL.wr W251)
  obtain ⟨T253, X253, e253, st253⟩ := getS2 X251 hx hZ hown (host := "") (Or.inl (hw _ (List.mem_of_getElem? (i := 105) rfl))) Via.refl e251 fc252 (g := (mkF m 47 #[.val (.ref u), .val (.int (3 : Int32)), .val (.int ch)] [(.int ch), (.int (3 : Int32)), (.ref u)])) rfl (hb hby own_d_jdk_52_method_4_code_47)
  refine OGo.step st253 ?_
  show OGo p e below (T253.setTop (mkF m 50 #[.val (.ref u), .val (.int (3 : Int32)), .val (.int ch)] [(.int (8 : Int32)), (.int ch), (.int (3 : Int32)), (.ref u)])) _
  refine OGo.step (fun _ kk => XS.ishr X253.here hx rfl (hb hby own_d_jdk_52_method_4_code_50) rfl kk) ?_
  show OGo p e below (T253.setTop (mkF m 51 #[.val (.ref u), .val (.int (3 : Int32)), .val (.int ch)] [(.int (ch >>> ((8 : Int32) &&& 31))), (.int (3 : Int32)), (.ref u)])) _
  refine OGo.step (fun _ kk => XS.i2b X253.here hx rfl (hb hby own_d_jdk_52_method_4_code_51) rfl kk) ?_
  show OGo p e below (T253.setTop (mkF m 52 #[.val (.ref u), .val (.int (3 : Int32)), .val (.int ch)] [(.int ((ch >>> ((8 : Int32) &&& 31)).toInt8.toInt32)), (.int (3 : Int32)), (.ref u)])) _
  obtain ⟨cA254, A254, q254, S254, M254, H254, G254⟩ := id Va250
  obtain ⟨T255, h255, X255, e255, W255, st255⟩ := stB X253 hx hZ e253 A254 (j := (3 : Int32)) (inb_of S254 ⟨by decide, hN1⟩) (g := (mkF m 52 #[.val (.ref u), .val (.int (3 : Int32)), .val (.int ch)] [(.int ((ch >>> ((8 : Int32) &&& 31)).toInt8.toInt32)), (.int (3 : Int32)), (.ref u)])) rfl rfl (hb hby own_d_jdk_52_method_4_code_52)
  refine OGo.step st255 ?_
  show OGo p e below (T255.setTop (mkF m 53 #[.val (.ref u), .val (.int (3 : Int32)), .val (.int ch)] [])) _
  have Va254 : Arv Z h255 u kb .byte N ((vs.set 2 (.int (StrChars.lo8 ch))).set 3 (.int (StrChars.hi8 ch))) (.int (0 : Int32)) := by rw [← (own_hi ch)]; exact Arv.set A254 q254 S254 M254 H254 G254 (fits_nar_byte _) W255 3 rfl (by rw [List.length_set]; exact hl)
  have Nf255 := Fr.snoc X255 Nf251 gu
  have sz255 : n0 ≤ h255.size := by rw [W255.size]; exact sz251
  have HK := (((Keep.refl h0 [u]).wr W251 (Or.inl (List.mem_of_getElem? (i := 0) rfl))).wr W255 (Or.inl (List.mem_of_getElem? (i := 0) rfl)))
  exact own_ret0 X255 hx hlk hret (hb hby own_d_jdk_52_method_4_code_53) (by rw [e255]; exact ⟨rfl, Nf255, HK, Va254⟩) (by decide) (by decide)

set_option maxRecDepth 65536 in
set_option maxHeartbeats 40000000 in
theorem own_getc1 (l : Launch) (Z : State) (a0 : Array Value) (hw : ∀ d ∈ tables_1, d.before a0 Z = true) (ws : List Jvm.Cond) (u : Addr) (kb : ClassId) (N : Int32) (vs : List Value) (x y : Int32) (h0 : Heap) (n0 : Nat) (Z0 : n0 ≤ h0.size) (SA : Sta Z h0 "java/lang/StringUTF16" "$assertionsDisabled" "Z" (.int (1 : Int32))) (SH : Sta Z h0 "java/lang/StringUTF16" "HI_BYTE_SHIFT" "I" (.int (0 : Int32))) (SL : Sta Z h0 "java/lang/StringUTF16" "LO_BYTE_SHIFT" "I" (.int (8 : Int32))) (Vu : Arv Z h0 u kb .byte N vs (.int (0 : Int32))) (hN0 : (2 : Int32) < N) (hN1 : (3 : Int32) < N) (hb0 : 2 < N.toNatClampNeg) (hb1 : 3 < N.toNatClampNeg) (g0 : vs.getD 2 (.int (0 : Int32)) = .int x) (g1 : vs.getD 3 (.int (0 : Int32)) = .int y) :
    OMet l Z (⟨"java/lang/StringUTF16", "getChar", "([BI)C"⟩ : MethodName) jdk_52_method_5_code 2 (some .char) ws ({ frames := 0, cells := 0, slots := 0, locals := 0 } : Room) #[(.ref u), (.int (1 : Int32))] h0 (fun v h L => v = some (.int (StrChars.pairCh x y)) ∧ Fr n0 L ∧ h = h0) := by
  refine OMet.body (plainFor_of_name own_pn4) ?_
  intro p e s m below meth c s₁ hx hby hml hown hnm hret hlk hZ X0 e0
  refine OGo.step (fun _ kk => castTop (show entryFrame m #[(.ref u), (.int (1 : Int32))] 2 = (mkF m 0 #[.val (.ref u), .val (.int (1 : Int32))] []) from by first | (simp [entryFrame, mkF, argsToLocals, Value.category]; done) | rfl) kk) ?_
  show OGo p e below (s₁.setTop (mkF m 0 #[.val (.ref u), .val (.int (1 : Int32))] [])) _
  obtain ⟨cu, Au, qu, Su, Mu, Hu, Gu⟩ := id Vu
  obtain ⟨T256, X256, e256, st256⟩ := getS2 X0 hx hZ hown (host := "") (Or.inl (hw _ (List.mem_of_getElem? (i := 103) rfl))) Via.refl e0 SA (g := (mkF m 0 #[.val (.ref u), .val (.int (1 : Int32))] [])) rfl (hb hby own_d_jdk_52_method_5_code_0)
  refine OGo.step st256 ?_
  show OGo p e below (T256.setTop (mkF m 3 #[.val (.ref u), .val (.int (1 : Int32))] [(.int (1 : Int32))])) _
  refine OGo.step (fun _ kk => XS.ifYes X256.here hx rfl (pc0 := 3) (pc' := 28) rfl (hb hby own_d_jdk_52_method_5_code_3) rfl ((if0 _ _).trans (feq (by decide)).2) (by decide) (by decide) kk) ?_
  show OGo p e below (T256.setTop (mkF m 28 #[.val (.ref u), .val (.int (1 : Int32))] [])) _
  refine OGo.step (fun _ kk => XS.iloadN X256.here hx rfl (hb hby own_d_jdk_52_method_5_code_28) rfl kk) ?_
  show OGo p e below (T256.setTop (mkF m 29 #[.val (.ref u), .val (.int (1 : Int32))] [(.int (1 : Int32))])) _
  refine OGo.step (fun _ kk => XS.iconst X256.here hx rfl (hb hby own_d_jdk_52_method_5_code_29) kk) ?_
  show OGo p e below (T256.setTop (mkF m 30 #[.val (.ref u), .val (.int (1 : Int32))] [(.int (1 : Int32)), (.int (1 : Int32))])) _
  refine OGo.step (fun _ kk => XS.ishl X256.here hx rfl (hb hby own_d_jdk_52_method_5_code_30) rfl kk) ?_
  show OGo p e below (T256.setTop (mkF m 31 #[.val (.ref u), .val (.int (1 : Int32))] [(.int ((1 : Int32) <<< ((1 : Int32) &&& 31)))])) _
  refine OGo.step (fun _ kk => XS.istoreN X256.here hx rfl (hb hby own_d_jdk_52_method_5_code_31) rfl (l' := #[.val (.ref u), .val (.int ((1 : Int32) <<< ((1 : Int32) &&& 31)))]) rfl kk) ?_
  show OGo p e below (T256.setTop (mkF m 32 #[.val (.ref u), .val (.int ((1 : Int32) <<< ((1 : Int32) &&& 31)))] [])) _
  show OGo p e below (T256.setTop (mkF m 32 #[.val (.ref u), .val (.int (2 : Int32))] [])) _
  refine OGo.step (fun _ kk => XS.aloadN X256.here hx rfl (hb hby own_d_jdk_52_method_5_code_32) rfl rfl kk) ?_
  show OGo p e below (T256.setTop (mkF m 33 #[.val (.ref u), .val (.int (2 : Int32))] [(.ref u)])) _
  refine OGo.step (fun _ kk => XS.iloadN X256.here hx rfl (hb hby own_d_jdk_52_method_5_code_33) rfl kk) ?_
  show OGo p e below (T256.setTop (mkF m 34 #[.val (.ref u), .val (.int (2 : Int32))] [(.int (2 : Int32)), (.ref u)])) _
  refine OGo.step (fun _ kk => XS.iinc X256.here hx rfl (hb hby own_d_jdk_52_method_5_code_34) rfl (l' := #[.val (.ref u), .val (.int ((2 : Int32) + (1 : Int32)))]) rfl kk) ?_
  show OGo p e below (T256.setTop (mkF m 37 #[.val (.ref u), .val (.int ((2 : Int32) + (1 : Int32)))] [(.int (2 : Int32)), (.ref u)])) _
  show OGo p e below (T256.setTop (mkF m 37 #[.val (.ref u), .val (.int (3 : Int32))] [(.int (2 : Int32)), (.ref u)])) _
  refine OGo.step (fun _ kk => X256.baloadBytes hx (j := (2 : Int32)) (v := (.int x)) (by rw [e256]; exact (Au).1) (State.isArrayOf_alike hZ.alike (Au).2.1) (Au).2.2 (inb_of Su ⟨by decide, hN0⟩) (by rw [← g0]; exact Hu 2 (by rw [Su]; exact hb0)) (g := (mkF m 37 #[.val (.ref u), .val (.int (3 : Int32))] [(.int (2 : Int32)), (.ref u)])) rfl rfl (hb hby own_d_jdk_52_method_5_code_37) _ kk) ?_
  show OGo p e below (T256.setTop (mkF m 38 #[.val (.ref u), .val (.int (3 : Int32))] [(.int x)])) _
  refine OGo.step (fun _ kk => XS.sipush X256.here hx rfl (hb hby own_d_jdk_52_method_5_code_38) kk) ?_
  show OGo p e below (T256.setTop (mkF m 41 #[.val (.ref u), .val (.int (3 : Int32))] [(.int (255 : Int32)), (.int x)])) _
  refine OGo.step (fun _ kk => XS.iand X256.here hx rfl (hb hby own_d_jdk_52_method_5_code_41) rfl kk) ?_
  show OGo p e below (T256.setTop (mkF m 42 #[.val (.ref u), .val (.int (3 : Int32))] [(.int (x &&& (255 : Int32)))])) _
  obtain ⟨T257, X257, e257, st257⟩ := getS2 X256 hx hZ hown (host := "") (Or.inl (hw _ (List.mem_of_getElem? (i := 104) rfl))) Via.refl e256 SH (g := (mkF m 42 #[.val (.ref u), .val (.int (3 : Int32))] [(.int (x &&& (255 : Int32)))])) rfl (hb hby own_d_jdk_52_method_5_code_42)
  refine OGo.step st257 ?_
  show OGo p e below (T257.setTop (mkF m 45 #[.val (.ref u), .val (.int (3 : Int32))] [(.int (0 : Int32)), (.int (x &&& (255 : Int32)))])) _
  refine OGo.step (fun _ kk => XS.ishl X257.here hx rfl (hb hby own_d_jdk_52_method_5_code_45) rfl kk) ?_
  show OGo p e below (T257.setTop (mkF m 46 #[.val (.ref u), .val (.int (3 : Int32))] [(.int ((x &&& (255 : Int32)) <<< ((0 : Int32) &&& 31)))])) _
  refine OGo.step (fun _ kk => XS.aloadN X257.here hx rfl (hb hby own_d_jdk_52_method_5_code_46) rfl rfl kk) ?_
  show OGo p e below (T257.setTop (mkF m 47 #[.val (.ref u), .val (.int (3 : Int32))] [(.ref u), (.int ((x &&& (255 : Int32)) <<< ((0 : Int32) &&& 31)))])) _
  refine OGo.step (fun _ kk => XS.iloadN X257.here hx rfl (hb hby own_d_jdk_52_method_5_code_47) rfl kk) ?_
  show OGo p e below (T257.setTop (mkF m 48 #[.val (.ref u), .val (.int (3 : Int32))] [(.int (3 : Int32)), (.ref u), (.int ((x &&& (255 : Int32)) <<< ((0 : Int32) &&& 31)))])) _
  refine OGo.step (fun _ kk => X257.baloadBytes hx (j := (3 : Int32)) (v := (.int y)) (by rw [e257]; exact (Au).1) (State.isArrayOf_alike hZ.alike (Au).2.1) (Au).2.2 (inb_of Su ⟨by decide, hN1⟩) (by rw [← g1]; exact Hu 3 (by rw [Su]; exact hb1)) (g := (mkF m 48 #[.val (.ref u), .val (.int (3 : Int32))] [(.int (3 : Int32)), (.ref u), (.int ((x &&& (255 : Int32)) <<< ((0 : Int32) &&& 31)))])) rfl rfl (hb hby own_d_jdk_52_method_5_code_48) _ kk) ?_
  show OGo p e below (T257.setTop (mkF m 49 #[.val (.ref u), .val (.int (3 : Int32))] [(.int y), (.int ((x &&& (255 : Int32)) <<< ((0 : Int32) &&& 31)))])) _
  refine OGo.step (fun _ kk => XS.sipush X257.here hx rfl (hb hby own_d_jdk_52_method_5_code_49) kk) ?_
  show OGo p e below (T257.setTop (mkF m 52 #[.val (.ref u), .val (.int (3 : Int32))] [(.int (255 : Int32)), (.int y), (.int ((x &&& (255 : Int32)) <<< ((0 : Int32) &&& 31)))])) _
  refine OGo.step (fun _ kk => XS.iand X257.here hx rfl (hb hby own_d_jdk_52_method_5_code_52) rfl kk) ?_
  show OGo p e below (T257.setTop (mkF m 53 #[.val (.ref u), .val (.int (3 : Int32))] [(.int (y &&& (255 : Int32))), (.int ((x &&& (255 : Int32)) <<< ((0 : Int32) &&& 31)))])) _
  obtain ⟨T258, X258, e258, st258⟩ := getS2 X257 hx hZ hown (host := "") (Or.inl (hw _ (List.mem_of_getElem? (i := 105) rfl))) Via.refl e257 SL (g := (mkF m 53 #[.val (.ref u), .val (.int (3 : Int32))] [(.int (y &&& (255 : Int32))), (.int ((x &&& (255 : Int32)) <<< ((0 : Int32) &&& 31)))])) rfl (hb hby own_d_jdk_52_method_5_code_53)
  refine OGo.step st258 ?_
  show OGo p e below (T258.setTop (mkF m 56 #[.val (.ref u), .val (.int (3 : Int32))] [(.int (8 : Int32)), (.int (y &&& (255 : Int32))), (.int ((x &&& (255 : Int32)) <<< ((0 : Int32) &&& 31)))])) _
  refine OGo.step (fun _ kk => XS.ishl X258.here hx rfl (hb hby own_d_jdk_52_method_5_code_56) rfl kk) ?_
  show OGo p e below (T258.setTop (mkF m 57 #[.val (.ref u), .val (.int (3 : Int32))] [(.int ((y &&& (255 : Int32)) <<< ((8 : Int32) &&& 31))), (.int ((x &&& (255 : Int32)) <<< ((0 : Int32) &&& 31)))])) _
  refine OGo.step (fun _ kk => XS.ior X258.here hx rfl (hb hby own_d_jdk_52_method_5_code_57) rfl kk) ?_
  show OGo p e below (T258.setTop (mkF m 58 #[.val (.ref u), .val (.int (3 : Int32))] [(.int (((x &&& (255 : Int32)) <<< ((0 : Int32) &&& 31)) ||| ((y &&& (255 : Int32)) <<< ((8 : Int32) &&& 31))))])) _
  refine OGo.step (fun _ kk => XS.i2c X258.here hx rfl (hb hby own_d_jdk_52_method_5_code_58) rfl kk) ?_
  show OGo p e below (T258.setTop (mkF m 59 #[.val (.ref u), .val (.int (3 : Int32))] [(.int ((((x &&& (255 : Int32)) <<< ((0 : Int32) &&& 31)) ||| ((y &&& (255 : Int32)) <<< ((8 : Int32) &&& 31))).toUInt32.toUInt16.toUInt32.toInt32))])) _
  exact own_retN X258 hx hlk hret (by simp) (hb hby own_d_jdk_52_method_5_code_59) ⟨congrArg (fun z => some (Value.int z)) (own_narcc _), Fr.nil n0, e258⟩ (by decide) (by decide)

set_option maxRecDepth 65536 in
set_option maxHeartbeats 40000000 in
theorem own_putc2 (l : Launch) (Z : State) (a0 : Array Value) (hw : ∀ d ∈ tables_1, d.before a0 Z = true) (ws : List Jvm.Cond) (u : Addr) (kb : ClassId) (N : Int32) (vs : List Value) (ch : Int32) (h0 : Heap) (n0 : Nat) (Z0 : n0 ≤ h0.size) (SA : Sta Z h0 "java/lang/StringUTF16" "$assertionsDisabled" "Z" (.int (1 : Int32))) (SH : Sta Z h0 "java/lang/StringUTF16" "HI_BYTE_SHIFT" "I" (.int (0 : Int32))) (SL : Sta Z h0 "java/lang/StringUTF16" "LO_BYTE_SHIFT" "I" (.int (8 : Int32))) (gu : n0 ≤ u) (Vu : Arv Z h0 u kb .byte N vs (.int (0 : Int32))) (hl : 5 < vs.length) (hN0 : (4 : Int32) < N) (hN1 : (5 : Int32) < N) :
    OMet l Z (⟨"java/lang/StringUTF16", "putChar", "([BII)V"⟩ : MethodName) jdk_52_method_4_code 3 none ws ({ frames := 0, cells := 0, slots := 0, locals := 0 } : Room) #[(.ref u), (.int (2 : Int32)), (.int ch)] h0 (fun v h L => v = none ∧ Fr n0 L ∧ Keep h0 h [u] ∧ Arv Z h u kb .byte N ((vs.set 4 (.int (StrChars.lo8 ch))).set 5 (.int (StrChars.hi8 ch))) (.int (0 : Int32))) := by
  refine OMet.body (plainFor_of_name own_pn4) ?_
  intro p e s m below meth c s₁ hx hby hml hown hnm hret hlk hZ X0 e0
  refine OGo.step (fun _ kk => castTop (show entryFrame m #[(.ref u), (.int (2 : Int32)), (.int ch)] 3 = (mkF m 0 #[.val (.ref u), .val (.int (2 : Int32)), .val (.int ch)] []) from by first | (simp [entryFrame, mkF, argsToLocals, Value.category]; done) | rfl) kk) ?_
  show OGo p e below (s₁.setTop (mkF m 0 #[.val (.ref u), .val (.int (2 : Int32)), .val (.int ch)] [])) _
  obtain ⟨T259, X259, e259, st259⟩ := getS2 X0 hx hZ hown (host := "") (Or.inl (hw _ (List.mem_of_getElem? (i := 103) rfl))) Via.refl e0 SA (g := (mkF m 0 #[.val (.ref u), .val (.int (2 : Int32)), .val (.int ch)] [])) rfl (hb hby own_d_jdk_52_method_4_code_0)
  refine OGo.step st259 ?_
  show OGo p e below (T259.setTop (mkF m 3 #[.val (.ref u), .val (.int (2 : Int32)), .val (.int ch)] [(.int (1 : Int32))])) _
  refine OGo.step (fun _ kk => XS.ifYes X259.here hx rfl (pc0 := 3) (pc' := 28) rfl (hb hby own_d_jdk_52_method_4_code_3) rfl ((if0 _ _).trans (feq (by decide)).2) (by decide) (by decide) kk) ?_
  show OGo p e below (T259.setTop (mkF m 28 #[.val (.ref u), .val (.int (2 : Int32)), .val (.int ch)] [])) _
  refine OGo.step (fun _ kk => XS.iloadN X259.here hx rfl (hb hby own_d_jdk_52_method_4_code_28) rfl kk) ?_
  show OGo p e below (T259.setTop (mkF m 29 #[.val (.ref u), .val (.int (2 : Int32)), .val (.int ch)] [(.int (2 : Int32))])) _
  refine OGo.step (fun _ kk => XS.iconst X259.here hx rfl (hb hby own_d_jdk_52_method_4_code_29) kk) ?_
  show OGo p e below (T259.setTop (mkF m 30 #[.val (.ref u), .val (.int (2 : Int32)), .val (.int ch)] [(.int (1 : Int32)), (.int (2 : Int32))])) _
  refine OGo.step (fun _ kk => XS.ishl X259.here hx rfl (hb hby own_d_jdk_52_method_4_code_30) rfl kk) ?_
  show OGo p e below (T259.setTop (mkF m 31 #[.val (.ref u), .val (.int (2 : Int32)), .val (.int ch)] [(.int ((2 : Int32) <<< ((1 : Int32) &&& 31)))])) _
  refine OGo.step (fun _ kk => XS.istoreN X259.here hx rfl (hb hby own_d_jdk_52_method_4_code_31) rfl (l' := #[.val (.ref u), .val (.int ((2 : Int32) <<< ((1 : Int32) &&& 31))), .val (.int ch)]) rfl kk) ?_
  show OGo p e below (T259.setTop (mkF m 32 #[.val (.ref u), .val (.int ((2 : Int32) <<< ((1 : Int32) &&& 31))), .val (.int ch)] [])) _
  show OGo p e below (T259.setTop (mkF m 32 #[.val (.ref u), .val (.int (4 : Int32)), .val (.int ch)] [])) _
  refine OGo.step (fun _ kk => XS.aloadN X259.here hx rfl (hb hby own_d_jdk_52_method_4_code_32) rfl rfl kk) ?_
  show OGo p e below (T259.setTop (mkF m 33 #[.val (.ref u), .val (.int (4 : Int32)), .val (.int ch)] [(.ref u)])) _
  refine OGo.step (fun _ kk => XS.iloadN X259.here hx rfl (hb hby own_d_jdk_52_method_4_code_33) rfl kk) ?_
  show OGo p e below (T259.setTop (mkF m 34 #[.val (.ref u), .val (.int (4 : Int32)), .val (.int ch)] [(.int (4 : Int32)), (.ref u)])) _
  refine OGo.step (fun _ kk => XS.iinc X259.here hx rfl (hb hby own_d_jdk_52_method_4_code_34) rfl (l' := #[.val (.ref u), .val (.int ((4 : Int32) + (1 : Int32))), .val (.int ch)]) rfl kk) ?_
  show OGo p e below (T259.setTop (mkF m 37 #[.val (.ref u), .val (.int ((4 : Int32) + (1 : Int32))), .val (.int ch)] [(.int (4 : Int32)), (.ref u)])) _
  show OGo p e below (T259.setTop (mkF m 37 #[.val (.ref u), .val (.int (5 : Int32)), .val (.int ch)] [(.int (4 : Int32)), (.ref u)])) _
  refine OGo.step (fun _ kk => XS.iloadN X259.here hx rfl (hb hby own_d_jdk_52_method_4_code_37) rfl kk) ?_
  show OGo p e below (T259.setTop (mkF m 38 #[.val (.ref u), .val (.int (5 : Int32)), .val (.int ch)] [(.int ch), (.int (4 : Int32)), (.ref u)])) _
  obtain ⟨T260, X260, e260, st260⟩ := getS2 X259 hx hZ hown (host := "") (Or.inl (hw _ (List.mem_of_getElem? (i := 104) rfl))) Via.refl e259 SH (g := (mkF m 38 #[.val (.ref u), .val (.int (5 : Int32)), .val (.int ch)] [(.int ch), (.int (4 : Int32)), (.ref u)])) rfl (hb hby own_d_jdk_52_method_4_code_38)
  refine OGo.step st260 ?_
  show OGo p e below (T260.setTop (mkF m 41 #[.val (.ref u), .val (.int (5 : Int32)), .val (.int ch)] [(.int (0 : Int32)), (.int ch), (.int (4 : Int32)), (.ref u)])) _
  refine OGo.step (fun _ kk => XS.ishr X260.here hx rfl (hb hby own_d_jdk_52_method_4_code_41) rfl kk) ?_
  show OGo p e below (T260.setTop (mkF m 42 #[.val (.ref u), .val (.int (5 : Int32)), .val (.int ch)] [(.int (ch >>> ((0 : Int32) &&& 31))), (.int (4 : Int32)), (.ref u)])) _
  refine OGo.step (fun _ kk => XS.i2b X260.here hx rfl (hb hby own_d_jdk_52_method_4_code_42) rfl kk) ?_
  show OGo p e below (T260.setTop (mkF m 43 #[.val (.ref u), .val (.int (5 : Int32)), .val (.int ch)] [(.int ((ch >>> ((0 : Int32) &&& 31)).toInt8.toInt32)), (.int (4 : Int32)), (.ref u)])) _
  obtain ⟨cA261, A261, q261, S261, M261, H261, G261⟩ := id Vu
  obtain ⟨T262, h262, X262, e262, W262, st262⟩ := stB X260 hx hZ e260 A261 (j := (4 : Int32)) (inb_of S261 ⟨by decide, hN0⟩) (g := (mkF m 43 #[.val (.ref u), .val (.int (5 : Int32)), .val (.int ch)] [(.int ((ch >>> ((0 : Int32) &&& 31)).toInt8.toInt32)), (.int (4 : Int32)), (.ref u)])) rfl rfl (hb hby own_d_jdk_52_method_4_code_43)
  refine OGo.step st262 ?_
  show OGo p e below (T262.setTop (mkF m 44 #[.val (.ref u), .val (.int (5 : Int32)), .val (.int ch)] [])) _
  have Va261 : Arv Z h262 u kb .byte N (vs.set 4 (.int (StrChars.lo8 ch))) (.int (0 : Int32)) := by rw [← (own_lo ch)]; exact Arv.set A261 q261 S261 M261 H261 G261 (fits_nar_byte _) W262 4 rfl (Nat.lt_of_succ_lt hl)
  have Nf262 := Fr.snoc X262 (Fr.nil n0) gu
  have sz262 : n0 ≤ h262.size := by rw [W262.size]; exact Z0
  refine OGo.step (fun _ kk => XS.aloadN X262.here hx rfl (hb hby own_d_jdk_52_method_4_code_44) rfl rfl kk) ?_
  show OGo p e below (T262.setTop (mkF m 45 #[.val (.ref u), .val (.int (5 : Int32)), .val (.int ch)] [(.ref u)])) _
  refine OGo.step (fun _ kk => XS.iloadN X262.here hx rfl (hb hby own_d_jdk_52_method_4_code_45) rfl kk) ?_
  show OGo p e below (T262.setTop (mkF m 46 #[.val (.ref u), .val (.int (5 : Int32)), .val (.int ch)] [(.int (5 : Int32)), (.ref u)])) _
  refine OGo.step (fun _ kk => XS.iloadN X262.here hx rfl (hb hby own_d_jdk_52_method_4_code_46) rfl kk) ?_
  show OGo p e below (T262.setTop (mkF m 47 #[.val (.ref u), .val (.int (5 : Int32)), .val (.int ch)] [(.int ch), (.int (5 : Int32)), (.ref u)])) _
  have fc263 := (SL.wr W262)
  obtain ⟨T264, X264, e264, st264⟩ := getS2 X262 hx hZ hown (host := "") (Or.inl (hw _ (List.mem_of_getElem? (i := 105) rfl))) Via.refl e262 fc263 (g := (mkF m 47 #[.val (.ref u), .val (.int (5 : Int32)), .val (.int ch)] [(.int ch), (.int (5 : Int32)), (.ref u)])) rfl (hb hby own_d_jdk_52_method_4_code_47)
  refine OGo.step st264 ?_
  show OGo p e below (T264.setTop (mkF m 50 #[.val (.ref u), .val (.int (5 : Int32)), .val (.int ch)] [(.int (8 : Int32)), (.int ch), (.int (5 : Int32)), (.ref u)])) _
  refine OGo.step (fun _ kk => XS.ishr X264.here hx rfl (hb hby own_d_jdk_52_method_4_code_50) rfl kk) ?_
  show OGo p e below (T264.setTop (mkF m 51 #[.val (.ref u), .val (.int (5 : Int32)), .val (.int ch)] [(.int (ch >>> ((8 : Int32) &&& 31))), (.int (5 : Int32)), (.ref u)])) _
  refine OGo.step (fun _ kk => XS.i2b X264.here hx rfl (hb hby own_d_jdk_52_method_4_code_51) rfl kk) ?_
  show OGo p e below (T264.setTop (mkF m 52 #[.val (.ref u), .val (.int (5 : Int32)), .val (.int ch)] [(.int ((ch >>> ((8 : Int32) &&& 31)).toInt8.toInt32)), (.int (5 : Int32)), (.ref u)])) _
  obtain ⟨cA265, A265, q265, S265, M265, H265, G265⟩ := id Va261
  obtain ⟨T266, h266, X266, e266, W266, st266⟩ := stB X264 hx hZ e264 A265 (j := (5 : Int32)) (inb_of S265 ⟨by decide, hN1⟩) (g := (mkF m 52 #[.val (.ref u), .val (.int (5 : Int32)), .val (.int ch)] [(.int ((ch >>> ((8 : Int32) &&& 31)).toInt8.toInt32)), (.int (5 : Int32)), (.ref u)])) rfl rfl (hb hby own_d_jdk_52_method_4_code_52)
  refine OGo.step st266 ?_
  show OGo p e below (T266.setTop (mkF m 53 #[.val (.ref u), .val (.int (5 : Int32)), .val (.int ch)] [])) _
  have Va265 : Arv Z h266 u kb .byte N ((vs.set 4 (.int (StrChars.lo8 ch))).set 5 (.int (StrChars.hi8 ch))) (.int (0 : Int32)) := by rw [← (own_hi ch)]; exact Arv.set A265 q265 S265 M265 H265 G265 (fits_nar_byte _) W266 5 rfl (by rw [List.length_set]; exact hl)
  have Nf266 := Fr.snoc X266 Nf262 gu
  have sz266 : n0 ≤ h266.size := by rw [W266.size]; exact sz262
  have HK := (((Keep.refl h0 [u]).wr W262 (Or.inl (List.mem_of_getElem? (i := 0) rfl))).wr W266 (Or.inl (List.mem_of_getElem? (i := 0) rfl)))
  exact own_ret0 X266 hx hlk hret (hb hby own_d_jdk_52_method_4_code_53) (by rw [e266]; exact ⟨rfl, Nf266, HK, Va265⟩) (by decide) (by decide)

set_option maxRecDepth 65536 in
set_option maxHeartbeats 40000000 in
theorem own_getc2 (l : Launch) (Z : State) (a0 : Array Value) (hw : ∀ d ∈ tables_1, d.before a0 Z = true) (ws : List Jvm.Cond) (u : Addr) (kb : ClassId) (N : Int32) (vs : List Value) (x y : Int32) (h0 : Heap) (n0 : Nat) (Z0 : n0 ≤ h0.size) (SA : Sta Z h0 "java/lang/StringUTF16" "$assertionsDisabled" "Z" (.int (1 : Int32))) (SH : Sta Z h0 "java/lang/StringUTF16" "HI_BYTE_SHIFT" "I" (.int (0 : Int32))) (SL : Sta Z h0 "java/lang/StringUTF16" "LO_BYTE_SHIFT" "I" (.int (8 : Int32))) (Vu : Arv Z h0 u kb .byte N vs (.int (0 : Int32))) (hN0 : (4 : Int32) < N) (hN1 : (5 : Int32) < N) (hb0 : 4 < N.toNatClampNeg) (hb1 : 5 < N.toNatClampNeg) (g0 : vs.getD 4 (.int (0 : Int32)) = .int x) (g1 : vs.getD 5 (.int (0 : Int32)) = .int y) :
    OMet l Z (⟨"java/lang/StringUTF16", "getChar", "([BI)C"⟩ : MethodName) jdk_52_method_5_code 2 (some .char) ws ({ frames := 0, cells := 0, slots := 0, locals := 0 } : Room) #[(.ref u), (.int (2 : Int32))] h0 (fun v h L => v = some (.int (StrChars.pairCh x y)) ∧ Fr n0 L ∧ h = h0) := by
  refine OMet.body (plainFor_of_name own_pn4) ?_
  intro p e s m below meth c s₁ hx hby hml hown hnm hret hlk hZ X0 e0
  refine OGo.step (fun _ kk => castTop (show entryFrame m #[(.ref u), (.int (2 : Int32))] 2 = (mkF m 0 #[.val (.ref u), .val (.int (2 : Int32))] []) from by first | (simp [entryFrame, mkF, argsToLocals, Value.category]; done) | rfl) kk) ?_
  show OGo p e below (s₁.setTop (mkF m 0 #[.val (.ref u), .val (.int (2 : Int32))] [])) _
  obtain ⟨cu, Au, qu, Su, Mu, Hu, Gu⟩ := id Vu
  obtain ⟨T267, X267, e267, st267⟩ := getS2 X0 hx hZ hown (host := "") (Or.inl (hw _ (List.mem_of_getElem? (i := 103) rfl))) Via.refl e0 SA (g := (mkF m 0 #[.val (.ref u), .val (.int (2 : Int32))] [])) rfl (hb hby own_d_jdk_52_method_5_code_0)
  refine OGo.step st267 ?_
  show OGo p e below (T267.setTop (mkF m 3 #[.val (.ref u), .val (.int (2 : Int32))] [(.int (1 : Int32))])) _
  refine OGo.step (fun _ kk => XS.ifYes X267.here hx rfl (pc0 := 3) (pc' := 28) rfl (hb hby own_d_jdk_52_method_5_code_3) rfl ((if0 _ _).trans (feq (by decide)).2) (by decide) (by decide) kk) ?_
  show OGo p e below (T267.setTop (mkF m 28 #[.val (.ref u), .val (.int (2 : Int32))] [])) _
  refine OGo.step (fun _ kk => XS.iloadN X267.here hx rfl (hb hby own_d_jdk_52_method_5_code_28) rfl kk) ?_
  show OGo p e below (T267.setTop (mkF m 29 #[.val (.ref u), .val (.int (2 : Int32))] [(.int (2 : Int32))])) _
  refine OGo.step (fun _ kk => XS.iconst X267.here hx rfl (hb hby own_d_jdk_52_method_5_code_29) kk) ?_
  show OGo p e below (T267.setTop (mkF m 30 #[.val (.ref u), .val (.int (2 : Int32))] [(.int (1 : Int32)), (.int (2 : Int32))])) _
  refine OGo.step (fun _ kk => XS.ishl X267.here hx rfl (hb hby own_d_jdk_52_method_5_code_30) rfl kk) ?_
  show OGo p e below (T267.setTop (mkF m 31 #[.val (.ref u), .val (.int (2 : Int32))] [(.int ((2 : Int32) <<< ((1 : Int32) &&& 31)))])) _
  refine OGo.step (fun _ kk => XS.istoreN X267.here hx rfl (hb hby own_d_jdk_52_method_5_code_31) rfl (l' := #[.val (.ref u), .val (.int ((2 : Int32) <<< ((1 : Int32) &&& 31)))]) rfl kk) ?_
  show OGo p e below (T267.setTop (mkF m 32 #[.val (.ref u), .val (.int ((2 : Int32) <<< ((1 : Int32) &&& 31)))] [])) _
  show OGo p e below (T267.setTop (mkF m 32 #[.val (.ref u), .val (.int (4 : Int32))] [])) _
  refine OGo.step (fun _ kk => XS.aloadN X267.here hx rfl (hb hby own_d_jdk_52_method_5_code_32) rfl rfl kk) ?_
  show OGo p e below (T267.setTop (mkF m 33 #[.val (.ref u), .val (.int (4 : Int32))] [(.ref u)])) _
  refine OGo.step (fun _ kk => XS.iloadN X267.here hx rfl (hb hby own_d_jdk_52_method_5_code_33) rfl kk) ?_
  show OGo p e below (T267.setTop (mkF m 34 #[.val (.ref u), .val (.int (4 : Int32))] [(.int (4 : Int32)), (.ref u)])) _
  refine OGo.step (fun _ kk => XS.iinc X267.here hx rfl (hb hby own_d_jdk_52_method_5_code_34) rfl (l' := #[.val (.ref u), .val (.int ((4 : Int32) + (1 : Int32)))]) rfl kk) ?_
  show OGo p e below (T267.setTop (mkF m 37 #[.val (.ref u), .val (.int ((4 : Int32) + (1 : Int32)))] [(.int (4 : Int32)), (.ref u)])) _
  show OGo p e below (T267.setTop (mkF m 37 #[.val (.ref u), .val (.int (5 : Int32))] [(.int (4 : Int32)), (.ref u)])) _
  refine OGo.step (fun _ kk => X267.baloadBytes hx (j := (4 : Int32)) (v := (.int x)) (by rw [e267]; exact (Au).1) (State.isArrayOf_alike hZ.alike (Au).2.1) (Au).2.2 (inb_of Su ⟨by decide, hN0⟩) (by rw [← g0]; exact Hu 4 (by rw [Su]; exact hb0)) (g := (mkF m 37 #[.val (.ref u), .val (.int (5 : Int32))] [(.int (4 : Int32)), (.ref u)])) rfl rfl (hb hby own_d_jdk_52_method_5_code_37) _ kk) ?_
  show OGo p e below (T267.setTop (mkF m 38 #[.val (.ref u), .val (.int (5 : Int32))] [(.int x)])) _
  refine OGo.step (fun _ kk => XS.sipush X267.here hx rfl (hb hby own_d_jdk_52_method_5_code_38) kk) ?_
  show OGo p e below (T267.setTop (mkF m 41 #[.val (.ref u), .val (.int (5 : Int32))] [(.int (255 : Int32)), (.int x)])) _
  refine OGo.step (fun _ kk => XS.iand X267.here hx rfl (hb hby own_d_jdk_52_method_5_code_41) rfl kk) ?_
  show OGo p e below (T267.setTop (mkF m 42 #[.val (.ref u), .val (.int (5 : Int32))] [(.int (x &&& (255 : Int32)))])) _
  obtain ⟨T268, X268, e268, st268⟩ := getS2 X267 hx hZ hown (host := "") (Or.inl (hw _ (List.mem_of_getElem? (i := 104) rfl))) Via.refl e267 SH (g := (mkF m 42 #[.val (.ref u), .val (.int (5 : Int32))] [(.int (x &&& (255 : Int32)))])) rfl (hb hby own_d_jdk_52_method_5_code_42)
  refine OGo.step st268 ?_
  show OGo p e below (T268.setTop (mkF m 45 #[.val (.ref u), .val (.int (5 : Int32))] [(.int (0 : Int32)), (.int (x &&& (255 : Int32)))])) _
  refine OGo.step (fun _ kk => XS.ishl X268.here hx rfl (hb hby own_d_jdk_52_method_5_code_45) rfl kk) ?_
  show OGo p e below (T268.setTop (mkF m 46 #[.val (.ref u), .val (.int (5 : Int32))] [(.int ((x &&& (255 : Int32)) <<< ((0 : Int32) &&& 31)))])) _
  refine OGo.step (fun _ kk => XS.aloadN X268.here hx rfl (hb hby own_d_jdk_52_method_5_code_46) rfl rfl kk) ?_
  show OGo p e below (T268.setTop (mkF m 47 #[.val (.ref u), .val (.int (5 : Int32))] [(.ref u), (.int ((x &&& (255 : Int32)) <<< ((0 : Int32) &&& 31)))])) _
  refine OGo.step (fun _ kk => XS.iloadN X268.here hx rfl (hb hby own_d_jdk_52_method_5_code_47) rfl kk) ?_
  show OGo p e below (T268.setTop (mkF m 48 #[.val (.ref u), .val (.int (5 : Int32))] [(.int (5 : Int32)), (.ref u), (.int ((x &&& (255 : Int32)) <<< ((0 : Int32) &&& 31)))])) _
  refine OGo.step (fun _ kk => X268.baloadBytes hx (j := (5 : Int32)) (v := (.int y)) (by rw [e268]; exact (Au).1) (State.isArrayOf_alike hZ.alike (Au).2.1) (Au).2.2 (inb_of Su ⟨by decide, hN1⟩) (by rw [← g1]; exact Hu 5 (by rw [Su]; exact hb1)) (g := (mkF m 48 #[.val (.ref u), .val (.int (5 : Int32))] [(.int (5 : Int32)), (.ref u), (.int ((x &&& (255 : Int32)) <<< ((0 : Int32) &&& 31)))])) rfl rfl (hb hby own_d_jdk_52_method_5_code_48) _ kk) ?_
  show OGo p e below (T268.setTop (mkF m 49 #[.val (.ref u), .val (.int (5 : Int32))] [(.int y), (.int ((x &&& (255 : Int32)) <<< ((0 : Int32) &&& 31)))])) _
  refine OGo.step (fun _ kk => XS.sipush X268.here hx rfl (hb hby own_d_jdk_52_method_5_code_49) kk) ?_
  show OGo p e below (T268.setTop (mkF m 52 #[.val (.ref u), .val (.int (5 : Int32))] [(.int (255 : Int32)), (.int y), (.int ((x &&& (255 : Int32)) <<< ((0 : Int32) &&& 31)))])) _
  refine OGo.step (fun _ kk => XS.iand X268.here hx rfl (hb hby own_d_jdk_52_method_5_code_52) rfl kk) ?_
  show OGo p e below (T268.setTop (mkF m 53 #[.val (.ref u), .val (.int (5 : Int32))] [(.int (y &&& (255 : Int32))), (.int ((x &&& (255 : Int32)) <<< ((0 : Int32) &&& 31)))])) _
  obtain ⟨T269, X269, e269, st269⟩ := getS2 X268 hx hZ hown (host := "") (Or.inl (hw _ (List.mem_of_getElem? (i := 105) rfl))) Via.refl e268 SL (g := (mkF m 53 #[.val (.ref u), .val (.int (5 : Int32))] [(.int (y &&& (255 : Int32))), (.int ((x &&& (255 : Int32)) <<< ((0 : Int32) &&& 31)))])) rfl (hb hby own_d_jdk_52_method_5_code_53)
  refine OGo.step st269 ?_
  show OGo p e below (T269.setTop (mkF m 56 #[.val (.ref u), .val (.int (5 : Int32))] [(.int (8 : Int32)), (.int (y &&& (255 : Int32))), (.int ((x &&& (255 : Int32)) <<< ((0 : Int32) &&& 31)))])) _
  refine OGo.step (fun _ kk => XS.ishl X269.here hx rfl (hb hby own_d_jdk_52_method_5_code_56) rfl kk) ?_
  show OGo p e below (T269.setTop (mkF m 57 #[.val (.ref u), .val (.int (5 : Int32))] [(.int ((y &&& (255 : Int32)) <<< ((8 : Int32) &&& 31))), (.int ((x &&& (255 : Int32)) <<< ((0 : Int32) &&& 31)))])) _
  refine OGo.step (fun _ kk => XS.ior X269.here hx rfl (hb hby own_d_jdk_52_method_5_code_57) rfl kk) ?_
  show OGo p e below (T269.setTop (mkF m 58 #[.val (.ref u), .val (.int (5 : Int32))] [(.int (((x &&& (255 : Int32)) <<< ((0 : Int32) &&& 31)) ||| ((y &&& (255 : Int32)) <<< ((8 : Int32) &&& 31))))])) _
  refine OGo.step (fun _ kk => XS.i2c X269.here hx rfl (hb hby own_d_jdk_52_method_5_code_58) rfl kk) ?_
  show OGo p e below (T269.setTop (mkF m 59 #[.val (.ref u), .val (.int (5 : Int32))] [(.int ((((x &&& (255 : Int32)) <<< ((0 : Int32) &&& 31)) ||| ((y &&& (255 : Int32)) <<< ((8 : Int32) &&& 31))).toUInt32.toUInt16.toUInt32.toInt32))])) _
  exact own_retN X269 hx hlk hret (by simp) (hb hby own_d_jdk_52_method_5_code_59) ⟨congrArg (fun z => some (Value.int z)) (own_narcc _), Fr.nil n0, e269⟩ (by decide) (by decide)

set_option maxRecDepth 65536 in
set_option maxHeartbeats 40000000 in
theorem own_putc3 (l : Launch) (Z : State) (a0 : Array Value) (hw : ∀ d ∈ tables_1, d.before a0 Z = true) (ws : List Jvm.Cond) (u : Addr) (kb : ClassId) (N : Int32) (vs : List Value) (ch : Int32) (h0 : Heap) (n0 : Nat) (Z0 : n0 ≤ h0.size) (SA : Sta Z h0 "java/lang/StringUTF16" "$assertionsDisabled" "Z" (.int (1 : Int32))) (SH : Sta Z h0 "java/lang/StringUTF16" "HI_BYTE_SHIFT" "I" (.int (0 : Int32))) (SL : Sta Z h0 "java/lang/StringUTF16" "LO_BYTE_SHIFT" "I" (.int (8 : Int32))) (gu : n0 ≤ u) (Vu : Arv Z h0 u kb .byte N vs (.int (0 : Int32))) (hl : 7 < vs.length) (hN0 : (6 : Int32) < N) (hN1 : (7 : Int32) < N) :
    OMet l Z (⟨"java/lang/StringUTF16", "putChar", "([BII)V"⟩ : MethodName) jdk_52_method_4_code 3 none ws ({ frames := 0, cells := 0, slots := 0, locals := 0 } : Room) #[(.ref u), (.int (3 : Int32)), (.int ch)] h0 (fun v h L => v = none ∧ Fr n0 L ∧ Keep h0 h [u] ∧ Arv Z h u kb .byte N ((vs.set 6 (.int (StrChars.lo8 ch))).set 7 (.int (StrChars.hi8 ch))) (.int (0 : Int32))) := by
  refine OMet.body (plainFor_of_name own_pn4) ?_
  intro p e s m below meth c s₁ hx hby hml hown hnm hret hlk hZ X0 e0
  refine OGo.step (fun _ kk => castTop (show entryFrame m #[(.ref u), (.int (3 : Int32)), (.int ch)] 3 = (mkF m 0 #[.val (.ref u), .val (.int (3 : Int32)), .val (.int ch)] []) from by first | (simp [entryFrame, mkF, argsToLocals, Value.category]; done) | rfl) kk) ?_
  show OGo p e below (s₁.setTop (mkF m 0 #[.val (.ref u), .val (.int (3 : Int32)), .val (.int ch)] [])) _
  obtain ⟨T270, X270, e270, st270⟩ := getS2 X0 hx hZ hown (host := "") (Or.inl (hw _ (List.mem_of_getElem? (i := 103) rfl))) Via.refl e0 SA (g := (mkF m 0 #[.val (.ref u), .val (.int (3 : Int32)), .val (.int ch)] [])) rfl (hb hby own_d_jdk_52_method_4_code_0)
  refine OGo.step st270 ?_
  show OGo p e below (T270.setTop (mkF m 3 #[.val (.ref u), .val (.int (3 : Int32)), .val (.int ch)] [(.int (1 : Int32))])) _
  refine OGo.step (fun _ kk => XS.ifYes X270.here hx rfl (pc0 := 3) (pc' := 28) rfl (hb hby own_d_jdk_52_method_4_code_3) rfl ((if0 _ _).trans (feq (by decide)).2) (by decide) (by decide) kk) ?_
  show OGo p e below (T270.setTop (mkF m 28 #[.val (.ref u), .val (.int (3 : Int32)), .val (.int ch)] [])) _
  refine OGo.step (fun _ kk => XS.iloadN X270.here hx rfl (hb hby own_d_jdk_52_method_4_code_28) rfl kk) ?_
  show OGo p e below (T270.setTop (mkF m 29 #[.val (.ref u), .val (.int (3 : Int32)), .val (.int ch)] [(.int (3 : Int32))])) _
  refine OGo.step (fun _ kk => XS.iconst X270.here hx rfl (hb hby own_d_jdk_52_method_4_code_29) kk) ?_
  show OGo p e below (T270.setTop (mkF m 30 #[.val (.ref u), .val (.int (3 : Int32)), .val (.int ch)] [(.int (1 : Int32)), (.int (3 : Int32))])) _
  refine OGo.step (fun _ kk => XS.ishl X270.here hx rfl (hb hby own_d_jdk_52_method_4_code_30) rfl kk) ?_
  show OGo p e below (T270.setTop (mkF m 31 #[.val (.ref u), .val (.int (3 : Int32)), .val (.int ch)] [(.int ((3 : Int32) <<< ((1 : Int32) &&& 31)))])) _
  refine OGo.step (fun _ kk => XS.istoreN X270.here hx rfl (hb hby own_d_jdk_52_method_4_code_31) rfl (l' := #[.val (.ref u), .val (.int ((3 : Int32) <<< ((1 : Int32) &&& 31))), .val (.int ch)]) rfl kk) ?_
  show OGo p e below (T270.setTop (mkF m 32 #[.val (.ref u), .val (.int ((3 : Int32) <<< ((1 : Int32) &&& 31))), .val (.int ch)] [])) _
  show OGo p e below (T270.setTop (mkF m 32 #[.val (.ref u), .val (.int (6 : Int32)), .val (.int ch)] [])) _
  refine OGo.step (fun _ kk => XS.aloadN X270.here hx rfl (hb hby own_d_jdk_52_method_4_code_32) rfl rfl kk) ?_
  show OGo p e below (T270.setTop (mkF m 33 #[.val (.ref u), .val (.int (6 : Int32)), .val (.int ch)] [(.ref u)])) _
  refine OGo.step (fun _ kk => XS.iloadN X270.here hx rfl (hb hby own_d_jdk_52_method_4_code_33) rfl kk) ?_
  show OGo p e below (T270.setTop (mkF m 34 #[.val (.ref u), .val (.int (6 : Int32)), .val (.int ch)] [(.int (6 : Int32)), (.ref u)])) _
  refine OGo.step (fun _ kk => XS.iinc X270.here hx rfl (hb hby own_d_jdk_52_method_4_code_34) rfl (l' := #[.val (.ref u), .val (.int ((6 : Int32) + (1 : Int32))), .val (.int ch)]) rfl kk) ?_
  show OGo p e below (T270.setTop (mkF m 37 #[.val (.ref u), .val (.int ((6 : Int32) + (1 : Int32))), .val (.int ch)] [(.int (6 : Int32)), (.ref u)])) _
  show OGo p e below (T270.setTop (mkF m 37 #[.val (.ref u), .val (.int (7 : Int32)), .val (.int ch)] [(.int (6 : Int32)), (.ref u)])) _
  refine OGo.step (fun _ kk => XS.iloadN X270.here hx rfl (hb hby own_d_jdk_52_method_4_code_37) rfl kk) ?_
  show OGo p e below (T270.setTop (mkF m 38 #[.val (.ref u), .val (.int (7 : Int32)), .val (.int ch)] [(.int ch), (.int (6 : Int32)), (.ref u)])) _
  obtain ⟨T271, X271, e271, st271⟩ := getS2 X270 hx hZ hown (host := "") (Or.inl (hw _ (List.mem_of_getElem? (i := 104) rfl))) Via.refl e270 SH (g := (mkF m 38 #[.val (.ref u), .val (.int (7 : Int32)), .val (.int ch)] [(.int ch), (.int (6 : Int32)), (.ref u)])) rfl (hb hby own_d_jdk_52_method_4_code_38)
  refine OGo.step st271 ?_
  show OGo p e below (T271.setTop (mkF m 41 #[.val (.ref u), .val (.int (7 : Int32)), .val (.int ch)] [(.int (0 : Int32)), (.int ch), (.int (6 : Int32)), (.ref u)])) _
  refine OGo.step (fun _ kk => XS.ishr X271.here hx rfl (hb hby own_d_jdk_52_method_4_code_41) rfl kk) ?_
  show OGo p e below (T271.setTop (mkF m 42 #[.val (.ref u), .val (.int (7 : Int32)), .val (.int ch)] [(.int (ch >>> ((0 : Int32) &&& 31))), (.int (6 : Int32)), (.ref u)])) _
  refine OGo.step (fun _ kk => XS.i2b X271.here hx rfl (hb hby own_d_jdk_52_method_4_code_42) rfl kk) ?_
  show OGo p e below (T271.setTop (mkF m 43 #[.val (.ref u), .val (.int (7 : Int32)), .val (.int ch)] [(.int ((ch >>> ((0 : Int32) &&& 31)).toInt8.toInt32)), (.int (6 : Int32)), (.ref u)])) _
  obtain ⟨cA272, A272, q272, S272, M272, H272, G272⟩ := id Vu
  obtain ⟨T273, h273, X273, e273, W273, st273⟩ := stB X271 hx hZ e271 A272 (j := (6 : Int32)) (inb_of S272 ⟨by decide, hN0⟩) (g := (mkF m 43 #[.val (.ref u), .val (.int (7 : Int32)), .val (.int ch)] [(.int ((ch >>> ((0 : Int32) &&& 31)).toInt8.toInt32)), (.int (6 : Int32)), (.ref u)])) rfl rfl (hb hby own_d_jdk_52_method_4_code_43)
  refine OGo.step st273 ?_
  show OGo p e below (T273.setTop (mkF m 44 #[.val (.ref u), .val (.int (7 : Int32)), .val (.int ch)] [])) _
  have Va272 : Arv Z h273 u kb .byte N (vs.set 6 (.int (StrChars.lo8 ch))) (.int (0 : Int32)) := by rw [← (own_lo ch)]; exact Arv.set A272 q272 S272 M272 H272 G272 (fits_nar_byte _) W273 6 rfl (Nat.lt_of_succ_lt hl)
  have Nf273 := Fr.snoc X273 (Fr.nil n0) gu
  have sz273 : n0 ≤ h273.size := by rw [W273.size]; exact Z0
  refine OGo.step (fun _ kk => XS.aloadN X273.here hx rfl (hb hby own_d_jdk_52_method_4_code_44) rfl rfl kk) ?_
  show OGo p e below (T273.setTop (mkF m 45 #[.val (.ref u), .val (.int (7 : Int32)), .val (.int ch)] [(.ref u)])) _
  refine OGo.step (fun _ kk => XS.iloadN X273.here hx rfl (hb hby own_d_jdk_52_method_4_code_45) rfl kk) ?_
  show OGo p e below (T273.setTop (mkF m 46 #[.val (.ref u), .val (.int (7 : Int32)), .val (.int ch)] [(.int (7 : Int32)), (.ref u)])) _
  refine OGo.step (fun _ kk => XS.iloadN X273.here hx rfl (hb hby own_d_jdk_52_method_4_code_46) rfl kk) ?_
  show OGo p e below (T273.setTop (mkF m 47 #[.val (.ref u), .val (.int (7 : Int32)), .val (.int ch)] [(.int ch), (.int (7 : Int32)), (.ref u)])) _
  have fc274 := (SL.wr W273)
  obtain ⟨T275, X275, e275, st275⟩ := getS2 X273 hx hZ hown (host := "") (Or.inl (hw _ (List.mem_of_getElem? (i := 105) rfl))) Via.refl e273 fc274 (g := (mkF m 47 #[.val (.ref u), .val (.int (7 : Int32)), .val (.int ch)] [(.int ch), (.int (7 : Int32)), (.ref u)])) rfl (hb hby own_d_jdk_52_method_4_code_47)
  refine OGo.step st275 ?_
  show OGo p e below (T275.setTop (mkF m 50 #[.val (.ref u), .val (.int (7 : Int32)), .val (.int ch)] [(.int (8 : Int32)), (.int ch), (.int (7 : Int32)), (.ref u)])) _
  refine OGo.step (fun _ kk => XS.ishr X275.here hx rfl (hb hby own_d_jdk_52_method_4_code_50) rfl kk) ?_
  show OGo p e below (T275.setTop (mkF m 51 #[.val (.ref u), .val (.int (7 : Int32)), .val (.int ch)] [(.int (ch >>> ((8 : Int32) &&& 31))), (.int (7 : Int32)), (.ref u)])) _
  refine OGo.step (fun _ kk => XS.i2b X275.here hx rfl (hb hby own_d_jdk_52_method_4_code_51) rfl kk) ?_
  show OGo p e below (T275.setTop (mkF m 52 #[.val (.ref u), .val (.int (7 : Int32)), .val (.int ch)] [(.int ((ch >>> ((8 : Int32) &&& 31)).toInt8.toInt32)), (.int (7 : Int32)), (.ref u)])) _
  obtain ⟨cA276, A276, q276, S276, M276, H276, G276⟩ := id Va272
  obtain ⟨T277, h277, X277, e277, W277, st277⟩ := stB X275 hx hZ e275 A276 (j := (7 : Int32)) (inb_of S276 ⟨by decide, hN1⟩) (g := (mkF m 52 #[.val (.ref u), .val (.int (7 : Int32)), .val (.int ch)] [(.int ((ch >>> ((8 : Int32) &&& 31)).toInt8.toInt32)), (.int (7 : Int32)), (.ref u)])) rfl rfl (hb hby own_d_jdk_52_method_4_code_52)
  refine OGo.step st277 ?_
  show OGo p e below (T277.setTop (mkF m 53 #[.val (.ref u), .val (.int (7 : Int32)), .val (.int ch)] [])) _
  have Va276 : Arv Z h277 u kb .byte N ((vs.set 6 (.int (StrChars.lo8 ch))).set 7 (.int (StrChars.hi8 ch))) (.int (0 : Int32)) := by rw [← (own_hi ch)]; exact Arv.set A276 q276 S276 M276 H276 G276 (fits_nar_byte _) W277 7 rfl (by rw [List.length_set]; exact hl)
  have Nf277 := Fr.snoc X277 Nf273 gu
  have sz277 : n0 ≤ h277.size := by rw [W277.size]; exact sz273
  have HK := (((Keep.refl h0 [u]).wr W273 (Or.inl (List.mem_of_getElem? (i := 0) rfl))).wr W277 (Or.inl (List.mem_of_getElem? (i := 0) rfl)))
  exact own_ret0 X277 hx hlk hret (hb hby own_d_jdk_52_method_4_code_53) (by rw [e277]; exact ⟨rfl, Nf277, HK, Va276⟩) (by decide) (by decide)

set_option maxRecDepth 65536 in
set_option maxHeartbeats 40000000 in
theorem own_getc3 (l : Launch) (Z : State) (a0 : Array Value) (hw : ∀ d ∈ tables_1, d.before a0 Z = true) (ws : List Jvm.Cond) (u : Addr) (kb : ClassId) (N : Int32) (vs : List Value) (x y : Int32) (h0 : Heap) (n0 : Nat) (Z0 : n0 ≤ h0.size) (SA : Sta Z h0 "java/lang/StringUTF16" "$assertionsDisabled" "Z" (.int (1 : Int32))) (SH : Sta Z h0 "java/lang/StringUTF16" "HI_BYTE_SHIFT" "I" (.int (0 : Int32))) (SL : Sta Z h0 "java/lang/StringUTF16" "LO_BYTE_SHIFT" "I" (.int (8 : Int32))) (Vu : Arv Z h0 u kb .byte N vs (.int (0 : Int32))) (hN0 : (6 : Int32) < N) (hN1 : (7 : Int32) < N) (hb0 : 6 < N.toNatClampNeg) (hb1 : 7 < N.toNatClampNeg) (g0 : vs.getD 6 (.int (0 : Int32)) = .int x) (g1 : vs.getD 7 (.int (0 : Int32)) = .int y) :
    OMet l Z (⟨"java/lang/StringUTF16", "getChar", "([BI)C"⟩ : MethodName) jdk_52_method_5_code 2 (some .char) ws ({ frames := 0, cells := 0, slots := 0, locals := 0 } : Room) #[(.ref u), (.int (3 : Int32))] h0 (fun v h L => v = some (.int (StrChars.pairCh x y)) ∧ Fr n0 L ∧ h = h0) := by
  refine OMet.body (plainFor_of_name own_pn4) ?_
  intro p e s m below meth c s₁ hx hby hml hown hnm hret hlk hZ X0 e0
  refine OGo.step (fun _ kk => castTop (show entryFrame m #[(.ref u), (.int (3 : Int32))] 2 = (mkF m 0 #[.val (.ref u), .val (.int (3 : Int32))] []) from by first | (simp [entryFrame, mkF, argsToLocals, Value.category]; done) | rfl) kk) ?_
  show OGo p e below (s₁.setTop (mkF m 0 #[.val (.ref u), .val (.int (3 : Int32))] [])) _
  obtain ⟨cu, Au, qu, Su, Mu, Hu, Gu⟩ := id Vu
  obtain ⟨T278, X278, e278, st278⟩ := getS2 X0 hx hZ hown (host := "") (Or.inl (hw _ (List.mem_of_getElem? (i := 103) rfl))) Via.refl e0 SA (g := (mkF m 0 #[.val (.ref u), .val (.int (3 : Int32))] [])) rfl (hb hby own_d_jdk_52_method_5_code_0)
  refine OGo.step st278 ?_
  show OGo p e below (T278.setTop (mkF m 3 #[.val (.ref u), .val (.int (3 : Int32))] [(.int (1 : Int32))])) _
  refine OGo.step (fun _ kk => XS.ifYes X278.here hx rfl (pc0 := 3) (pc' := 28) rfl (hb hby own_d_jdk_52_method_5_code_3) rfl ((if0 _ _).trans (feq (by decide)).2) (by decide) (by decide) kk) ?_
  show OGo p e below (T278.setTop (mkF m 28 #[.val (.ref u), .val (.int (3 : Int32))] [])) _
  refine OGo.step (fun _ kk => XS.iloadN X278.here hx rfl (hb hby own_d_jdk_52_method_5_code_28) rfl kk) ?_
  show OGo p e below (T278.setTop (mkF m 29 #[.val (.ref u), .val (.int (3 : Int32))] [(.int (3 : Int32))])) _
  refine OGo.step (fun _ kk => XS.iconst X278.here hx rfl (hb hby own_d_jdk_52_method_5_code_29) kk) ?_
  show OGo p e below (T278.setTop (mkF m 30 #[.val (.ref u), .val (.int (3 : Int32))] [(.int (1 : Int32)), (.int (3 : Int32))])) _
  refine OGo.step (fun _ kk => XS.ishl X278.here hx rfl (hb hby own_d_jdk_52_method_5_code_30) rfl kk) ?_
  show OGo p e below (T278.setTop (mkF m 31 #[.val (.ref u), .val (.int (3 : Int32))] [(.int ((3 : Int32) <<< ((1 : Int32) &&& 31)))])) _
  refine OGo.step (fun _ kk => XS.istoreN X278.here hx rfl (hb hby own_d_jdk_52_method_5_code_31) rfl (l' := #[.val (.ref u), .val (.int ((3 : Int32) <<< ((1 : Int32) &&& 31)))]) rfl kk) ?_
  show OGo p e below (T278.setTop (mkF m 32 #[.val (.ref u), .val (.int ((3 : Int32) <<< ((1 : Int32) &&& 31)))] [])) _
  show OGo p e below (T278.setTop (mkF m 32 #[.val (.ref u), .val (.int (6 : Int32))] [])) _
  refine OGo.step (fun _ kk => XS.aloadN X278.here hx rfl (hb hby own_d_jdk_52_method_5_code_32) rfl rfl kk) ?_
  show OGo p e below (T278.setTop (mkF m 33 #[.val (.ref u), .val (.int (6 : Int32))] [(.ref u)])) _
  refine OGo.step (fun _ kk => XS.iloadN X278.here hx rfl (hb hby own_d_jdk_52_method_5_code_33) rfl kk) ?_
  show OGo p e below (T278.setTop (mkF m 34 #[.val (.ref u), .val (.int (6 : Int32))] [(.int (6 : Int32)), (.ref u)])) _
  refine OGo.step (fun _ kk => XS.iinc X278.here hx rfl (hb hby own_d_jdk_52_method_5_code_34) rfl (l' := #[.val (.ref u), .val (.int ((6 : Int32) + (1 : Int32)))]) rfl kk) ?_
  show OGo p e below (T278.setTop (mkF m 37 #[.val (.ref u), .val (.int ((6 : Int32) + (1 : Int32)))] [(.int (6 : Int32)), (.ref u)])) _
  show OGo p e below (T278.setTop (mkF m 37 #[.val (.ref u), .val (.int (7 : Int32))] [(.int (6 : Int32)), (.ref u)])) _
  refine OGo.step (fun _ kk => X278.baloadBytes hx (j := (6 : Int32)) (v := (.int x)) (by rw [e278]; exact (Au).1) (State.isArrayOf_alike hZ.alike (Au).2.1) (Au).2.2 (inb_of Su ⟨by decide, hN0⟩) (by rw [← g0]; exact Hu 6 (by rw [Su]; exact hb0)) (g := (mkF m 37 #[.val (.ref u), .val (.int (7 : Int32))] [(.int (6 : Int32)), (.ref u)])) rfl rfl (hb hby own_d_jdk_52_method_5_code_37) _ kk) ?_
  show OGo p e below (T278.setTop (mkF m 38 #[.val (.ref u), .val (.int (7 : Int32))] [(.int x)])) _
  refine OGo.step (fun _ kk => XS.sipush X278.here hx rfl (hb hby own_d_jdk_52_method_5_code_38) kk) ?_
  show OGo p e below (T278.setTop (mkF m 41 #[.val (.ref u), .val (.int (7 : Int32))] [(.int (255 : Int32)), (.int x)])) _
  refine OGo.step (fun _ kk => XS.iand X278.here hx rfl (hb hby own_d_jdk_52_method_5_code_41) rfl kk) ?_
  show OGo p e below (T278.setTop (mkF m 42 #[.val (.ref u), .val (.int (7 : Int32))] [(.int (x &&& (255 : Int32)))])) _
  obtain ⟨T279, X279, e279, st279⟩ := getS2 X278 hx hZ hown (host := "") (Or.inl (hw _ (List.mem_of_getElem? (i := 104) rfl))) Via.refl e278 SH (g := (mkF m 42 #[.val (.ref u), .val (.int (7 : Int32))] [(.int (x &&& (255 : Int32)))])) rfl (hb hby own_d_jdk_52_method_5_code_42)
  refine OGo.step st279 ?_
  show OGo p e below (T279.setTop (mkF m 45 #[.val (.ref u), .val (.int (7 : Int32))] [(.int (0 : Int32)), (.int (x &&& (255 : Int32)))])) _
  refine OGo.step (fun _ kk => XS.ishl X279.here hx rfl (hb hby own_d_jdk_52_method_5_code_45) rfl kk) ?_
  show OGo p e below (T279.setTop (mkF m 46 #[.val (.ref u), .val (.int (7 : Int32))] [(.int ((x &&& (255 : Int32)) <<< ((0 : Int32) &&& 31)))])) _
  refine OGo.step (fun _ kk => XS.aloadN X279.here hx rfl (hb hby own_d_jdk_52_method_5_code_46) rfl rfl kk) ?_
  show OGo p e below (T279.setTop (mkF m 47 #[.val (.ref u), .val (.int (7 : Int32))] [(.ref u), (.int ((x &&& (255 : Int32)) <<< ((0 : Int32) &&& 31)))])) _
  refine OGo.step (fun _ kk => XS.iloadN X279.here hx rfl (hb hby own_d_jdk_52_method_5_code_47) rfl kk) ?_
  show OGo p e below (T279.setTop (mkF m 48 #[.val (.ref u), .val (.int (7 : Int32))] [(.int (7 : Int32)), (.ref u), (.int ((x &&& (255 : Int32)) <<< ((0 : Int32) &&& 31)))])) _
  refine OGo.step (fun _ kk => X279.baloadBytes hx (j := (7 : Int32)) (v := (.int y)) (by rw [e279]; exact (Au).1) (State.isArrayOf_alike hZ.alike (Au).2.1) (Au).2.2 (inb_of Su ⟨by decide, hN1⟩) (by rw [← g1]; exact Hu 7 (by rw [Su]; exact hb1)) (g := (mkF m 48 #[.val (.ref u), .val (.int (7 : Int32))] [(.int (7 : Int32)), (.ref u), (.int ((x &&& (255 : Int32)) <<< ((0 : Int32) &&& 31)))])) rfl rfl (hb hby own_d_jdk_52_method_5_code_48) _ kk) ?_
  show OGo p e below (T279.setTop (mkF m 49 #[.val (.ref u), .val (.int (7 : Int32))] [(.int y), (.int ((x &&& (255 : Int32)) <<< ((0 : Int32) &&& 31)))])) _
  refine OGo.step (fun _ kk => XS.sipush X279.here hx rfl (hb hby own_d_jdk_52_method_5_code_49) kk) ?_
  show OGo p e below (T279.setTop (mkF m 52 #[.val (.ref u), .val (.int (7 : Int32))] [(.int (255 : Int32)), (.int y), (.int ((x &&& (255 : Int32)) <<< ((0 : Int32) &&& 31)))])) _
  refine OGo.step (fun _ kk => XS.iand X279.here hx rfl (hb hby own_d_jdk_52_method_5_code_52) rfl kk) ?_
  show OGo p e below (T279.setTop (mkF m 53 #[.val (.ref u), .val (.int (7 : Int32))] [(.int (y &&& (255 : Int32))), (.int ((x &&& (255 : Int32)) <<< ((0 : Int32) &&& 31)))])) _
  obtain ⟨T280, X280, e280, st280⟩ := getS2 X279 hx hZ hown (host := "") (Or.inl (hw _ (List.mem_of_getElem? (i := 105) rfl))) Via.refl e279 SL (g := (mkF m 53 #[.val (.ref u), .val (.int (7 : Int32))] [(.int (y &&& (255 : Int32))), (.int ((x &&& (255 : Int32)) <<< ((0 : Int32) &&& 31)))])) rfl (hb hby own_d_jdk_52_method_5_code_53)
  refine OGo.step st280 ?_
  show OGo p e below (T280.setTop (mkF m 56 #[.val (.ref u), .val (.int (7 : Int32))] [(.int (8 : Int32)), (.int (y &&& (255 : Int32))), (.int ((x &&& (255 : Int32)) <<< ((0 : Int32) &&& 31)))])) _
  refine OGo.step (fun _ kk => XS.ishl X280.here hx rfl (hb hby own_d_jdk_52_method_5_code_56) rfl kk) ?_
  show OGo p e below (T280.setTop (mkF m 57 #[.val (.ref u), .val (.int (7 : Int32))] [(.int ((y &&& (255 : Int32)) <<< ((8 : Int32) &&& 31))), (.int ((x &&& (255 : Int32)) <<< ((0 : Int32) &&& 31)))])) _
  refine OGo.step (fun _ kk => XS.ior X280.here hx rfl (hb hby own_d_jdk_52_method_5_code_57) rfl kk) ?_
  show OGo p e below (T280.setTop (mkF m 58 #[.val (.ref u), .val (.int (7 : Int32))] [(.int (((x &&& (255 : Int32)) <<< ((0 : Int32) &&& 31)) ||| ((y &&& (255 : Int32)) <<< ((8 : Int32) &&& 31))))])) _
  refine OGo.step (fun _ kk => XS.i2c X280.here hx rfl (hb hby own_d_jdk_52_method_5_code_58) rfl kk) ?_
  show OGo p e below (T280.setTop (mkF m 59 #[.val (.ref u), .val (.int (7 : Int32))] [(.int ((((x &&& (255 : Int32)) <<< ((0 : Int32) &&& 31)) ||| ((y &&& (255 : Int32)) <<< ((8 : Int32) &&& 31))).toUInt32.toUInt16.toUInt32.toInt32))])) _
  exact own_retN X280 hx hlk hret (by simp) (hb hby own_d_jdk_52_method_5_code_59) ⟨congrArg (fun z => some (Value.int z)) (own_narcc _), Fr.nil n0, e280⟩ (by decide) (by decide)

set_option maxRecDepth 65536 in
set_option maxHeartbeats 40000000 in
theorem own_nbl1 (l : Launch) (Z : State) (a0 : Array Value) (hw : ∀ d ∈ tables_1, d.before a0 Z = true) (ws : List Jvm.Cond)  (h0 : Heap) (n0 : Nat) (Z0 : n0 ≤ h0.size)  :
    OMet l Z (⟨"java/lang/StringUTF16", "newBytesLength", "(I)I"⟩ : MethodName) jdk_52_method_3_code 1 (some .int) ws ({ frames := 0, cells := 0, slots := 0, locals := 0 } : Room) #[(.int (1 : Int32))] h0 (fun v h L => v = some (.int (2 : Int32)) ∧ Fr n0 L ∧ h = h0) := by
  refine OMet.body (plainFor_of_name own_pn4) ?_
  intro p e s m below meth c s₁ hx hby hml hown hnm hret hlk hZ X0 e0
  refine OGo.step (fun _ kk => castTop (show entryFrame m #[(.int (1 : Int32))] 1 = (mkF m 0 #[.val (.int (1 : Int32))] []) from by first | (simp [entryFrame, mkF, argsToLocals, Value.category]; done) | rfl) kk) ?_
  show OGo p e below (s₁.setTop (mkF m 0 #[.val (.int (1 : Int32))] [])) _
  refine OGo.step (fun _ kk => XS.iloadN X0.here hx rfl (hb hby own_d_jdk_52_method_3_code_0) rfl kk) ?_
  show OGo p e below (s₁.setTop (mkF m 1 #[.val (.int (1 : Int32))] [(.int (1 : Int32))])) _
  refine OGo.step (fun _ kk => XS.ifYes X0.here hx rfl (pc0 := 1) (pc' := 12) rfl (hb hby own_d_jdk_52_method_3_code_1) rfl ((if0 _ _).trans (flt (by decide)).2.1) (by decide) (by decide) kk) ?_
  show OGo p e below (s₁.setTop (mkF m 12 #[.val (.int (1 : Int32))] [])) _
  refine OGo.step (fun _ kk => XS.iloadN X0.here hx rfl (hb hby own_d_jdk_52_method_3_code_12) rfl kk) ?_
  show OGo p e below (s₁.setTop (mkF m 13 #[.val (.int (1 : Int32))] [(.int (1 : Int32))])) _
  refine OGo.step (fun _ kk => X0.ldcInt hx hown (mvT hZ (hw _ (List.mem_of_getElem? (i := 99) rfl))) (g := (mkF m 13 #[.val (.int (1 : Int32))] [(.int (1 : Int32))])) rfl (hb hby own_d_jdk_52_method_3_code_13) _ kk) ?_
  show OGo p e below (s₁.setTop (mkF m 15 #[.val (.int (1 : Int32))] [(.int (1073741823 : Int32)), (.int (1 : Int32))])) _
  refine OGo.step (fun _ kk => XS.icmpYes X0.here hx rfl (pc0 := 15) (pc' := 55) rfl (hb hby own_d_jdk_52_method_3_code_15) rfl (tlt (by decide)).1 (by decide) (by decide) kk) ?_
  show OGo p e below (s₁.setTop (mkF m 55 #[.val (.int (1 : Int32))] [])) _
  refine OGo.step (fun _ kk => XS.iloadN X0.here hx rfl (hb hby own_d_jdk_52_method_3_code_55) rfl kk) ?_
  show OGo p e below (s₁.setTop (mkF m 56 #[.val (.int (1 : Int32))] [(.int (1 : Int32))])) _
  refine OGo.step (fun _ kk => XS.iconst X0.here hx rfl (hb hby own_d_jdk_52_method_3_code_56) kk) ?_
  show OGo p e below (s₁.setTop (mkF m 57 #[.val (.int (1 : Int32))] [(.int (1 : Int32)), (.int (1 : Int32))])) _
  refine OGo.step (fun _ kk => XS.ishl X0.here hx rfl (hb hby own_d_jdk_52_method_3_code_57) rfl kk) ?_
  show OGo p e below (s₁.setTop (mkF m 58 #[.val (.int (1 : Int32))] [(.int ((1 : Int32) <<< ((1 : Int32) &&& 31)))])) _
  exact own_ret X0 hx hlk hret rfl (Or.inl ⟨rfl, Or.inl rfl, _, rfl⟩) (hb hby own_d_jdk_52_method_3_code_58) ⟨rfl, Fr.nil n0, e0⟩ (by decide) (by decide)

set_option maxRecDepth 65536 in
set_option maxHeartbeats 40000000 in
theorem own_nbf1 (l : Launch) (Z : State) (a0 : Array Value) (hw : ∀ d ∈ tables_1, d.before a0 Z = true) (ws : List Jvm.Cond)  (h0 : Heap) (n0 : Nat) (Z0 : n0 ≤ h0.size)  :
    OMet l Z (⟨"java/lang/StringUTF16", "newBytesFor", "(I)[B"⟩ : MethodName) jdk_52_method_2_code 1 (some (.array .byte)) ws ({ frames := 1, cells := 1, slots := 2, locals := 12 } : Room) #[(.int (1 : Int32))] h0 (fun v h L => ∃ (u : Addr) (kb : ClassId), v = some (.ref u) ∧ Fr n0 L ∧ Ext h0 h ∧ h0.size ≤ u ∧ Arv Z h u kb .byte (2 : Int32) [(.int (0 : Int32)), (.int (0 : Int32))] (.int (0 : Int32))) := by
  refine OMet.body (plainFor_of_name own_pn4) ?_
  intro p e s m below meth c s₁ hx hby hml hown hnm hret hlk hZ X0 e0
  refine OGo.step (fun _ kk => castTop (show entryFrame m #[(.int (1 : Int32))] 1 = (mkF m 0 #[.val (.int (1 : Int32))] []) from by first | (simp [entryFrame, mkF, argsToLocals, Value.category]; done) | rfl) kk) ?_
  show OGo p e below (s₁.setTop (mkF m 0 #[.val (.int (1 : Int32))] [])) _
  refine OGo.step (fun _ kk => XS.iloadN X0.here hx rfl (hb hby own_d_jdk_52_method_2_code_0) rfl kk) ?_
  show OGo p e below (s₁.setTop (mkF m 1 #[.val (.int (1 : Int32))] [(.int (1 : Int32))])) _
  refine own_callS X0 hx hZ (y := (⟨"java/lang/StringUTF16", "newBytesLength", "(I)I"⟩ : MethodName)) hown (hw _ (List.mem_of_getElem? (i := 96) rfl)) (hw _ (List.mem_of_getElem? (i := 97) rfl)) (hw _ (List.mem_of_getElem? (i := 23) rfl)) (hw _ (List.mem_of_getElem? (i := 98) rfl)) (by decide) (W := 0) (own_nbl1 l Z a0 hw [] h0 n0 Z0) e0  (pc := 1) (Ls := #[.val (.int (1 : Int32))]) (argsL := [(.int (1 : Int32))]) (rest := []) (by rw [hml]; rfl) (lenOf own_pd10 rfl) rfl (hb hby own_d_jdk_52_method_2_code_1) (by decide) (by decide) (by decide) (by decide) ?_
  intro v281 T281 L281 X281 hQ281
  obtain ⟨rfl, N281, e281⟩ := hQ281
  show OGo p e below (T281.setTop (mkF m 4 #[.val (.int (1 : Int32))] [(.int (2 : Int32))])) _
  have Nc281 := Fr.app (Fr.nil n0) N281
  obtain ⟨T282, h282, k282, X282, e282, E282, A282, st282⟩ := newP X281 hx hZ (hw _ (List.mem_of_getElem? (i := 25) rfl)) e281 (g := (mkF m 4 #[.val (.int (1 : Int32))] [(.int (2 : Int32))])) rfl (hb hby own_d_jdk_52_method_2_code_4) rfl (by decide) (cap := 2) (by decide) (by decide) (by decide) (by decide)
  obtain ⟨u, g282⟩ : ∃ z, z = h0.size := ⟨_, rfl⟩
  rw [← g282] at A282 st282
  refine OGo.step st282 ?_
  show OGo p e below (T282.setTop (mkF m 6 #[.val (.int (1 : Int32))] [(.ref u)])) _
  have gf_u : n0 ≤ u := Nat.le_trans Z0 (Nat.le_of_eq g282.symm)
  have sz282 : n0 ≤ h282.size := Nat.le_trans Z0 E282.1
  have Va : Arv Z h282 u k282 .byte (2 : Int32) [(.int (0 : Int32)), (.int (0 : Int32))] (.int (0 : Int32)) := (Arv.new A282 (by decide)).pad (pad_rep [] (.int (0 : Int32)) 2)
  exact own_ret X282 hx hlk hret rfl (Or.inr (Or.inr (Or.inr (Or.inr ⟨rfl, rfl, rfl⟩)))) (hb hby own_d_jdk_52_method_2_code_6) (by rw [e282]; exact ⟨u, _, rfl, Nc281, E282, (Nat.le_of_eq g282.symm), Va⟩) (by decide) (by decide)

set_option maxRecDepth 65536 in
set_option maxHeartbeats 40000000 in
theorem own_toB1 (l : Launch) (Z : State) (a0 : Array Value) (hw : ∀ d ∈ tables_1, d.before a0 Z = true) (ws : List Jvm.Cond) (ca : Addr) (kc : ClassId) (c0_ : Int32) (h0 : Heap) (n0 : Nat) (Z0 : n0 ≤ h0.size) (SA : Sta Z h0 "java/lang/StringUTF16" "$assertionsDisabled" "Z" (.int (1 : Int32))) (SH : Sta Z h0 "java/lang/StringUTF16" "HI_BYTE_SHIFT" "I" (.int (0 : Int32))) (SL : Sta Z h0 "java/lang/StringUTF16" "LO_BYTE_SHIFT" "I" (.int (8 : Int32))) (Vc : Arv Z h0 ca kc .char (1 : Int32) [(.int c0_)] (.int (0 : Int32))) :
    OMet l Z (⟨"java/lang/StringUTF16", "toBytes", "([CII)[B"⟩ : MethodName) jdk_52_method_14_code 5 (some (.array .byte)) ws ({ frames := 2, cells := 1, slots := 2, locals := 24 } : Room) #[(.ref ca), (.int (0 : Int32)), (.int (1 : Int32))] h0 (fun v h L => ∃ (u : Addr) (kb : ClassId), v = some (.ref u) ∧ Fr n0 L ∧ Ext h0 h ∧ h0.size ≤ u ∧ Arv Z h u kb .byte (2 : Int32) (StrChars.Road.wideBytes [c0_]) (.int (0 : Int32))) := by
  refine OMet.body (plainFor_of_name own_pn4) ?_
  intro p e s m below meth c s₁ hx hby hml hown hnm hret hlk hZ X0 e0
  refine OGo.step (fun _ kk => castTop (show entryFrame m #[(.ref ca), (.int (0 : Int32)), (.int (1 : Int32))] 5 = (mkF m 0 #[.val (.ref ca), .val (.int (0 : Int32)), .val (.int (1 : Int32)), .unset, .unset] []) from by first | (simp [entryFrame, mkF, argsToLocals, Value.category]; done) | rfl) kk) ?_
  show OGo p e below (s₁.setTop (mkF m 0 #[.val (.ref ca), .val (.int (0 : Int32)), .val (.int (1 : Int32)), .unset, .unset] [])) _
  refine OGo.step (fun _ kk => XS.iloadN X0.here hx rfl (hb hby own_d_jdk_52_method_14_code_0) rfl kk) ?_
  show OGo p e below (s₁.setTop (mkF m 1 #[.val (.ref ca), .val (.int (0 : Int32)), .val (.int (1 : Int32)), .unset, .unset] [(.int (1 : Int32))])) _
  refine own_callS X0 hx hZ (y := (⟨"java/lang/StringUTF16", "newBytesFor", "(I)[B"⟩ : MethodName)) hown (hw _ (List.mem_of_getElem? (i := 93) rfl)) (hw _ (List.mem_of_getElem? (i := 94) rfl)) (hw _ (List.mem_of_getElem? (i := 23) rfl)) (hw _ (List.mem_of_getElem? (i := 95) rfl)) (by decide) (W := 0) (own_nbf1 l Z a0 hw [] h0 n0 Z0) e0  (pc := 1) (Ls := #[.val (.ref ca), .val (.int (0 : Int32)), .val (.int (1 : Int32)), .unset, .unset]) (argsL := [(.int (1 : Int32))]) (rest := []) (by rw [hml]; rfl) (lenOf own_pd11 rfl) rfl (hb hby own_d_jdk_52_method_14_code_1) (by decide) (by decide) (by decide) (by decide) ?_
  intro v283 T283 L283 X283 hQ283
  obtain ⟨u, kb, rfl, N283, Xe283, gu, Vu⟩ := hQ283
  show OGo p e below (T283.setTop (mkF m 4 #[.val (.ref ca), .val (.int (0 : Int32)), .val (.int (1 : Int32)), .unset, .unset] [(.ref u)])) _
  have ncu : ca ≠ u := Nat.ne_of_lt (Nat.lt_of_lt_of_le Vc.lt gu)
  have Nc283 := Fr.app (Fr.nil n0) N283
  have sz283 : n0 ≤ T283.heap.size := Nat.le_trans Z0 Xe283.1
  have gfu : n0 ≤ u := Nat.le_trans Z0 gu
  refine OGo.step (fun _ kk => XS.astoreN X283.here hx rfl (hb hby own_d_jdk_52_method_14_code_4) rfl rfl (l' := #[.val (.ref ca), .val (.int (0 : Int32)), .val (.int (1 : Int32)), .val (.ref u), .unset]) rfl kk) ?_
  show OGo p e below (T283.setTop (mkF m 5 #[.val (.ref ca), .val (.int (0 : Int32)), .val (.int (1 : Int32)), .val (.ref u), .unset] [])) _
  refine OGo.step (fun _ kk => XS.iconst X283.here hx rfl (hb hby own_d_jdk_52_method_14_code_5) kk) ?_
  show OGo p e below (T283.setTop (mkF m 6 #[.val (.ref ca), .val (.int (0 : Int32)), .val (.int (1 : Int32)), .val (.ref u), .unset] [(.int (0 : Int32))])) _
  refine OGo.step (fun _ kk => XS.istore X283.here hx rfl (hb hby own_d_jdk_52_method_14_code_6) rfl (l' := #[.val (.ref ca), .val (.int (0 : Int32)), .val (.int (1 : Int32)), .val (.ref u), .val (.int (0 : Int32))]) rfl kk) ?_
  show OGo p e below (T283.setTop (mkF m 8 #[.val (.ref ca), .val (.int (0 : Int32)), .val (.int (1 : Int32)), .val (.ref u), .val (.int (0 : Int32))] [])) _
  show OGo p e below (T283.setTop (mkF m 8 #[.val (.ref ca), .val (.int (0 : Int32)), .val (.int (1 : Int32)), .val (.ref u), .val (.int (0 : Int32))] [])) _
  refine OGo.step (fun _ kk => XS.iload X283.here hx rfl (hb hby own_d_jdk_52_method_14_code_8) rfl kk) ?_
  show OGo p e below (T283.setTop (mkF m 10 #[.val (.ref ca), .val (.int (0 : Int32)), .val (.int (1 : Int32)), .val (.ref u), .val (.int (0 : Int32))] [(.int (0 : Int32))])) _
  refine OGo.step (fun _ kk => XS.iloadN X283.here hx rfl (hb hby own_d_jdk_52_method_14_code_10) rfl kk) ?_
  show OGo p e below (T283.setTop (mkF m 11 #[.val (.ref ca), .val (.int (0 : Int32)), .val (.int (1 : Int32)), .val (.ref u), .val (.int (0 : Int32))] [(.int (1 : Int32)), (.int (0 : Int32))])) _
  refine OGo.step (fun _ kk => XS.icmpNo X283.here hx rfl (hb hby own_d_jdk_52_method_14_code_11) rfl (tlt (by decide)).2.1 kk) ?_
  show OGo p e below (T283.setTop (mkF m 14 #[.val (.ref ca), .val (.int (0 : Int32)), .val (.int (1 : Int32)), .val (.ref u), .val (.int (0 : Int32))] [])) _
  refine OGo.step (fun _ kk => XS.aloadN X283.here hx rfl (hb hby own_d_jdk_52_method_14_code_14) rfl rfl kk) ?_
  show OGo p e below (T283.setTop (mkF m 15 #[.val (.ref ca), .val (.int (0 : Int32)), .val (.int (1 : Int32)), .val (.ref u), .val (.int (0 : Int32))] [(.ref u)])) _
  refine OGo.step (fun _ kk => XS.iload X283.here hx rfl (hb hby own_d_jdk_52_method_14_code_15) rfl kk) ?_
  show OGo p e below (T283.setTop (mkF m 17 #[.val (.ref ca), .val (.int (0 : Int32)), .val (.int (1 : Int32)), .val (.ref u), .val (.int (0 : Int32))] [(.int (0 : Int32)), (.ref u)])) _
  refine OGo.step (fun _ kk => XS.aloadN X283.here hx rfl (hb hby own_d_jdk_52_method_14_code_17) rfl rfl kk) ?_
  show OGo p e below (T283.setTop (mkF m 18 #[.val (.ref ca), .val (.int (0 : Int32)), .val (.int (1 : Int32)), .val (.ref u), .val (.int (0 : Int32))] [(.ref ca), (.int (0 : Int32)), (.ref u)])) _
  refine OGo.step (fun _ kk => XS.iloadN X283.here hx rfl (hb hby own_d_jdk_52_method_14_code_18) rfl kk) ?_
  show OGo p e below (T283.setTop (mkF m 19 #[.val (.ref ca), .val (.int (0 : Int32)), .val (.int (1 : Int32)), .val (.ref u), .val (.int (0 : Int32))] [(.int (0 : Int32)), (.ref ca), (.int (0 : Int32)), (.ref u)])) _
  have fc284 := (Vc.ext Xe283)
  obtain ⟨cA285, A285, q285, S285, M285, H285, G285⟩ := id fc284
  refine OGo.step (fun _ kk => X283.caload hx (j := (0 : Int32)) (v := (.int c0_)) (A285).1 (State.isArrayOf_alike hZ.alike (A285).2.1) (A285).2.2 (inb_of S285 ⟨by decide, by decide⟩) (H285 0 (by rw [S285]; decide)) (g := (mkF m 19 #[.val (.ref ca), .val (.int (0 : Int32)), .val (.int (1 : Int32)), .val (.ref u), .val (.int (0 : Int32))] [(.int (0 : Int32)), (.ref ca), (.int (0 : Int32)), (.ref u)])) rfl rfl (hb hby own_d_jdk_52_method_14_code_19) _ kk) ?_
  show OGo p e below (T283.setTop (mkF m 20 #[.val (.ref ca), .val (.int (0 : Int32)), .val (.int (1 : Int32)), .val (.ref u), .val (.int (0 : Int32))] [(.int c0_), (.int (0 : Int32)), (.ref u)])) _
  have fx286 := SA.ext Xe283
  have fx287 := SH.ext Xe283
  have fx288 := SL.ext Xe283
  refine own_callS X283 hx hZ (y := (⟨"java/lang/StringUTF16", "putChar", "([BII)V"⟩ : MethodName)) hown (hw _ (List.mem_of_getElem? (i := 100) rfl)) (hw _ (List.mem_of_getElem? (i := 101) rfl)) (hw _ (List.mem_of_getElem? (i := 23) rfl)) (hw _ (List.mem_of_getElem? (i := 102) rfl)) (by decide) (W := 0) (own_putc0 l Z a0 hw [] u kb _ [(.int (0 : Int32)), (.int (0 : Int32))] c0_ T283.heap n0 sz283 fx286 fx287 fx288 gfu Vu (Nat.le_of_ble_eq_true rfl) (by decide) (by decide)) rfl  (pc := 20) (Ls := #[.val (.ref ca), .val (.int (0 : Int32)), .val (.int (1 : Int32)), .val (.ref u), .val (.int (0 : Int32))]) (argsL := [(.ref u), (.int (0 : Int32)), (.int c0_)]) (rest := []) (by rw [hml]; rfl) (lenOf own_pd12 rfl) rfl (hb hby own_d_jdk_52_method_14_code_20) (by decide) (by decide) (by decide) (by decide) ?_
  intro v289 T289 L289 X289 hQ289
  obtain ⟨rfl, N289, K289, Va289⟩ := hQ289
  show OGo p e below (T289.setTop (mkF m 23 #[.val (.ref ca), .val (.int (0 : Int32)), .val (.int (1 : Int32)), .val (.ref u), .val (.int (0 : Int32))] [])) _
  have Nc289 := Fr.app Nc283 N289
  have sz289 : n0 ≤ T289.heap.size := Nat.le_trans sz283 K289.1
  refine OGo.step (fun _ kk => XS.iinc X289.here hx rfl (hb hby own_d_jdk_52_method_14_code_23) rfl (l' := #[.val (.ref ca), .val (.int ((0 : Int32) + (1 : Int32))), .val (.int (1 : Int32)), .val (.ref u), .val (.int (0 : Int32))]) rfl kk) ?_
  show OGo p e below (T289.setTop (mkF m 26 #[.val (.ref ca), .val (.int ((0 : Int32) + (1 : Int32))), .val (.int (1 : Int32)), .val (.ref u), .val (.int (0 : Int32))] [])) _
  refine OGo.step (fun _ kk => XS.iinc X289.here hx rfl (hb hby own_d_jdk_52_method_14_code_26) rfl (l' := #[.val (.ref ca), .val (.int ((0 : Int32) + (1 : Int32))), .val (.int (1 : Int32)), .val (.ref u), .val (.int ((0 : Int32) + (1 : Int32)))]) rfl kk) ?_
  show OGo p e below (T289.setTop (mkF m 29 #[.val (.ref ca), .val (.int ((0 : Int32) + (1 : Int32))), .val (.int (1 : Int32)), .val (.ref u), .val (.int ((0 : Int32) + (1 : Int32)))] [])) _
  refine OGo.step (fun _ kk => XS.goto X289.here hx rfl (pc0 := 29) (pc' := 8) rfl (hb hby own_d_jdk_52_method_14_code_29) (by decide) (by decide) kk) ?_
  show OGo p e below (T289.setTop (mkF m 8 #[.val (.ref ca), .val (.int ((0 : Int32) + (1 : Int32))), .val (.int (1 : Int32)), .val (.ref u), .val (.int ((0 : Int32) + (1 : Int32)))] [])) _
  show OGo p e below (T289.setTop (mkF m 8 #[.val (.ref ca), .val (.int (1 : Int32)), .val (.int (1 : Int32)), .val (.ref u), .val (.int (1 : Int32))] [])) _
  refine OGo.step (fun _ kk => XS.iload X289.here hx rfl (hb hby own_d_jdk_52_method_14_code_8) rfl kk) ?_
  show OGo p e below (T289.setTop (mkF m 10 #[.val (.ref ca), .val (.int (1 : Int32)), .val (.int (1 : Int32)), .val (.ref u), .val (.int (1 : Int32))] [(.int (1 : Int32))])) _
  refine OGo.step (fun _ kk => XS.iloadN X289.here hx rfl (hb hby own_d_jdk_52_method_14_code_10) rfl kk) ?_
  show OGo p e below (T289.setTop (mkF m 11 #[.val (.ref ca), .val (.int (1 : Int32)), .val (.int (1 : Int32)), .val (.ref u), .val (.int (1 : Int32))] [(.int (1 : Int32)), (.int (1 : Int32))])) _
  refine OGo.step (fun _ kk => XS.icmpYes X289.here hx rfl (pc0 := 11) (pc' := 32) rfl (hb hby own_d_jdk_52_method_14_code_11) rfl (flt (by decide)).2.1 (by decide) (by decide) kk) ?_
  show OGo p e below (T289.setTop (mkF m 32 #[.val (.ref ca), .val (.int (1 : Int32)), .val (.int (1 : Int32)), .val (.ref u), .val (.int (1 : Int32))] [])) _
  refine OGo.step (fun _ kk => XS.aloadN X289.here hx rfl (hb hby own_d_jdk_52_method_14_code_32) rfl rfl kk) ?_
  show OGo p e below (T289.setTop (mkF m 33 #[.val (.ref ca), .val (.int (1 : Int32)), .val (.int (1 : Int32)), .val (.ref u), .val (.int (1 : Int32))] [(.ref u)])) _
  have xt290 := (own_ext_keep Xe283 K289 (allS gu all0))
  exact own_ret X289 hx hlk hret rfl (Or.inr (Or.inr (Or.inr (Or.inr ⟨rfl, rfl, rfl⟩)))) (hb hby own_d_jdk_52_method_14_code_33) ⟨u, kb, rfl, Nc289, xt290, gu, Va289⟩ (by decide) (by decide)

set_option maxRecDepth 65536 in
set_option maxHeartbeats 40000000 in
theorem own_cmp5_1 (l : Launch) (Z : State) (a0 : Array Value) (hw : ∀ d ∈ tables_1, d.before a0 Z = true) (ws : List Jvm.Cond) (ca ba : Addr) (kc kb : ClassId) (c0_ : Int32) (h0 : Heap) (n0 : Nat) (Z0 : n0 ≤ h0.size) (Vc : Arv Z h0 ca kc .char (1 : Int32) [(.int c0_)] (.int (0 : Int32))) (Vb : Arv Z h0 ba kb .byte (1 : Int32) [(.int (0 : Int32))] (.int (0 : Int32))) (gb : n0 ≤ ba) (ncb : ca ≠ ba) (hex : (255 : Int32) < c0_) :
    OMet l Z (⟨"java/lang/StringUTF16", "compress", "([CI[BII)I"⟩ : MethodName) jdk_52_method_21_code 7 (some .int) ws ({ frames := 0, cells := 0, slots := 0, locals := 0 } : Room) #[(.ref ca), (.int (0 : Int32)), (.ref ba), (.int (0 : Int32)), (.int (1 : Int32))] h0 (fun v h L => ∃ k : Nat, v = some (.int (Int32.ofNat k)) ∧ k < 1 ∧ (255 : Int32) < ([c0_] : List Int32).getD k 0 ∧ Fr n0 L ∧ Keep h0 h [ba]) := by
  refine OMet.body (plainFor_of_name own_pn4) ?_
  intro p e s m below meth c s₁ hx hby hml hown hnm hret hlk hZ X0 e0
  refine OGo.step (fun _ kk => castTop (show entryFrame m #[(.ref ca), (.int (0 : Int32)), (.ref ba), (.int (0 : Int32)), (.int (1 : Int32))] 7 = (mkF m 0 #[.val (.ref ca), .val (.int (0 : Int32)), .val (.ref ba), .val (.int (0 : Int32)), .val (.int (1 : Int32)), .unset, .unset] []) from by first | (simp [entryFrame, mkF, argsToLocals, Value.category]; done) | rfl) kk) ?_
  show OGo p e below (s₁.setTop (mkF m 0 #[.val (.ref ca), .val (.int (0 : Int32)), .val (.ref ba), .val (.int (0 : Int32)), .val (.int (1 : Int32)), .unset, .unset] [])) _
  refine OGo.step (fun _ kk => XS.iconst X0.here hx rfl (hb hby own_d_jdk_52_method_21_code_0) kk) ?_
  show OGo p e below (s₁.setTop (mkF m 1 #[.val (.ref ca), .val (.int (0 : Int32)), .val (.ref ba), .val (.int (0 : Int32)), .val (.int (1 : Int32)), .unset, .unset] [(.int (0 : Int32))])) _
  refine OGo.step (fun _ kk => XS.istore X0.here hx rfl (hb hby own_d_jdk_52_method_21_code_1) rfl (l' := #[.val (.ref ca), .val (.int (0 : Int32)), .val (.ref ba), .val (.int (0 : Int32)), .val (.int (1 : Int32)), .val (.int (0 : Int32)), .unset]) rfl kk) ?_
  show OGo p e below (s₁.setTop (mkF m 3 #[.val (.ref ca), .val (.int (0 : Int32)), .val (.ref ba), .val (.int (0 : Int32)), .val (.int (1 : Int32)), .val (.int (0 : Int32)), .unset] [])) _
  refine OGo.step (fun _ kk => XS.iload X0.here hx rfl (hb hby own_d_jdk_52_method_21_code_3) rfl kk) ?_
  show OGo p e below (s₁.setTop (mkF m 5 #[.val (.ref ca), .val (.int (0 : Int32)), .val (.ref ba), .val (.int (0 : Int32)), .val (.int (1 : Int32)), .val (.int (0 : Int32)), .unset] [(.int (0 : Int32))])) _
  refine OGo.step (fun _ kk => XS.iload X0.here hx rfl (hb hby own_d_jdk_52_method_21_code_5) rfl kk) ?_
  show OGo p e below (s₁.setTop (mkF m 7 #[.val (.ref ca), .val (.int (0 : Int32)), .val (.ref ba), .val (.int (0 : Int32)), .val (.int (1 : Int32)), .val (.int (0 : Int32)), .unset] [(.int (1 : Int32)), (.int (0 : Int32))])) _
  refine OGo.step (fun _ kk => XS.icmpNo X0.here hx rfl (hb hby own_d_jdk_52_method_21_code_7) rfl (tlt (by decide)).2.1 kk) ?_
  show OGo p e below (s₁.setTop (mkF m 10 #[.val (.ref ca), .val (.int (0 : Int32)), .val (.ref ba), .val (.int (0 : Int32)), .val (.int (1 : Int32)), .val (.int (0 : Int32)), .unset] [])) _
  refine OGo.step (fun _ kk => XS.aloadN X0.here hx rfl (hb hby own_d_jdk_52_method_21_code_10) rfl rfl kk) ?_
  show OGo p e below (s₁.setTop (mkF m 11 #[.val (.ref ca), .val (.int (0 : Int32)), .val (.ref ba), .val (.int (0 : Int32)), .val (.int (1 : Int32)), .val (.int (0 : Int32)), .unset] [(.ref ca)])) _
  refine OGo.step (fun _ kk => XS.iloadN X0.here hx rfl (hb hby own_d_jdk_52_method_21_code_11) rfl kk) ?_
  show OGo p e below (s₁.setTop (mkF m 12 #[.val (.ref ca), .val (.int (0 : Int32)), .val (.ref ba), .val (.int (0 : Int32)), .val (.int (1 : Int32)), .val (.int (0 : Int32)), .unset] [(.int (0 : Int32)), (.ref ca)])) _
  obtain ⟨cA291, A291, q291, S291, M291, H291, G291⟩ := id Vc
  refine OGo.step (fun _ kk => X0.caload hx (j := (0 : Int32)) (v := (.int c0_)) (by rw [e0]; exact (A291).1) (State.isArrayOf_alike hZ.alike (A291).2.1) (A291).2.2 (inb_of S291 ⟨by decide, by decide⟩) (H291 0 (by rw [S291]; decide)) (g := (mkF m 12 #[.val (.ref ca), .val (.int (0 : Int32)), .val (.ref ba), .val (.int (0 : Int32)), .val (.int (1 : Int32)), .val (.int (0 : Int32)), .unset] [(.int (0 : Int32)), (.ref ca)])) rfl rfl (hb hby own_d_jdk_52_method_21_code_12) _ kk) ?_
  show OGo p e below (s₁.setTop (mkF m 13 #[.val (.ref ca), .val (.int (0 : Int32)), .val (.ref ba), .val (.int (0 : Int32)), .val (.int (1 : Int32)), .val (.int (0 : Int32)), .unset] [(.int c0_)])) _
  refine OGo.step (fun _ kk => XS.istore X0.here hx rfl (hb hby own_d_jdk_52_method_21_code_13) rfl (l' := #[.val (.ref ca), .val (.int (0 : Int32)), .val (.ref ba), .val (.int (0 : Int32)), .val (.int (1 : Int32)), .val (.int (0 : Int32)), .val (.int c0_)]) rfl kk) ?_
  show OGo p e below (s₁.setTop (mkF m 15 #[.val (.ref ca), .val (.int (0 : Int32)), .val (.ref ba), .val (.int (0 : Int32)), .val (.int (1 : Int32)), .val (.int (0 : Int32)), .val (.int c0_)] [])) _
  refine OGo.step (fun _ kk => XS.iload X0.here hx rfl (hb hby own_d_jdk_52_method_21_code_15) rfl kk) ?_
  show OGo p e below (s₁.setTop (mkF m 17 #[.val (.ref ca), .val (.int (0 : Int32)), .val (.ref ba), .val (.int (0 : Int32)), .val (.int (1 : Int32)), .val (.int (0 : Int32)), .val (.int c0_)] [(.int c0_)])) _
  refine OGo.step (fun _ kk => XS.sipush X0.here hx rfl (hb hby own_d_jdk_52_method_21_code_17) kk) ?_
  show OGo p e below (s₁.setTop (mkF m 20 #[.val (.ref ca), .val (.int (0 : Int32)), .val (.ref ba), .val (.int (0 : Int32)), .val (.int (1 : Int32)), .val (.int (0 : Int32)), .val (.int c0_)] [(.int (255 : Int32)), (.int c0_)])) _
  by_cases hq0 : (255 : Int32) < c0_
  · refine OGo.step (fun _ kk => XS.icmpNo X0.here hx rfl (hb hby own_d_jdk_52_method_21_code_20) rfl (tlt hq0).2.2.2 kk) ?_
    show OGo p e below (s₁.setTop (mkF m 23 #[.val (.ref ca), .val (.int (0 : Int32)), .val (.ref ba), .val (.int (0 : Int32)), .val (.int (1 : Int32)), .val (.int (0 : Int32)), .val (.int c0_)] [])) _
    refine OGo.step (fun _ kk => XS.iload X0.here hx rfl (hb hby own_d_jdk_52_method_21_code_23) rfl kk) ?_
    show OGo p e below (s₁.setTop (mkF m 25 #[.val (.ref ca), .val (.int (0 : Int32)), .val (.ref ba), .val (.int (0 : Int32)), .val (.int (1 : Int32)), .val (.int (0 : Int32)), .val (.int c0_)] [(.int (0 : Int32))])) _
    have HK := (Keep.refl h0 [ba])
    exact own_ret X0 hx hlk hret rfl (Or.inl ⟨rfl, Or.inl rfl, _, rfl⟩) (hb hby own_d_jdk_52_method_21_code_25) (by rw [e0]; exact ⟨0, rfl, by decide, hq0, (Fr.nil n0), HK⟩) (by decide) (by decide)
  · skip
    refine OGo.step (fun _ kk => XS.icmpYes X0.here hx rfl (pc0 := 20) (pc' := 26) rfl (hb hby own_d_jdk_52_method_21_code_20) rfl (flt hq0).2.2.2 (by decide) (by decide) kk) ?_
    show OGo p e below (s₁.setTop (mkF m 26 #[.val (.ref ca), .val (.int (0 : Int32)), .val (.ref ba), .val (.int (0 : Int32)), .val (.int (1 : Int32)), .val (.int (0 : Int32)), .val (.int c0_)] [])) _
    refine OGo.step (fun _ kk => XS.aloadN X0.here hx rfl (hb hby own_d_jdk_52_method_21_code_26) rfl rfl kk) ?_
    show OGo p e below (s₁.setTop (mkF m 27 #[.val (.ref ca), .val (.int (0 : Int32)), .val (.ref ba), .val (.int (0 : Int32)), .val (.int (1 : Int32)), .val (.int (0 : Int32)), .val (.int c0_)] [(.ref ba)])) _
    refine OGo.step (fun _ kk => XS.iloadN X0.here hx rfl (hb hby own_d_jdk_52_method_21_code_27) rfl kk) ?_
    show OGo p e below (s₁.setTop (mkF m 28 #[.val (.ref ca), .val (.int (0 : Int32)), .val (.ref ba), .val (.int (0 : Int32)), .val (.int (1 : Int32)), .val (.int (0 : Int32)), .val (.int c0_)] [(.int (0 : Int32)), (.ref ba)])) _
    refine OGo.step (fun _ kk => XS.iload X0.here hx rfl (hb hby own_d_jdk_52_method_21_code_28) rfl kk) ?_
    show OGo p e below (s₁.setTop (mkF m 30 #[.val (.ref ca), .val (.int (0 : Int32)), .val (.ref ba), .val (.int (0 : Int32)), .val (.int (1 : Int32)), .val (.int (0 : Int32)), .val (.int c0_)] [(.int c0_), (.int (0 : Int32)), (.ref ba)])) _
    refine OGo.step (fun _ kk => XS.i2b X0.here hx rfl (hb hby own_d_jdk_52_method_21_code_30) rfl kk) ?_
    show OGo p e below (s₁.setTop (mkF m 31 #[.val (.ref ca), .val (.int (0 : Int32)), .val (.ref ba), .val (.int (0 : Int32)), .val (.int (1 : Int32)), .val (.int (0 : Int32)), .val (.int c0_)] [(.int (c0_.toInt8.toInt32)), (.int (0 : Int32)), (.ref ba)])) _
    obtain ⟨cA292, A292, q292, S292, M292, H292, G292⟩ := id Vb
    obtain ⟨T293, h293, X293, e293, W293, st293⟩ := stB X0 hx hZ e0 A292 (j := (0 : Int32)) (inb_of S292 ⟨by decide, by decide⟩) (g := (mkF m 31 #[.val (.ref ca), .val (.int (0 : Int32)), .val (.ref ba), .val (.int (0 : Int32)), .val (.int (1 : Int32)), .val (.int (0 : Int32)), .val (.int c0_)] [(.int (c0_.toInt8.toInt32)), (.int (0 : Int32)), (.ref ba)])) rfl rfl (hb hby own_d_jdk_52_method_21_code_31)
    refine OGo.step st293 ?_
    show OGo p e below (T293.setTop (mkF m 32 #[.val (.ref ca), .val (.int (0 : Int32)), .val (.ref ba), .val (.int (0 : Int32)), .val (.int (1 : Int32)), .val (.int (0 : Int32)), .val (.int c0_)] [])) _
    have Va292 : Arv Z h293 ba kb .byte (1 : Int32) [(.int (nar .byte (c0_.toInt8.toInt32)))] (.int (0 : Int32)) := Arv.set A292 q292 S292 M292 H292 G292 (fits_nar_byte _) W293 0 rfl (Nat.le_of_ble_eq_true rfl)
    have Nf293 := Fr.snoc X293 (Fr.nil n0) gb
    have sz293 : n0 ≤ h293.size := by rw [W293.size]; exact Z0
    refine OGo.step (fun _ kk => XS.iinc X293.here hx rfl (hb hby own_d_jdk_52_method_21_code_32) rfl (l' := #[.val (.ref ca), .val (.int ((0 : Int32) + (1 : Int32))), .val (.ref ba), .val (.int (0 : Int32)), .val (.int (1 : Int32)), .val (.int (0 : Int32)), .val (.int c0_)]) rfl kk) ?_
    show OGo p e below (T293.setTop (mkF m 35 #[.val (.ref ca), .val (.int ((0 : Int32) + (1 : Int32))), .val (.ref ba), .val (.int (0 : Int32)), .val (.int (1 : Int32)), .val (.int (0 : Int32)), .val (.int c0_)] [])) _
    refine OGo.step (fun _ kk => XS.iinc X293.here hx rfl (hb hby own_d_jdk_52_method_21_code_35) rfl (l' := #[.val (.ref ca), .val (.int ((0 : Int32) + (1 : Int32))), .val (.ref ba), .val (.int ((0 : Int32) + (1 : Int32))), .val (.int (1 : Int32)), .val (.int (0 : Int32)), .val (.int c0_)]) rfl kk) ?_
    show OGo p e below (T293.setTop (mkF m 38 #[.val (.ref ca), .val (.int ((0 : Int32) + (1 : Int32))), .val (.ref ba), .val (.int ((0 : Int32) + (1 : Int32))), .val (.int (1 : Int32)), .val (.int (0 : Int32)), .val (.int c0_)] [])) _
    refine OGo.step (fun _ kk => XS.iinc X293.here hx rfl (hb hby own_d_jdk_52_method_21_code_38) rfl (l' := #[.val (.ref ca), .val (.int ((0 : Int32) + (1 : Int32))), .val (.ref ba), .val (.int ((0 : Int32) + (1 : Int32))), .val (.int (1 : Int32)), .val (.int ((0 : Int32) + (1 : Int32))), .val (.int c0_)]) rfl kk) ?_
    show OGo p e below (T293.setTop (mkF m 41 #[.val (.ref ca), .val (.int ((0 : Int32) + (1 : Int32))), .val (.ref ba), .val (.int ((0 : Int32) + (1 : Int32))), .val (.int (1 : Int32)), .val (.int ((0 : Int32) + (1 : Int32))), .val (.int c0_)] [])) _
    refine OGo.step (fun _ kk => XS.goto X293.here hx rfl (pc0 := 41) (pc' := 3) rfl (hb hby own_d_jdk_52_method_21_code_41) (by decide) (by decide) kk) ?_
    show OGo p e below (T293.setTop (mkF m 3 #[.val (.ref ca), .val (.int ((0 : Int32) + (1 : Int32))), .val (.ref ba), .val (.int ((0 : Int32) + (1 : Int32))), .val (.int (1 : Int32)), .val (.int ((0 : Int32) + (1 : Int32))), .val (.int c0_)] [])) _
    show OGo p e below (T293.setTop (mkF m 3 #[.val (.ref ca), .val (.int (1 : Int32)), .val (.ref ba), .val (.int (1 : Int32)), .val (.int (1 : Int32)), .val (.int (1 : Int32)), .val (.int c0_)] [])) _
    refine OGo.step (fun _ kk => XS.iload X293.here hx rfl (hb hby own_d_jdk_52_method_21_code_3) rfl kk) ?_
    show OGo p e below (T293.setTop (mkF m 5 #[.val (.ref ca), .val (.int (1 : Int32)), .val (.ref ba), .val (.int (1 : Int32)), .val (.int (1 : Int32)), .val (.int (1 : Int32)), .val (.int c0_)] [(.int (1 : Int32))])) _
    refine OGo.step (fun _ kk => XS.iload X293.here hx rfl (hb hby own_d_jdk_52_method_21_code_5) rfl kk) ?_
    show OGo p e below (T293.setTop (mkF m 7 #[.val (.ref ca), .val (.int (1 : Int32)), .val (.ref ba), .val (.int (1 : Int32)), .val (.int (1 : Int32)), .val (.int (1 : Int32)), .val (.int c0_)] [(.int (1 : Int32)), (.int (1 : Int32))])) _
    exact False.elim (hq0 hex)

theorem own_kne1 : ∀ k : Nat, k < 1 → ¬ Int32.ofNat k = (1 : Int32) := by decide
set_option maxRecDepth 65536 in
set_option maxHeartbeats 40000000 in
theorem own_cmp3_1 (l : Launch) (Z : State) (a0 : Array Value) (hw : ∀ d ∈ tables_1, d.before a0 Z = true) (ws : List Jvm.Cond) (ca : Addr) (kc : ClassId) (c0_ : Int32) (h0 : Heap) (n0 : Nat) (Z0 : n0 ≤ h0.size) (SA : Sta Z h0 "java/lang/StringUTF16" "$assertionsDisabled" "Z" (.int (1 : Int32))) (SH : Sta Z h0 "java/lang/StringUTF16" "HI_BYTE_SHIFT" "I" (.int (0 : Int32))) (SL : Sta Z h0 "java/lang/StringUTF16" "LO_BYTE_SHIFT" "I" (.int (8 : Int32))) (Vc : Arv Z h0 ca kc .char (1 : Int32) [(.int c0_)] (.int (0 : Int32))) (hb0 : ¬ c0_ < 0 ∧ ¬ (65535 : Int32) < c0_) (hex : (255 : Int32) < c0_) :
    OMet l Z (⟨"java/lang/StringUTF16", "compress", "([CII)[B"⟩ : MethodName) jdk_52_method_16_code 6 (some (.array .byte)) ws ({ frames := 3, cells := 2, slots := 3, locals := 40 } : Room) #[(.ref ca), (.int (0 : Int32)), (.int (1 : Int32))] h0 (fun v h L => ∃ (u : Addr) (kb : ClassId), v = some (.ref u) ∧ Fr n0 L ∧ Ext h0 h ∧ h0.size ≤ u ∧ Arv Z h u kb .byte (2 : Int32) (StrChars.Road.wideBytes [c0_]) (.int (0 : Int32))) := by
  refine OMet.body (plainFor_of_name own_pn4) ?_
  intro p e s m below meth c s₁ hx hby hml hown hnm hret hlk hZ X0 e0
  refine OGo.step (fun _ kk => castTop (show entryFrame m #[(.ref ca), (.int (0 : Int32)), (.int (1 : Int32))] 6 = (mkF m 0 #[.val (.ref ca), .val (.int (0 : Int32)), .val (.int (1 : Int32)), .unset, .unset, .unset] []) from by first | (simp [entryFrame, mkF, argsToLocals, Value.category]; done) | rfl) kk) ?_
  show OGo p e below (s₁.setTop (mkF m 0 #[.val (.ref ca), .val (.int (0 : Int32)), .val (.int (1 : Int32)), .unset, .unset, .unset] [])) _
  refine OGo.step (fun _ kk => XS.iloadN X0.here hx rfl (hb hby own_d_jdk_52_method_16_code_0) rfl kk) ?_
  show OGo p e below (s₁.setTop (mkF m 1 #[.val (.ref ca), .val (.int (0 : Int32)), .val (.int (1 : Int32)), .unset, .unset, .unset] [(.int (1 : Int32))])) _
  obtain ⟨T294, h294, k294, X294, e294, E294, A294, st294⟩ := newP X0 hx hZ (hw _ (List.mem_of_getElem? (i := 25) rfl)) e0 (g := (mkF m 1 #[.val (.ref ca), .val (.int (0 : Int32)), .val (.int (1 : Int32)), .unset, .unset, .unset] [(.int (1 : Int32))])) rfl (hb hby own_d_jdk_52_method_16_code_1) rfl (by decide) (cap := 1) (by decide) (by decide) (by decide) (by decide)
  obtain ⟨ba, g294⟩ : ∃ z, z = h0.size := ⟨_, rfl⟩
  rw [← g294] at A294 st294
  refine OGo.step st294 ?_
  show OGo p e below (T294.setTop (mkF m 3 #[.val (.ref ca), .val (.int (0 : Int32)), .val (.int (1 : Int32)), .unset, .unset, .unset] [(.ref ba)])) _
  have ne_ca_ba : ca ≠ ba := Nat.ne_of_lt (Nat.lt_of_lt_of_le Vc.lt (Nat.le_of_eq g294.symm))
  have gf_ba : n0 ≤ ba := Nat.le_trans Z0 (Nat.le_of_eq g294.symm)
  have sz294 : n0 ≤ h294.size := Nat.le_trans Z0 E294.1
  have Va : Arv Z h294 ba k294 .byte (1 : Int32) [(.int (0 : Int32))] (.int (0 : Int32)) := (Arv.new A294 (by decide)).pad (pad_rep [] (.int (0 : Int32)) 1)
  refine OGo.step (fun _ kk => XS.astoreN X294.here hx rfl (hb hby own_d_jdk_52_method_16_code_3) rfl rfl (l' := #[.val (.ref ca), .val (.int (0 : Int32)), .val (.int (1 : Int32)), .val (.ref ba), .unset, .unset]) rfl kk) ?_
  show OGo p e below (T294.setTop (mkF m 4 #[.val (.ref ca), .val (.int (0 : Int32)), .val (.int (1 : Int32)), .val (.ref ba), .unset, .unset] [])) _
  refine OGo.step (fun _ kk => XS.aloadN X294.here hx rfl (hb hby own_d_jdk_52_method_16_code_4) rfl rfl kk) ?_
  show OGo p e below (T294.setTop (mkF m 5 #[.val (.ref ca), .val (.int (0 : Int32)), .val (.int (1 : Int32)), .val (.ref ba), .unset, .unset] [(.ref ca)])) _
  refine OGo.step (fun _ kk => XS.iloadN X294.here hx rfl (hb hby own_d_jdk_52_method_16_code_5) rfl kk) ?_
  show OGo p e below (T294.setTop (mkF m 6 #[.val (.ref ca), .val (.int (0 : Int32)), .val (.int (1 : Int32)), .val (.ref ba), .unset, .unset] [(.int (0 : Int32)), (.ref ca)])) _
  refine OGo.step (fun _ kk => XS.aloadN X294.here hx rfl (hb hby own_d_jdk_52_method_16_code_6) rfl rfl kk) ?_
  show OGo p e below (T294.setTop (mkF m 7 #[.val (.ref ca), .val (.int (0 : Int32)), .val (.int (1 : Int32)), .val (.ref ba), .unset, .unset] [(.ref ba), (.int (0 : Int32)), (.ref ca)])) _
  refine OGo.step (fun _ kk => XS.iconst X294.here hx rfl (hb hby own_d_jdk_52_method_16_code_7) kk) ?_
  show OGo p e below (T294.setTop (mkF m 8 #[.val (.ref ca), .val (.int (0 : Int32)), .val (.int (1 : Int32)), .val (.ref ba), .unset, .unset] [(.int (0 : Int32)), (.ref ba), (.int (0 : Int32)), (.ref ca)])) _
  refine OGo.step (fun _ kk => XS.iloadN X294.here hx rfl (hb hby own_d_jdk_52_method_16_code_8) rfl kk) ?_
  show OGo p e below (T294.setTop (mkF m 9 #[.val (.ref ca), .val (.int (0 : Int32)), .val (.int (1 : Int32)), .val (.ref ba), .unset, .unset] [(.int (1 : Int32)), (.int (0 : Int32)), (.ref ba), (.int (0 : Int32)), (.ref ca)])) _
  have fc295 := (Vc.ext E294)
  refine own_callS X294 hx hZ (y := (⟨"java/lang/StringUTF16", "compress", "([CI[BII)I"⟩ : MethodName)) hown (hw _ (List.mem_of_getElem? (i := 26) rfl)) (hw _ (List.mem_of_getElem? (i := 27) rfl)) (hw _ (List.mem_of_getElem? (i := 23) rfl)) (hw _ (List.mem_of_getElem? (i := 28) rfl)) (by decide) (W := 0) (own_cmp5_1 l Z a0 hw [] ca ba kc _ c0_ h294 n0 sz294 fc295 Va gf_ba ne_ca_ba hex) e294  (pc := 9) (Ls := #[.val (.ref ca), .val (.int (0 : Int32)), .val (.int (1 : Int32)), .val (.ref ba), .unset, .unset]) (argsL := [(.ref ca), (.int (0 : Int32)), (.ref ba), (.int (0 : Int32)), (.int (1 : Int32))]) (rest := []) (by rw [hml]; rfl) (lenOf own_pd13 rfl) rfl (hb hby own_d_jdk_52_method_16_code_9) (by decide) (by decide) (by decide) (by decide) ?_
  intro v296 T296 L296 X296 hQ296
  obtain ⟨kq_, rfl, hk, hk2, N296, K296⟩ := hQ296
  show OGo p e below (T296.setTop (mkF m 12 #[.val (.ref ca), .val (.int (0 : Int32)), .val (.int (1 : Int32)), .val (.ref ba), .unset, .unset] [(.int (Int32.ofNat kq_))])) _
  have Nc296 := Fr.app (Fr.nil n0) N296
  have sz296 : n0 ≤ T296.heap.size := Nat.le_trans sz294 K296.1
  refine OGo.step (fun _ kk => XS.istore X296.here hx rfl (hb hby own_d_jdk_52_method_16_code_12) rfl (l' := #[.val (.ref ca), .val (.int (0 : Int32)), .val (.int (1 : Int32)), .val (.ref ba), .val (.int (Int32.ofNat kq_)), .unset]) rfl kk) ?_
  show OGo p e below (T296.setTop (mkF m 14 #[.val (.ref ca), .val (.int (0 : Int32)), .val (.int (1 : Int32)), .val (.ref ba), .val (.int (Int32.ofNat kq_)), .unset] [])) _
  refine OGo.step (fun _ kk => XS.iload X296.here hx rfl (hb hby own_d_jdk_52_method_16_code_14) rfl kk) ?_
  show OGo p e below (T296.setTop (mkF m 16 #[.val (.ref ca), .val (.int (0 : Int32)), .val (.int (1 : Int32)), .val (.ref ba), .val (.int (Int32.ofNat kq_)), .unset] [(.int (Int32.ofNat kq_))])) _
  refine OGo.step (fun _ kk => XS.iloadN X296.here hx rfl (hb hby own_d_jdk_52_method_16_code_16) rfl kk) ?_
  show OGo p e below (T296.setTop (mkF m 17 #[.val (.ref ca), .val (.int (0 : Int32)), .val (.int (1 : Int32)), .val (.ref ba), .val (.int (Int32.ofNat kq_)), .unset] [(.int (1 : Int32)), (.int (Int32.ofNat kq_))])) _
  refine OGo.step (fun _ kk => XS.icmpNo X296.here hx rfl (hb hby own_d_jdk_52_method_16_code_17) rfl (feq (own_kne1 kq_ hk)).1 kk) ?_
  show OGo p e below (T296.setTop (mkF m 20 #[.val (.ref ca), .val (.int (0 : Int32)), .val (.int (1 : Int32)), .val (.ref ba), .val (.int (Int32.ofNat kq_)), .unset] [])) _
  refine OGo.step (fun _ kk => XS.aloadN X296.here hx rfl (hb hby own_d_jdk_52_method_16_code_20) rfl rfl kk) ?_
  show OGo p e below (T296.setTop (mkF m 21 #[.val (.ref ca), .val (.int (0 : Int32)), .val (.int (1 : Int32)), .val (.ref ba), .val (.int (Int32.ofNat kq_)), .unset] [(.ref ca)])) _
  refine OGo.step (fun _ kk => XS.iloadN X296.here hx rfl (hb hby own_d_jdk_52_method_16_code_21) rfl kk) ?_
  show OGo p e below (T296.setTop (mkF m 22 #[.val (.ref ca), .val (.int (0 : Int32)), .val (.int (1 : Int32)), .val (.ref ba), .val (.int (Int32.ofNat kq_)), .unset] [(.int (0 : Int32)), (.ref ca)])) _
  refine OGo.step (fun _ kk => XS.iloadN X296.here hx rfl (hb hby own_d_jdk_52_method_16_code_22) rfl kk) ?_
  show OGo p e below (T296.setTop (mkF m 23 #[.val (.ref ca), .val (.int (0 : Int32)), .val (.int (1 : Int32)), .val (.ref ba), .val (.int (Int32.ofNat kq_)), .unset] [(.int (1 : Int32)), (.int (0 : Int32)), (.ref ca)])) _
  have xt297 := (own_ext_keep E294 K296 (allS (Nat.le_of_eq g294.symm) all0))
  have fx298 := SA.ext xt297
  have fx299 := SH.ext xt297
  have fx300 := SL.ext xt297
  have fc301 := (fc295.keep K296 (ninS ne_ca_ba nin0))
  refine own_callS X296 hx hZ (y := (⟨"java/lang/StringUTF16", "toBytes", "([CII)[B"⟩ : MethodName)) hown (hw _ (List.mem_of_getElem? (i := 90) rfl)) (hw _ (List.mem_of_getElem? (i := 91) rfl)) (hw _ (List.mem_of_getElem? (i := 23) rfl)) (hw _ (List.mem_of_getElem? (i := 92) rfl)) (by decide) (W := 0) (own_toB1 l Z a0 hw [] ca kc c0_ T296.heap n0 sz296 fx298 fx299 fx300 fc301) rfl  (pc := 23) (Ls := #[.val (.ref ca), .val (.int (0 : Int32)), .val (.int (1 : Int32)), .val (.ref ba), .val (.int (Int32.ofNat kq_)), .unset]) (argsL := [(.ref ca), (.int (0 : Int32)), (.int (1 : Int32))]) (rest := []) (by rw [hml]; rfl) (lenOf own_pd14 rfl) rfl (hb hby own_d_jdk_52_method_16_code_23) (by decide) (by decide) (by decide) (by decide) ?_
  intro v302 T302 L302 X302 hQ302
  obtain ⟨u, kb, rfl, N302, Xe302, gu302, Vu⟩ := hQ302
  show OGo p e below (T302.setTop (mkF m 26 #[.val (.ref ca), .val (.int (0 : Int32)), .val (.int (1 : Int32)), .val (.ref ba), .val (.int (Int32.ofNat kq_)), .unset] [(.ref u)])) _
  have gu0 := Nat.le_trans (xt297).1 gu302
  have Nc302 := Fr.app Nc296 N302
  have sz302 : n0 ≤ T302.heap.size := Nat.le_trans sz296 Xe302.1
  refine OGo.step (fun _ kk => XS.astore X302.here hx rfl (hb hby own_d_jdk_52_method_16_code_26) rfl rfl (l' := #[.val (.ref ca), .val (.int (0 : Int32)), .val (.int (1 : Int32)), .val (.ref ba), .val (.int (Int32.ofNat kq_)), .val (.ref u)]) rfl kk) ?_
  show OGo p e below (T302.setTop (mkF m 28 #[.val (.ref ca), .val (.int (0 : Int32)), .val (.int (1 : Int32)), .val (.ref ba), .val (.int (Int32.ofNat kq_)), .val (.ref u)] [])) _
  refine OGo.step (fun _ kk => XS.aload X302.here hx rfl (hb hby own_d_jdk_52_method_16_code_28) rfl rfl kk) ?_
  show OGo p e below (T302.setTop (mkF m 30 #[.val (.ref ca), .val (.int (0 : Int32)), .val (.int (1 : Int32)), .val (.ref ba), .val (.int (Int32.ofNat kq_)), .val (.ref u)] [(.ref u)])) _
  refine OGo.step (fun _ kk => XS.iload X302.here hx rfl (hb hby own_d_jdk_52_method_16_code_30) rfl kk) ?_
  show OGo p e below (T302.setTop (mkF m 32 #[.val (.ref ca), .val (.int (0 : Int32)), .val (.int (1 : Int32)), .val (.ref ba), .val (.int (Int32.ofNat kq_)), .val (.ref u)] [(.int (Int32.ofNat kq_)), (.ref u)])) _
  obtain rfl : kq_ = 0 := by omega
  show OGo p e below (T302.setTop (mkF m 32 #[.val (.ref ca), .val (.int (0 : Int32)), .val (.int (1 : Int32)), .val (.ref ba), .val (.int (0 : Int32)), .val (.ref u)] [(.int (0 : Int32)), (.ref u)])) _
  have xt303 := (own_ext_trans xt297 Xe302)
  have fx304 := SA.ext xt303
  have fx305 := SH.ext xt303
  have fx306 := SL.ext xt303
  refine own_callS X302 hx hZ (y := (⟨"java/lang/StringUTF16", "getChar", "([BI)C"⟩ : MethodName)) hown (hw _ (List.mem_of_getElem? (i := 106) rfl)) (hw _ (List.mem_of_getElem? (i := 107) rfl)) (hw _ (List.mem_of_getElem? (i := 23) rfl)) (hw _ (List.mem_of_getElem? (i := 108) rfl)) (by decide) (W := 0) (own_getc0 l Z a0 hw [] u kb _ (StrChars.Road.wideBytes [c0_]) (StrChars.lo8 c0_) (StrChars.hi8 c0_) T302.heap n0 sz302 fx304 fx305 fx306 Vu (by decide) (by decide) (by decide) (by decide) rfl rfl) rfl  (pc := 32) (Ls := #[.val (.ref ca), .val (.int (0 : Int32)), .val (.int (1 : Int32)), .val (.ref ba), .val (.int (0 : Int32)), .val (.ref u)]) (argsL := [(.ref u), (.int (0 : Int32))]) (rest := []) (by rw [hml]; rfl) (lenOf own_pd15 rfl) rfl (hb hby own_d_jdk_52_method_16_code_32) (by decide) (by decide) (by decide) (by decide) ?_
  intro v307 T307 L307 X307 hQ307
  obtain ⟨rfl, N307, e307⟩ := hQ307
  show OGo p e below (T307.setTop (mkF m 35 #[.val (.ref ca), .val (.int (0 : Int32)), .val (.int (1 : Int32)), .val (.ref ba), .val (.int (0 : Int32)), .val (.ref u)] [(.int (StrChars.pairCh (StrChars.lo8 c0_) (StrChars.hi8 c0_)))])) _
  have Nc307 := Fr.app Nc302 N307
  rw [StrChars.pair_says hb0.1 hb0.2]
  show OGo p e below (T307.setTop (mkF m 35 #[.val (.ref ca), .val (.int (0 : Int32)), .val (.int (1 : Int32)), .val (.ref ba), .val (.int (0 : Int32)), .val (.ref u)] [(.int c0_)])) _
  refine OGo.step (fun _ kk => XS.sipush X307.here hx rfl (hb hby own_d_jdk_52_method_16_code_35) kk) ?_
  show OGo p e below (T307.setTop (mkF m 38 #[.val (.ref ca), .val (.int (0 : Int32)), .val (.int (1 : Int32)), .val (.ref ba), .val (.int (0 : Int32)), .val (.ref u)] [(.int (255 : Int32)), (.int c0_)])) _
  refine OGo.step (fun _ kk => XS.icmpYes X307.here hx rfl (pc0 := 38) (pc' := 54) rfl (hb hby own_d_jdk_52_method_16_code_38) rfl (tlt hk2).2.2.1 (by decide) (by decide) kk) ?_
  show OGo p e below (T307.setTop (mkF m 54 #[.val (.ref ca), .val (.int (0 : Int32)), .val (.int (1 : Int32)), .val (.ref ba), .val (.int (0 : Int32)), .val (.ref u)] [])) _
  refine OGo.step (fun _ kk => XS.aload X307.here hx rfl (hb hby own_d_jdk_52_method_16_code_54) rfl rfl kk) ?_
  show OGo p e below (T307.setTop (mkF m 56 #[.val (.ref ca), .val (.int (0 : Int32)), .val (.int (1 : Int32)), .val (.ref ba), .val (.int (0 : Int32)), .val (.ref u)] [(.ref u)])) _
  exact own_ret X307 hx hlk hret rfl (Or.inr (Or.inr (Or.inr (Or.inr ⟨rfl, rfl, rfl⟩)))) (hb hby own_d_jdk_52_method_16_code_56) (by rw [e307]; exact ⟨u, kb, rfl, Nc307, xt303, gu0, Vu⟩) (by decide) (by decide)

set_option maxRecDepth 65536 in
set_option maxHeartbeats 40000000 in
theorem own_codl1 (l : Launch) (Z : State) (a0 : Array Value) (hw : ∀ d ∈ tables_1, d.before a0 Z = true) (ws : List Jvm.Cond) (u : Addr) (kb : ClassId) (vs : List Value) (h0 : Heap) (n0 : Nat) (Z0 : n0 ≤ h0.size) (Vu : Arv Z h0 u kb .byte (2 : Int32) vs (.int (0 : Int32))) :
    OMet l Z (⟨"java/lang/StringUTF16", "coderFromArrayLen", "([BI)B"⟩ : MethodName) jdk_52_method_15_code 2 (some .byte) ws ({ frames := 0, cells := 0, slots := 0, locals := 0 } : Room) #[(.ref u), (.int (1 : Int32))] h0 (fun v h L => v = some (.int (1 : Int32)) ∧ Fr n0 L ∧ h = h0) := by
  refine OMet.body (plainFor_of_name own_pn4) ?_
  intro p e s m below meth c s₁ hx hby hml hown hnm hret hlk hZ X0 e0
  refine OGo.step (fun _ kk => castTop (show entryFrame m #[(.ref u), (.int (1 : Int32))] 2 = (mkF m 0 #[.val (.ref u), .val (.int (1 : Int32))] []) from by first | (simp [entryFrame, mkF, argsToLocals, Value.category]; done) | rfl) kk) ?_
  show OGo p e below (s₁.setTop (mkF m 0 #[.val (.ref u), .val (.int (1 : Int32))] [])) _
  obtain ⟨cu, Au, qu, Su, Mu, Hu, Gu⟩ := id Vu
  refine OGo.step (fun _ kk => XS.iloadN X0.here hx rfl (hb hby own_d_jdk_52_method_15_code_0) rfl kk) ?_
  show OGo p e below (s₁.setTop (mkF m 1 #[.val (.ref u), .val (.int (1 : Int32))] [(.int (1 : Int32))])) _
  refine OGo.step (fun _ kk => XS.aloadN X0.here hx rfl (hb hby own_d_jdk_52_method_15_code_1) rfl rfl kk) ?_
  show OGo p e below (s₁.setTop (mkF m 2 #[.val (.ref u), .val (.int (1 : Int32))] [(.ref u), (.int (1 : Int32))])) _
  refine OGo.step (fun _ kk => X0.arraylength hx (by rw [e0]; exact (Au).1) (State.isArrayOf_alike hZ.alike (Au).2.1) (g := (mkF m 2 #[.val (.ref u), .val (.int (1 : Int32))] [(.ref u), (.int (1 : Int32))])) rfl rfl (hb hby own_d_jdk_52_method_15_code_2) _ kk) ?_
  rw [len_of Su Mu]
  show OGo p e below (s₁.setTop (mkF m 3 #[.val (.ref u), .val (.int (1 : Int32))] [(.int (2 : Int32)), (.int (1 : Int32))])) _
  refine OGo.step (fun _ kk => XS.isub X0.here hx rfl (hb hby own_d_jdk_52_method_15_code_3) rfl kk) ?_
  show OGo p e below (s₁.setTop (mkF m 4 #[.val (.ref u), .val (.int (1 : Int32))] [(.int ((1 : Int32) - (2 : Int32)))])) _
  refine OGo.step (fun _ kk => XS.bipush X0.here hx rfl (hb hby own_d_jdk_52_method_15_code_4) kk) ?_
  show OGo p e below (s₁.setTop (mkF m 6 #[.val (.ref u), .val (.int (1 : Int32))] [(.int (31 : Int32)), (.int ((1 : Int32) - (2 : Int32)))])) _
  refine OGo.step (fun _ kk => XS.iushr X0.here hx rfl (hb hby own_d_jdk_52_method_15_code_6) rfl kk) ?_
  show OGo p e below (s₁.setTop (mkF m 7 #[.val (.ref u), .val (.int (1 : Int32))] [(.int ((((1 : Int32) - (2 : Int32)).toUInt32 >>> ((31 : Int32) &&& 31).toUInt32).toInt32))])) _
  refine OGo.step (fun _ kk => XS.i2b X0.here hx rfl (hb hby own_d_jdk_52_method_15_code_7) rfl kk) ?_
  show OGo p e below (s₁.setTop (mkF m 8 #[.val (.ref u), .val (.int (1 : Int32))] [(.int (((((1 : Int32) - (2 : Int32)).toUInt32 >>> ((31 : Int32) &&& 31).toUInt32).toInt32).toInt8.toInt32))])) _
  exact own_retN X0 hx hlk hret (by simp) (hb hby own_d_jdk_52_method_15_code_8) ⟨rfl, Fr.nil n0, e0⟩ (by decide) (by decide)

theorem own_ex1 {c0_ : Int32} (hex : (255 : Int32) < c0_) : ∃ c ∈ ([c0_] : List Int32), (255 : Int32) < c := ⟨_, List.mem_of_getElem? (i := 0) rfl, hex⟩
set_option maxRecDepth 65536 in
set_option maxHeartbeats 40000000 in
theorem own_new4U1 (l : Launch) (Z : State) (a0 : Array Value) (hw : ∀ d ∈ tables_1, d.before a0 Z = true) (ws : List Jvm.Cond) (a ca : Addr) (kc : ClassId) (c0_ : Int32) (zc : Int32) (h0 : Heap) (n0 : Nat) (Z0 : n0 ≤ h0.size) (SC : Sta Z h0 "java/lang/String" "COMPACT_STRINGS" "Z" (.int zc)) (hzc : ¬ zc = 0) (SA : Sta Z h0 "java/lang/StringUTF16" "$assertionsDisabled" "Z" (.int (1 : Int32))) (SH : Sta Z h0 "java/lang/StringUTF16" "HI_BYTE_SHIFT" "I" (.int (0 : Int32))) (SL : Sta Z h0 "java/lang/StringUTF16" "LO_BYTE_SHIFT" "I" (.int (8 : Int32))) (E1 : Exa Z h0 a "java/lang/String") (Fv : Fld Z h0 a "java/lang/String" "value" "[B" .null) (Fc : Fld Z h0 a "java/lang/String" "coder" "B" (.int (0 : Int32))) (ga : n0 ≤ a) (Vc : Arv Z h0 ca kc .char (1 : Int32) [(.int c0_)] (.int (0 : Int32))) (hb0 : ¬ c0_ < 0 ∧ ¬ (65535 : Int32) < c0_) (hex : (255 : Int32) < c0_) :
    OMet l Z (⟨"java/lang/String", "<init>", "([CIILjava/lang/Void;)V"⟩ : MethodName) jdk_42_method_149_code 6 none ws ({ frames := 4, cells := 2, slots := 3, locals := 57 } : Room) #[(.ref a), (.ref ca), (.int (0 : Int32)), (.int (1 : Int32)), .null] h0 (fun v h L => v = none ∧ Fr n0 L ∧ Keep h0 h [a] ∧ OStr Z h a [c0_]) := by
  refine OMet.body (plainFor_of_name own_pn3) ?_
  intro p e s m below meth c s₁ hx hby hml hown hnm hret hlk hZ X0 e0
  refine OGo.step (fun _ kk => castTop (show entryFrame m #[(.ref a), (.ref ca), (.int (0 : Int32)), (.int (1 : Int32)), .null] 6 = (mkF m 0 #[.val (.ref a), .val (.ref ca), .val (.int (0 : Int32)), .val (.int (1 : Int32)), .val .null, .unset] []) from by first | (simp [entryFrame, mkF, argsToLocals, Value.category]; done) | rfl) kk) ?_
  show OGo p e below (s₁.setTop (mkF m 0 #[.val (.ref a), .val (.ref ca), .val (.int (0 : Int32)), .val (.int (1 : Int32)), .val .null, .unset] [])) _
  refine OGo.step (fun _ kk => XS.aloadN X0.here hx rfl (hb hby own_d_jdk_42_method_149_code_0) rfl rfl kk) ?_
  show OGo p e below (s₁.setTop (mkF m 1 #[.val (.ref a), .val (.ref ca), .val (.int (0 : Int32)), .val (.int (1 : Int32)), .val .null, .unset] [(.ref a)])) _
  obtain ⟨T308, X308, e308, st308⟩ := initO X0 hx hZ hown (hw _ (List.mem_of_getElem? (i := 17) rfl)) (hw _ (List.mem_of_getElem? (i := 18) rfl)) (hw _ (List.mem_of_getElem? (i := 19) rfl)) e0 (g := (mkF m 1 #[.val (.ref a), .val (.ref ca), .val (.int (0 : Int32)), .val (.int (1 : Int32)), .val .null, .unset] [(.ref a)])) rfl (by rw [hml]; rfl) rfl (hb hby own_d_jdk_42_method_149_code_1) (by decide) (W := 0) (by show 2 * 0 + _ ≤ _; exact Nat.le_of_eq rfl) (by decide)
  refine OGo.step st308 ?_
  show OGo p e below (T308.setTop (mkF m 4 #[.val (.ref a), .val (.ref ca), .val (.int (0 : Int32)), .val (.int (1 : Int32)), .val .null, .unset] [])) _
  refine OGo.step (fun _ kk => XS.iloadN X308.here hx rfl (hb hby own_d_jdk_42_method_149_code_4) rfl kk) ?_
  show OGo p e below (T308.setTop (mkF m 5 #[.val (.ref a), .val (.ref ca), .val (.int (0 : Int32)), .val (.int (1 : Int32)), .val .null, .unset] [(.int (1 : Int32))])) _
  refine OGo.step (fun _ kk => XS.ifYes X308.here hx rfl (pc0 := 5) (pc' := 27) rfl (hb hby own_d_jdk_42_method_149_code_5) rfl ((if0 _ _).trans (feq (by decide)).2) (by decide) (by decide) kk) ?_
  show OGo p e below (T308.setTop (mkF m 27 #[.val (.ref a), .val (.ref ca), .val (.int (0 : Int32)), .val (.int (1 : Int32)), .val .null, .unset] [])) _
  obtain ⟨T309, X309, e309, st309⟩ := getS2 X308 hx hZ hown (host := "") (Or.inl (hw _ (List.mem_of_getElem? (i := 20) rfl))) Via.refl e308 SC (g := (mkF m 27 #[.val (.ref a), .val (.ref ca), .val (.int (0 : Int32)), .val (.int (1 : Int32)), .val .null, .unset] [])) rfl (hb hby own_d_jdk_42_method_149_code_27)
  refine OGo.step st309 ?_
  show OGo p e below (T309.setTop (mkF m 30 #[.val (.ref a), .val (.ref ca), .val (.int (0 : Int32)), .val (.int (1 : Int32)), .val .null, .unset] [(.int zc)])) _
  refine OGo.step (fun _ kk => XS.ifNo X309.here hx rfl (hb hby own_d_jdk_42_method_149_code_30) rfl ((if0 _ _).trans (feq hzc).1) kk) ?_
  show OGo p e below (T309.setTop (mkF m 33 #[.val (.ref a), .val (.ref ca), .val (.int (0 : Int32)), .val (.int (1 : Int32)), .val .null, .unset] [])) _
  refine OGo.step (fun _ kk => XS.aloadN X309.here hx rfl (hb hby own_d_jdk_42_method_149_code_33) rfl rfl kk) ?_
  show OGo p e below (T309.setTop (mkF m 34 #[.val (.ref a), .val (.ref ca), .val (.int (0 : Int32)), .val (.int (1 : Int32)), .val .null, .unset] [(.ref ca)])) _
  refine OGo.step (fun _ kk => XS.iloadN X309.here hx rfl (hb hby own_d_jdk_42_method_149_code_34) rfl kk) ?_
  show OGo p e below (T309.setTop (mkF m 35 #[.val (.ref a), .val (.ref ca), .val (.int (0 : Int32)), .val (.int (1 : Int32)), .val .null, .unset] [(.int (0 : Int32)), (.ref ca)])) _
  refine OGo.step (fun _ kk => XS.iloadN X309.here hx rfl (hb hby own_d_jdk_42_method_149_code_35) rfl kk) ?_
  show OGo p e below (T309.setTop (mkF m 36 #[.val (.ref a), .val (.ref ca), .val (.int (0 : Int32)), .val (.int (1 : Int32)), .val .null, .unset] [(.int (1 : Int32)), (.int (0 : Int32)), (.ref ca)])) _
  refine own_callS X309 hx hZ (y := (⟨"java/lang/StringUTF16", "compress", "([CII)[B"⟩ : MethodName)) hown (hw _ (List.mem_of_getElem? (i := 21) rfl)) (hw _ (List.mem_of_getElem? (i := 22) rfl)) (hw _ (List.mem_of_getElem? (i := 23) rfl)) (hw _ (List.mem_of_getElem? (i := 24) rfl)) (by decide) (W := 0) (own_cmp3_1 l Z a0 hw [] ca kc c0_ h0 n0 Z0 SA SH SL Vc hb0 hex) e309  (pc := 36) (Ls := #[.val (.ref a), .val (.ref ca), .val (.int (0 : Int32)), .val (.int (1 : Int32)), .val .null, .unset]) (argsL := [(.ref ca), (.int (0 : Int32)), (.int (1 : Int32))]) (rest := []) (by rw [hml]; rfl) (lenOf own_pd14 rfl) rfl (hb hby own_d_jdk_42_method_149_code_36) (by decide) (by decide) (by decide) (by decide) ?_
  intro v310 T310 L310 X310 hQ310
  obtain ⟨u, kb, rfl, N310, Xe310, gu, Vu⟩ := hQ310
  show OGo p e below (T310.setTop (mkF m 39 #[.val (.ref a), .val (.ref ca), .val (.int (0 : Int32)), .val (.int (1 : Int32)), .val .null, .unset] [(.ref u)])) _
  have nau : a ≠ u := Nat.ne_of_lt (Nat.lt_of_lt_of_le E1.lt gu)
  have Nc310 := Fr.app (Fr.nil n0) N310
  have sz310 : n0 ≤ T310.heap.size := Nat.le_trans Z0 Xe310.1
  refine OGo.step (fun _ kk => XS.astore X310.here hx rfl (hb hby own_d_jdk_42_method_149_code_39) rfl rfl (l' := #[.val (.ref a), .val (.ref ca), .val (.int (0 : Int32)), .val (.int (1 : Int32)), .val .null, .val (.ref u)]) rfl kk) ?_
  show OGo p e below (T310.setTop (mkF m 41 #[.val (.ref a), .val (.ref ca), .val (.int (0 : Int32)), .val (.int (1 : Int32)), .val .null, .val (.ref u)] [])) _
  refine OGo.step (fun _ kk => XS.aloadN X310.here hx rfl (hb hby own_d_jdk_42_method_149_code_41) rfl rfl kk) ?_
  show OGo p e below (T310.setTop (mkF m 42 #[.val (.ref a), .val (.ref ca), .val (.int (0 : Int32)), .val (.int (1 : Int32)), .val .null, .val (.ref u)] [(.ref a)])) _
  refine OGo.step (fun _ kk => XS.aload X310.here hx rfl (hb hby own_d_jdk_42_method_149_code_42) rfl rfl kk) ?_
  show OGo p e below (T310.setTop (mkF m 44 #[.val (.ref a), .val (.ref ca), .val (.int (0 : Int32)), .val (.int (1 : Int32)), .val .null, .val (.ref u)] [(.ref u), (.ref a)])) _
  refine OGo.step (fun _ kk => XS.iloadN X310.here hx rfl (hb hby own_d_jdk_42_method_149_code_44) rfl kk) ?_
  show OGo p e below (T310.setTop (mkF m 45 #[.val (.ref a), .val (.ref ca), .val (.int (0 : Int32)), .val (.int (1 : Int32)), .val .null, .val (.ref u)] [(.int (1 : Int32)), (.ref u), (.ref a)])) _
  refine own_callS X310 hx hZ (y := (⟨"java/lang/StringUTF16", "coderFromArrayLen", "([BI)B"⟩ : MethodName)) hown (hw _ (List.mem_of_getElem? (i := 29) rfl)) (hw _ (List.mem_of_getElem? (i := 30) rfl)) (hw _ (List.mem_of_getElem? (i := 23) rfl)) (hw _ (List.mem_of_getElem? (i := 31) rfl)) (by decide) (W := 1) (own_codl1 l Z a0 hw [] u kb _ T310.heap n0 sz310 Vu) rfl  (pc := 45) (Ls := #[.val (.ref a), .val (.ref ca), .val (.int (0 : Int32)), .val (.int (1 : Int32)), .val .null, .val (.ref u)]) (argsL := [(.ref u), (.int (1 : Int32))]) (rest := [(.ref a)]) (by rw [hml]; rfl) (lenOf own_pd16 rfl) rfl (hb hby own_d_jdk_42_method_149_code_45) (by decide) (by decide) (by decide) (by decide) ?_
  intro v311 T311 L311 X311 hQ311
  obtain ⟨rfl, N311, e311⟩ := hQ311
  show OGo p e below (T311.setTop (mkF m 48 #[.val (.ref a), .val (.ref ca), .val (.int (0 : Int32)), .val (.int (1 : Int32)), .val .null, .val (.ref u)] [(.int (1 : Int32)), (.ref a)])) _
  have Nc311 := Fr.app Nc310 N311
  have fc312 := (Fc.ext Xe310)
  have fc313 := (E1.ext Xe310)
  obtain ⟨T314, h314, X314, e314, W314, st314⟩ := putFN X311 hx hZ hown (hw _ (List.mem_of_getElem? (i := 32) rfl)) Via.refl e311 fc312 fc313 (Or.inr ⟨(hw _ (List.mem_of_getElem? (i := 33) rfl)), rfl, hnm⟩) (hw _ (List.mem_of_getElem? (i := 7) rfl)) (ty := .byte) (v' := (.int (1 : Int32))) (by decide) rfl rfl (g := (mkF m 48 #[.val (.ref a), .val (.ref ca), .val (.int (0 : Int32)), .val (.int (1 : Int32)), .val .null, .val (.ref u)] [(.int (1 : Int32)), (.ref a)])) rfl rfl (hb hby own_d_jdk_42_method_149_code_48)
  refine OGo.step st314 ?_
  show OGo p e below (T314.setTop (mkF m 51 #[.val (.ref a), .val (.ref ca), .val (.int (0 : Int32)), .val (.int (1 : Int32)), .val .null, .val (.ref u)] [])) _
  have Fw314 := fc312.same W314
  have Nf314 := Fr.snoc X314 Nc311 ga
  have sz314 : n0 ≤ h314.size := by rw [W314.size]; exact sz310
  refine OGo.step (fun _ kk => XS.aloadN X314.here hx rfl (hb hby own_d_jdk_42_method_149_code_51) rfl rfl kk) ?_
  show OGo p e below (T314.setTop (mkF m 52 #[.val (.ref a), .val (.ref ca), .val (.int (0 : Int32)), .val (.int (1 : Int32)), .val .null, .val (.ref u)] [(.ref a)])) _
  refine OGo.step (fun _ kk => XS.aload X314.here hx rfl (hb hby own_d_jdk_42_method_149_code_52) rfl rfl kk) ?_
  show OGo p e below (T314.setTop (mkF m 54 #[.val (.ref a), .val (.ref ca), .val (.int (0 : Int32)), .val (.int (1 : Int32)), .val .null, .val (.ref u)] [(.ref u), (.ref a)])) _
  have fc315 := ((Fv.ext Xe310).other W314 (Or.inr (slot_ne (Or.inr (hw _ (List.mem_of_getElem? (i := 35) rfl))) (Or.inr (hw _ (List.mem_of_getElem? (i := 33) rfl))) (by decide) (t := (.array .byte)) (t' := .byte) (by decide) (by decide))))
  have fc316 := (fc313.wr W314)
  obtain ⟨T317, h317, X317, e317, W317, st317⟩ := putF X314 hx hZ hown (host := "") (Or.inl (hw _ (List.mem_of_getElem? (i := 34) rfl))) Via.refl e314 fc315 fc316 (Or.inr ⟨(hw _ (List.mem_of_getElem? (i := 35) rfl)), rfl, hnm⟩) (hw _ (List.mem_of_getElem? (i := 7) rfl)) (ty := (.array .byte)) (by decide) rfl rfl (g := (mkF m 54 #[.val (.ref a), .val (.ref ca), .val (.int (0 : Int32)), .val (.int (1 : Int32)), .val .null, .val (.ref u)] [(.ref u), (.ref a)])) rfl rfl (hb hby own_d_jdk_42_method_149_code_54)
  refine OGo.step st317 ?_
  show OGo p e below (T317.setTop (mkF m 57 #[.val (.ref a), .val (.ref ca), .val (.int (0 : Int32)), .val (.int (1 : Int32)), .val .null, .val (.ref u)] [])) _
  have Fw317 := fc315.same W317
  have Nf317 := Fr.snoc X317 Nf314 ga
  have sz317 : n0 ≤ h317.size := by rw [W317.size]; exact sz314
  have fc318 := (fc316.wr W317)
  have fc319 := (Fw314.other W317 (Or.inr (slot_ne (Or.inr (hw _ (List.mem_of_getElem? (i := 33) rfl))) (Or.inr (hw _ (List.mem_of_getElem? (i := 35) rfl))) (by decide) (t := .byte) (t' := (.array .byte)) (by decide) (by decide))))
  have fc320 := ((Vu.other W314 (Ne.symm nau)).other W317 (Ne.symm nau))
  have HO : OStr Z h317 a [c0_] := ⟨u, kb, 1, (2 : Int32), _, fc318, Fw317, fc319, fc320, Or.inr ⟨rfl, rfl, rfl, own_ex1 hex⟩, (own_allS hb0 own_all0), Nat.le_of_ble_eq_true rfl⟩
  have HK := ((((Keep.refl h0 [a]).ext Xe310).wr W314 (Or.inl (List.mem_of_getElem? (i := 0) rfl))).wr W317 (Or.inl (List.mem_of_getElem? (i := 0) rfl)))
  exact own_ret0 X317 hx hlk hret (hb hby own_d_jdk_42_method_149_code_57) (by rw [e317]; exact ⟨rfl, Nf317, HK, HO⟩) (by decide) (by decide)

set_option maxRecDepth 65536 in
set_option maxHeartbeats 40000000 in
theorem own_new1U1 (l : Launch) (Z : State) (a0 : Array Value) (hw : ∀ d ∈ tables_1, d.before a0 Z = true) (ws : List Jvm.Cond) (a ca : Addr) (kc : ClassId) (c0_ : Int32) (zc : Int32) (h0 : Heap) (n0 : Nat) (Z0 : n0 ≤ h0.size) (SC : Sta Z h0 "java/lang/String" "COMPACT_STRINGS" "Z" (.int zc)) (hzc : ¬ zc = 0) (SA : Sta Z h0 "java/lang/StringUTF16" "$assertionsDisabled" "Z" (.int (1 : Int32))) (SH : Sta Z h0 "java/lang/StringUTF16" "HI_BYTE_SHIFT" "I" (.int (0 : Int32))) (SL : Sta Z h0 "java/lang/StringUTF16" "LO_BYTE_SHIFT" "I" (.int (8 : Int32))) (E1 : Exa Z h0 a "java/lang/String") (Fv : Fld Z h0 a "java/lang/String" "value" "[B" .null) (Fc : Fld Z h0 a "java/lang/String" "coder" "B" (.int (0 : Int32))) (ga : n0 ≤ a) (Vc : Arv Z h0 ca kc .char (1 : Int32) [(.int c0_)] (.int (0 : Int32))) (hb0 : ¬ c0_ < 0 ∧ ¬ (65535 : Int32) < c0_) (hex : (255 : Int32) < c0_) :
    OMet l Z (⟨"java/lang/String", "<init>", "([C)V"⟩ : MethodName) jdk_42_method_3_code 2 none ws ({ frames := 5, cells := 2, slots := 3, locals := 74 } : Room) #[(.ref a), (.ref ca)] h0 (fun v h L => v = none ∧ Fr n0 L ∧ Keep h0 h [a] ∧ OStr Z h a [c0_]) := by
  refine OMet.body (plainFor_of_name own_pn3) ?_
  intro p e s m below meth c s₁ hx hby hml hown hnm hret hlk hZ X0 e0
  refine OGo.step (fun _ kk => castTop (show entryFrame m #[(.ref a), (.ref ca)] 2 = (mkF m 0 #[.val (.ref a), .val (.ref ca)] []) from by first | (simp [entryFrame, mkF, argsToLocals, Value.category]; done) | rfl) kk) ?_
  show OGo p e below (s₁.setTop (mkF m 0 #[.val (.ref a), .val (.ref ca)] [])) _
  obtain ⟨cb, Ab, qb, Sb, Mb, Hb, Gb⟩ := id Vc
  refine OGo.step (fun _ kk => XS.aloadN X0.here hx rfl (hb hby own_d_jdk_42_method_3_code_0) rfl rfl kk) ?_
  show OGo p e below (s₁.setTop (mkF m 1 #[.val (.ref a), .val (.ref ca)] [(.ref a)])) _
  refine OGo.step (fun _ kk => XS.aloadN X0.here hx rfl (hb hby own_d_jdk_42_method_3_code_1) rfl rfl kk) ?_
  show OGo p e below (s₁.setTop (mkF m 2 #[.val (.ref a), .val (.ref ca)] [(.ref ca), (.ref a)])) _
  refine OGo.step (fun _ kk => XS.iconst X0.here hx rfl (hb hby own_d_jdk_42_method_3_code_2) kk) ?_
  show OGo p e below (s₁.setTop (mkF m 3 #[.val (.ref a), .val (.ref ca)] [(.int (0 : Int32)), (.ref ca), (.ref a)])) _
  refine OGo.step (fun _ kk => XS.aloadN X0.here hx rfl (hb hby own_d_jdk_42_method_3_code_3) rfl rfl kk) ?_
  show OGo p e below (s₁.setTop (mkF m 4 #[.val (.ref a), .val (.ref ca)] [(.ref ca), (.int (0 : Int32)), (.ref ca), (.ref a)])) _
  refine OGo.step (fun _ kk => X0.arraylength hx (by rw [e0]; exact (Ab).1) (State.isArrayOf_alike hZ.alike (Ab).2.1) (g := (mkF m 4 #[.val (.ref a), .val (.ref ca)] [(.ref ca), (.int (0 : Int32)), (.ref ca), (.ref a)])) rfl rfl (hb hby own_d_jdk_42_method_3_code_4) _ kk) ?_
  rw [len_of Sb Mb]
  show OGo p e below (s₁.setTop (mkF m 5 #[.val (.ref a), .val (.ref ca)] [(.int (1 : Int32)), (.int (0 : Int32)), (.ref ca), (.ref a)])) _
  refine OGo.step (fun _ kk => XS.aconstNull X0.here hx rfl (hb hby own_d_jdk_42_method_3_code_5) kk) ?_
  show OGo p e below (s₁.setTop (mkF m 6 #[.val (.ref a), .val (.ref ca)] [.null, (.int (1 : Int32)), (.int (0 : Int32)), (.ref ca), (.ref a)])) _
  refine own_special X0 hx hZ (y := (⟨"java/lang/String", "<init>", "([CIILjava/lang/Void;)V"⟩ : MethodName)) rfl hown (hw _ (List.mem_of_getElem? (i := 13) rfl)) (hw _ (List.mem_of_getElem? (i := 14) rfl)) (hw _ (List.mem_of_getElem? (i := 16) rfl)) (hw _ (List.mem_of_getElem? (i := 8) rfl)) (by decide) (a := a) (W := 0) (own_new4U1 l Z a0 hw [] a ca kc c0_ zc h0 n0 Z0 SC hzc SA SH SL E1 Fv Fc ga Vc hb0 hex) e0  (pc := 6) (Ls := #[.val (.ref a), .val (.ref ca)]) (argsL := [(.ref ca), (.int (0 : Int32)), (.int (1 : Int32)), .null]) (rest := []) (by rw [hml]; rfl) (lenOf own_pd9 rfl) rfl (hb hby own_d_jdk_42_method_3_code_6) (by decide) (by decide) (by decide) (by decide) ?_
  intro v321 T321 L321 X321 hQ321
  obtain ⟨rfl, N321, K321, O321⟩ := hQ321
  show OGo p e below (T321.setTop (mkF m 9 #[.val (.ref a), .val (.ref ca)] [])) _
  exact own_ret0 X321 hx hlk hret (hb hby own_d_jdk_42_method_3_code_9) ⟨rfl, Fr.app (Fr.nil n0) N321, K321, O321⟩ (by decide) (by decide)

set_option maxRecDepth 65536 in
set_option maxHeartbeats 40000000 in
theorem own_nbl2 (l : Launch) (Z : State) (a0 : Array Value) (hw : ∀ d ∈ tables_1, d.before a0 Z = true) (ws : List Jvm.Cond)  (h0 : Heap) (n0 : Nat) (Z0 : n0 ≤ h0.size)  :
    OMet l Z (⟨"java/lang/StringUTF16", "newBytesLength", "(I)I"⟩ : MethodName) jdk_52_method_3_code 1 (some .int) ws ({ frames := 0, cells := 0, slots := 0, locals := 0 } : Room) #[(.int (2 : Int32))] h0 (fun v h L => v = some (.int (4 : Int32)) ∧ Fr n0 L ∧ h = h0) := by
  refine OMet.body (plainFor_of_name own_pn4) ?_
  intro p e s m below meth c s₁ hx hby hml hown hnm hret hlk hZ X0 e0
  refine OGo.step (fun _ kk => castTop (show entryFrame m #[(.int (2 : Int32))] 1 = (mkF m 0 #[.val (.int (2 : Int32))] []) from by first | (simp [entryFrame, mkF, argsToLocals, Value.category]; done) | rfl) kk) ?_
  show OGo p e below (s₁.setTop (mkF m 0 #[.val (.int (2 : Int32))] [])) _
  refine OGo.step (fun _ kk => XS.iloadN X0.here hx rfl (hb hby own_d_jdk_52_method_3_code_0) rfl kk) ?_
  show OGo p e below (s₁.setTop (mkF m 1 #[.val (.int (2 : Int32))] [(.int (2 : Int32))])) _
  refine OGo.step (fun _ kk => XS.ifYes X0.here hx rfl (pc0 := 1) (pc' := 12) rfl (hb hby own_d_jdk_52_method_3_code_1) rfl ((if0 _ _).trans (flt (by decide)).2.1) (by decide) (by decide) kk) ?_
  show OGo p e below (s₁.setTop (mkF m 12 #[.val (.int (2 : Int32))] [])) _
  refine OGo.step (fun _ kk => XS.iloadN X0.here hx rfl (hb hby own_d_jdk_52_method_3_code_12) rfl kk) ?_
  show OGo p e below (s₁.setTop (mkF m 13 #[.val (.int (2 : Int32))] [(.int (2 : Int32))])) _
  refine OGo.step (fun _ kk => X0.ldcInt hx hown (mvT hZ (hw _ (List.mem_of_getElem? (i := 99) rfl))) (g := (mkF m 13 #[.val (.int (2 : Int32))] [(.int (2 : Int32))])) rfl (hb hby own_d_jdk_52_method_3_code_13) _ kk) ?_
  show OGo p e below (s₁.setTop (mkF m 15 #[.val (.int (2 : Int32))] [(.int (1073741823 : Int32)), (.int (2 : Int32))])) _
  refine OGo.step (fun _ kk => XS.icmpYes X0.here hx rfl (pc0 := 15) (pc' := 55) rfl (hb hby own_d_jdk_52_method_3_code_15) rfl (tlt (by decide)).1 (by decide) (by decide) kk) ?_
  show OGo p e below (s₁.setTop (mkF m 55 #[.val (.int (2 : Int32))] [])) _
  refine OGo.step (fun _ kk => XS.iloadN X0.here hx rfl (hb hby own_d_jdk_52_method_3_code_55) rfl kk) ?_
  show OGo p e below (s₁.setTop (mkF m 56 #[.val (.int (2 : Int32))] [(.int (2 : Int32))])) _
  refine OGo.step (fun _ kk => XS.iconst X0.here hx rfl (hb hby own_d_jdk_52_method_3_code_56) kk) ?_
  show OGo p e below (s₁.setTop (mkF m 57 #[.val (.int (2 : Int32))] [(.int (1 : Int32)), (.int (2 : Int32))])) _
  refine OGo.step (fun _ kk => XS.ishl X0.here hx rfl (hb hby own_d_jdk_52_method_3_code_57) rfl kk) ?_
  show OGo p e below (s₁.setTop (mkF m 58 #[.val (.int (2 : Int32))] [(.int ((2 : Int32) <<< ((1 : Int32) &&& 31)))])) _
  exact own_ret X0 hx hlk hret rfl (Or.inl ⟨rfl, Or.inl rfl, _, rfl⟩) (hb hby own_d_jdk_52_method_3_code_58) ⟨rfl, Fr.nil n0, e0⟩ (by decide) (by decide)

set_option maxRecDepth 65536 in
set_option maxHeartbeats 40000000 in
theorem own_nbf2 (l : Launch) (Z : State) (a0 : Array Value) (hw : ∀ d ∈ tables_1, d.before a0 Z = true) (ws : List Jvm.Cond)  (h0 : Heap) (n0 : Nat) (Z0 : n0 ≤ h0.size)  :
    OMet l Z (⟨"java/lang/StringUTF16", "newBytesFor", "(I)[B"⟩ : MethodName) jdk_52_method_2_code 1 (some (.array .byte)) ws ({ frames := 1, cells := 1, slots := 4, locals := 12 } : Room) #[(.int (2 : Int32))] h0 (fun v h L => ∃ (u : Addr) (kb : ClassId), v = some (.ref u) ∧ Fr n0 L ∧ Ext h0 h ∧ h0.size ≤ u ∧ Arv Z h u kb .byte (4 : Int32) [(.int (0 : Int32)), (.int (0 : Int32)), (.int (0 : Int32)), (.int (0 : Int32))] (.int (0 : Int32))) := by
  refine OMet.body (plainFor_of_name own_pn4) ?_
  intro p e s m below meth c s₁ hx hby hml hown hnm hret hlk hZ X0 e0
  refine OGo.step (fun _ kk => castTop (show entryFrame m #[(.int (2 : Int32))] 1 = (mkF m 0 #[.val (.int (2 : Int32))] []) from by first | (simp [entryFrame, mkF, argsToLocals, Value.category]; done) | rfl) kk) ?_
  show OGo p e below (s₁.setTop (mkF m 0 #[.val (.int (2 : Int32))] [])) _
  refine OGo.step (fun _ kk => XS.iloadN X0.here hx rfl (hb hby own_d_jdk_52_method_2_code_0) rfl kk) ?_
  show OGo p e below (s₁.setTop (mkF m 1 #[.val (.int (2 : Int32))] [(.int (2 : Int32))])) _
  refine own_callS X0 hx hZ (y := (⟨"java/lang/StringUTF16", "newBytesLength", "(I)I"⟩ : MethodName)) hown (hw _ (List.mem_of_getElem? (i := 96) rfl)) (hw _ (List.mem_of_getElem? (i := 97) rfl)) (hw _ (List.mem_of_getElem? (i := 23) rfl)) (hw _ (List.mem_of_getElem? (i := 98) rfl)) (by decide) (W := 0) (own_nbl2 l Z a0 hw [] h0 n0 Z0) e0  (pc := 1) (Ls := #[.val (.int (2 : Int32))]) (argsL := [(.int (2 : Int32))]) (rest := []) (by rw [hml]; rfl) (lenOf own_pd10 rfl) rfl (hb hby own_d_jdk_52_method_2_code_1) (by decide) (by decide) (by decide) (by decide) ?_
  intro v322 T322 L322 X322 hQ322
  obtain ⟨rfl, N322, e322⟩ := hQ322
  show OGo p e below (T322.setTop (mkF m 4 #[.val (.int (2 : Int32))] [(.int (4 : Int32))])) _
  have Nc322 := Fr.app (Fr.nil n0) N322
  obtain ⟨T323, h323, k323, X323, e323, E323, A323, st323⟩ := newP X322 hx hZ (hw _ (List.mem_of_getElem? (i := 25) rfl)) e322 (g := (mkF m 4 #[.val (.int (2 : Int32))] [(.int (4 : Int32))])) rfl (hb hby own_d_jdk_52_method_2_code_4) rfl (by decide) (cap := 4) (by decide) (by decide) (by decide) (by decide)
  obtain ⟨u, g323⟩ : ∃ z, z = h0.size := ⟨_, rfl⟩
  rw [← g323] at A323 st323
  refine OGo.step st323 ?_
  show OGo p e below (T323.setTop (mkF m 6 #[.val (.int (2 : Int32))] [(.ref u)])) _
  have gf_u : n0 ≤ u := Nat.le_trans Z0 (Nat.le_of_eq g323.symm)
  have sz323 : n0 ≤ h323.size := Nat.le_trans Z0 E323.1
  have Va : Arv Z h323 u k323 .byte (4 : Int32) [(.int (0 : Int32)), (.int (0 : Int32)), (.int (0 : Int32)), (.int (0 : Int32))] (.int (0 : Int32)) := (Arv.new A323 (by decide)).pad (pad_rep [] (.int (0 : Int32)) 4)
  exact own_ret X323 hx hlk hret rfl (Or.inr (Or.inr (Or.inr (Or.inr ⟨rfl, rfl, rfl⟩)))) (hb hby own_d_jdk_52_method_2_code_6) (by rw [e323]; exact ⟨u, _, rfl, Nc322, E323, (Nat.le_of_eq g323.symm), Va⟩) (by decide) (by decide)

set_option maxRecDepth 65536 in
set_option maxHeartbeats 40000000 in
theorem own_toB2 (l : Launch) (Z : State) (a0 : Array Value) (hw : ∀ d ∈ tables_1, d.before a0 Z = true) (ws : List Jvm.Cond) (ca : Addr) (kc : ClassId) (c0_ c1_ : Int32) (h0 : Heap) (n0 : Nat) (Z0 : n0 ≤ h0.size) (SA : Sta Z h0 "java/lang/StringUTF16" "$assertionsDisabled" "Z" (.int (1 : Int32))) (SH : Sta Z h0 "java/lang/StringUTF16" "HI_BYTE_SHIFT" "I" (.int (0 : Int32))) (SL : Sta Z h0 "java/lang/StringUTF16" "LO_BYTE_SHIFT" "I" (.int (8 : Int32))) (Vc : Arv Z h0 ca kc .char (2 : Int32) [(.int c0_), (.int c1_)] (.int (0 : Int32))) :
    OMet l Z (⟨"java/lang/StringUTF16", "toBytes", "([CII)[B"⟩ : MethodName) jdk_52_method_14_code 5 (some (.array .byte)) ws ({ frames := 2, cells := 1, slots := 4, locals := 24 } : Room) #[(.ref ca), (.int (0 : Int32)), (.int (2 : Int32))] h0 (fun v h L => ∃ (u : Addr) (kb : ClassId), v = some (.ref u) ∧ Fr n0 L ∧ Ext h0 h ∧ h0.size ≤ u ∧ Arv Z h u kb .byte (4 : Int32) (StrChars.Road.wideBytes [c0_, c1_]) (.int (0 : Int32))) := by
  refine OMet.body (plainFor_of_name own_pn4) ?_
  intro p e s m below meth c s₁ hx hby hml hown hnm hret hlk hZ X0 e0
  refine OGo.step (fun _ kk => castTop (show entryFrame m #[(.ref ca), (.int (0 : Int32)), (.int (2 : Int32))] 5 = (mkF m 0 #[.val (.ref ca), .val (.int (0 : Int32)), .val (.int (2 : Int32)), .unset, .unset] []) from by first | (simp [entryFrame, mkF, argsToLocals, Value.category]; done) | rfl) kk) ?_
  show OGo p e below (s₁.setTop (mkF m 0 #[.val (.ref ca), .val (.int (0 : Int32)), .val (.int (2 : Int32)), .unset, .unset] [])) _
  refine OGo.step (fun _ kk => XS.iloadN X0.here hx rfl (hb hby own_d_jdk_52_method_14_code_0) rfl kk) ?_
  show OGo p e below (s₁.setTop (mkF m 1 #[.val (.ref ca), .val (.int (0 : Int32)), .val (.int (2 : Int32)), .unset, .unset] [(.int (2 : Int32))])) _
  refine own_callS X0 hx hZ (y := (⟨"java/lang/StringUTF16", "newBytesFor", "(I)[B"⟩ : MethodName)) hown (hw _ (List.mem_of_getElem? (i := 93) rfl)) (hw _ (List.mem_of_getElem? (i := 94) rfl)) (hw _ (List.mem_of_getElem? (i := 23) rfl)) (hw _ (List.mem_of_getElem? (i := 95) rfl)) (by decide) (W := 0) (own_nbf2 l Z a0 hw [] h0 n0 Z0) e0  (pc := 1) (Ls := #[.val (.ref ca), .val (.int (0 : Int32)), .val (.int (2 : Int32)), .unset, .unset]) (argsL := [(.int (2 : Int32))]) (rest := []) (by rw [hml]; rfl) (lenOf own_pd11 rfl) rfl (hb hby own_d_jdk_52_method_14_code_1) (by decide) (by decide) (by decide) (by decide) ?_
  intro v324 T324 L324 X324 hQ324
  obtain ⟨u, kb, rfl, N324, Xe324, gu, Vu⟩ := hQ324
  show OGo p e below (T324.setTop (mkF m 4 #[.val (.ref ca), .val (.int (0 : Int32)), .val (.int (2 : Int32)), .unset, .unset] [(.ref u)])) _
  have ncu : ca ≠ u := Nat.ne_of_lt (Nat.lt_of_lt_of_le Vc.lt gu)
  have Nc324 := Fr.app (Fr.nil n0) N324
  have sz324 : n0 ≤ T324.heap.size := Nat.le_trans Z0 Xe324.1
  have gfu : n0 ≤ u := Nat.le_trans Z0 gu
  refine OGo.step (fun _ kk => XS.astoreN X324.here hx rfl (hb hby own_d_jdk_52_method_14_code_4) rfl rfl (l' := #[.val (.ref ca), .val (.int (0 : Int32)), .val (.int (2 : Int32)), .val (.ref u), .unset]) rfl kk) ?_
  show OGo p e below (T324.setTop (mkF m 5 #[.val (.ref ca), .val (.int (0 : Int32)), .val (.int (2 : Int32)), .val (.ref u), .unset] [])) _
  refine OGo.step (fun _ kk => XS.iconst X324.here hx rfl (hb hby own_d_jdk_52_method_14_code_5) kk) ?_
  show OGo p e below (T324.setTop (mkF m 6 #[.val (.ref ca), .val (.int (0 : Int32)), .val (.int (2 : Int32)), .val (.ref u), .unset] [(.int (0 : Int32))])) _
  refine OGo.step (fun _ kk => XS.istore X324.here hx rfl (hb hby own_d_jdk_52_method_14_code_6) rfl (l' := #[.val (.ref ca), .val (.int (0 : Int32)), .val (.int (2 : Int32)), .val (.ref u), .val (.int (0 : Int32))]) rfl kk) ?_
  show OGo p e below (T324.setTop (mkF m 8 #[.val (.ref ca), .val (.int (0 : Int32)), .val (.int (2 : Int32)), .val (.ref u), .val (.int (0 : Int32))] [])) _
  show OGo p e below (T324.setTop (mkF m 8 #[.val (.ref ca), .val (.int (0 : Int32)), .val (.int (2 : Int32)), .val (.ref u), .val (.int (0 : Int32))] [])) _
  refine OGo.step (fun _ kk => XS.iload X324.here hx rfl (hb hby own_d_jdk_52_method_14_code_8) rfl kk) ?_
  show OGo p e below (T324.setTop (mkF m 10 #[.val (.ref ca), .val (.int (0 : Int32)), .val (.int (2 : Int32)), .val (.ref u), .val (.int (0 : Int32))] [(.int (0 : Int32))])) _
  refine OGo.step (fun _ kk => XS.iloadN X324.here hx rfl (hb hby own_d_jdk_52_method_14_code_10) rfl kk) ?_
  show OGo p e below (T324.setTop (mkF m 11 #[.val (.ref ca), .val (.int (0 : Int32)), .val (.int (2 : Int32)), .val (.ref u), .val (.int (0 : Int32))] [(.int (2 : Int32)), (.int (0 : Int32))])) _
  refine OGo.step (fun _ kk => XS.icmpNo X324.here hx rfl (hb hby own_d_jdk_52_method_14_code_11) rfl (tlt (by decide)).2.1 kk) ?_
  show OGo p e below (T324.setTop (mkF m 14 #[.val (.ref ca), .val (.int (0 : Int32)), .val (.int (2 : Int32)), .val (.ref u), .val (.int (0 : Int32))] [])) _
  refine OGo.step (fun _ kk => XS.aloadN X324.here hx rfl (hb hby own_d_jdk_52_method_14_code_14) rfl rfl kk) ?_
  show OGo p e below (T324.setTop (mkF m 15 #[.val (.ref ca), .val (.int (0 : Int32)), .val (.int (2 : Int32)), .val (.ref u), .val (.int (0 : Int32))] [(.ref u)])) _
  refine OGo.step (fun _ kk => XS.iload X324.here hx rfl (hb hby own_d_jdk_52_method_14_code_15) rfl kk) ?_
  show OGo p e below (T324.setTop (mkF m 17 #[.val (.ref ca), .val (.int (0 : Int32)), .val (.int (2 : Int32)), .val (.ref u), .val (.int (0 : Int32))] [(.int (0 : Int32)), (.ref u)])) _
  refine OGo.step (fun _ kk => XS.aloadN X324.here hx rfl (hb hby own_d_jdk_52_method_14_code_17) rfl rfl kk) ?_
  show OGo p e below (T324.setTop (mkF m 18 #[.val (.ref ca), .val (.int (0 : Int32)), .val (.int (2 : Int32)), .val (.ref u), .val (.int (0 : Int32))] [(.ref ca), (.int (0 : Int32)), (.ref u)])) _
  refine OGo.step (fun _ kk => XS.iloadN X324.here hx rfl (hb hby own_d_jdk_52_method_14_code_18) rfl kk) ?_
  show OGo p e below (T324.setTop (mkF m 19 #[.val (.ref ca), .val (.int (0 : Int32)), .val (.int (2 : Int32)), .val (.ref u), .val (.int (0 : Int32))] [(.int (0 : Int32)), (.ref ca), (.int (0 : Int32)), (.ref u)])) _
  have fc325 := (Vc.ext Xe324)
  obtain ⟨cA326, A326, q326, S326, M326, H326, G326⟩ := id fc325
  refine OGo.step (fun _ kk => X324.caload hx (j := (0 : Int32)) (v := (.int c0_)) (A326).1 (State.isArrayOf_alike hZ.alike (A326).2.1) (A326).2.2 (inb_of S326 ⟨by decide, by decide⟩) (H326 0 (by rw [S326]; decide)) (g := (mkF m 19 #[.val (.ref ca), .val (.int (0 : Int32)), .val (.int (2 : Int32)), .val (.ref u), .val (.int (0 : Int32))] [(.int (0 : Int32)), (.ref ca), (.int (0 : Int32)), (.ref u)])) rfl rfl (hb hby own_d_jdk_52_method_14_code_19) _ kk) ?_
  show OGo p e below (T324.setTop (mkF m 20 #[.val (.ref ca), .val (.int (0 : Int32)), .val (.int (2 : Int32)), .val (.ref u), .val (.int (0 : Int32))] [(.int c0_), (.int (0 : Int32)), (.ref u)])) _
  have fx327 := SA.ext Xe324
  have fx328 := SH.ext Xe324
  have fx329 := SL.ext Xe324
  refine own_callS X324 hx hZ (y := (⟨"java/lang/StringUTF16", "putChar", "([BII)V"⟩ : MethodName)) hown (hw _ (List.mem_of_getElem? (i := 100) rfl)) (hw _ (List.mem_of_getElem? (i := 101) rfl)) (hw _ (List.mem_of_getElem? (i := 23) rfl)) (hw _ (List.mem_of_getElem? (i := 102) rfl)) (by decide) (W := 0) (own_putc0 l Z a0 hw [] u kb _ [(.int (0 : Int32)), (.int (0 : Int32)), (.int (0 : Int32)), (.int (0 : Int32))] c0_ T324.heap n0 sz324 fx327 fx328 fx329 gfu Vu (Nat.le_of_ble_eq_true rfl) (by decide) (by decide)) rfl  (pc := 20) (Ls := #[.val (.ref ca), .val (.int (0 : Int32)), .val (.int (2 : Int32)), .val (.ref u), .val (.int (0 : Int32))]) (argsL := [(.ref u), (.int (0 : Int32)), (.int c0_)]) (rest := []) (by rw [hml]; rfl) (lenOf own_pd12 rfl) rfl (hb hby own_d_jdk_52_method_14_code_20) (by decide) (by decide) (by decide) (by decide) ?_
  intro v330 T330 L330 X330 hQ330
  obtain ⟨rfl, N330, K330, Va330⟩ := hQ330
  show OGo p e below (T330.setTop (mkF m 23 #[.val (.ref ca), .val (.int (0 : Int32)), .val (.int (2 : Int32)), .val (.ref u), .val (.int (0 : Int32))] [])) _
  have Nc330 := Fr.app Nc324 N330
  have sz330 : n0 ≤ T330.heap.size := Nat.le_trans sz324 K330.1
  refine OGo.step (fun _ kk => XS.iinc X330.here hx rfl (hb hby own_d_jdk_52_method_14_code_23) rfl (l' := #[.val (.ref ca), .val (.int ((0 : Int32) + (1 : Int32))), .val (.int (2 : Int32)), .val (.ref u), .val (.int (0 : Int32))]) rfl kk) ?_
  show OGo p e below (T330.setTop (mkF m 26 #[.val (.ref ca), .val (.int ((0 : Int32) + (1 : Int32))), .val (.int (2 : Int32)), .val (.ref u), .val (.int (0 : Int32))] [])) _
  refine OGo.step (fun _ kk => XS.iinc X330.here hx rfl (hb hby own_d_jdk_52_method_14_code_26) rfl (l' := #[.val (.ref ca), .val (.int ((0 : Int32) + (1 : Int32))), .val (.int (2 : Int32)), .val (.ref u), .val (.int ((0 : Int32) + (1 : Int32)))]) rfl kk) ?_
  show OGo p e below (T330.setTop (mkF m 29 #[.val (.ref ca), .val (.int ((0 : Int32) + (1 : Int32))), .val (.int (2 : Int32)), .val (.ref u), .val (.int ((0 : Int32) + (1 : Int32)))] [])) _
  refine OGo.step (fun _ kk => XS.goto X330.here hx rfl (pc0 := 29) (pc' := 8) rfl (hb hby own_d_jdk_52_method_14_code_29) (by decide) (by decide) kk) ?_
  show OGo p e below (T330.setTop (mkF m 8 #[.val (.ref ca), .val (.int ((0 : Int32) + (1 : Int32))), .val (.int (2 : Int32)), .val (.ref u), .val (.int ((0 : Int32) + (1 : Int32)))] [])) _
  show OGo p e below (T330.setTop (mkF m 8 #[.val (.ref ca), .val (.int (1 : Int32)), .val (.int (2 : Int32)), .val (.ref u), .val (.int (1 : Int32))] [])) _
  refine OGo.step (fun _ kk => XS.iload X330.here hx rfl (hb hby own_d_jdk_52_method_14_code_8) rfl kk) ?_
  show OGo p e below (T330.setTop (mkF m 10 #[.val (.ref ca), .val (.int (1 : Int32)), .val (.int (2 : Int32)), .val (.ref u), .val (.int (1 : Int32))] [(.int (1 : Int32))])) _
  refine OGo.step (fun _ kk => XS.iloadN X330.here hx rfl (hb hby own_d_jdk_52_method_14_code_10) rfl kk) ?_
  show OGo p e below (T330.setTop (mkF m 11 #[.val (.ref ca), .val (.int (1 : Int32)), .val (.int (2 : Int32)), .val (.ref u), .val (.int (1 : Int32))] [(.int (2 : Int32)), (.int (1 : Int32))])) _
  refine OGo.step (fun _ kk => XS.icmpNo X330.here hx rfl (hb hby own_d_jdk_52_method_14_code_11) rfl (tlt (by decide)).2.1 kk) ?_
  show OGo p e below (T330.setTop (mkF m 14 #[.val (.ref ca), .val (.int (1 : Int32)), .val (.int (2 : Int32)), .val (.ref u), .val (.int (1 : Int32))] [])) _
  refine OGo.step (fun _ kk => XS.aloadN X330.here hx rfl (hb hby own_d_jdk_52_method_14_code_14) rfl rfl kk) ?_
  show OGo p e below (T330.setTop (mkF m 15 #[.val (.ref ca), .val (.int (1 : Int32)), .val (.int (2 : Int32)), .val (.ref u), .val (.int (1 : Int32))] [(.ref u)])) _
  refine OGo.step (fun _ kk => XS.iload X330.here hx rfl (hb hby own_d_jdk_52_method_14_code_15) rfl kk) ?_
  show OGo p e below (T330.setTop (mkF m 17 #[.val (.ref ca), .val (.int (1 : Int32)), .val (.int (2 : Int32)), .val (.ref u), .val (.int (1 : Int32))] [(.int (1 : Int32)), (.ref u)])) _
  refine OGo.step (fun _ kk => XS.aloadN X330.here hx rfl (hb hby own_d_jdk_52_method_14_code_17) rfl rfl kk) ?_
  show OGo p e below (T330.setTop (mkF m 18 #[.val (.ref ca), .val (.int (1 : Int32)), .val (.int (2 : Int32)), .val (.ref u), .val (.int (1 : Int32))] [(.ref ca), (.int (1 : Int32)), (.ref u)])) _
  refine OGo.step (fun _ kk => XS.iloadN X330.here hx rfl (hb hby own_d_jdk_52_method_14_code_18) rfl kk) ?_
  show OGo p e below (T330.setTop (mkF m 19 #[.val (.ref ca), .val (.int (1 : Int32)), .val (.int (2 : Int32)), .val (.ref u), .val (.int (1 : Int32))] [(.int (1 : Int32)), (.ref ca), (.int (1 : Int32)), (.ref u)])) _
  have fc331 := (fc325.keep K330 (ninS ncu nin0))
  obtain ⟨cA332, A332, q332, S332, M332, H332, G332⟩ := id fc331
  refine OGo.step (fun _ kk => X330.caload hx (j := (1 : Int32)) (v := (.int c1_)) (A332).1 (State.isArrayOf_alike hZ.alike (A332).2.1) (A332).2.2 (inb_of S332 ⟨by decide, by decide⟩) (H332 1 (by rw [S332]; decide)) (g := (mkF m 19 #[.val (.ref ca), .val (.int (1 : Int32)), .val (.int (2 : Int32)), .val (.ref u), .val (.int (1 : Int32))] [(.int (1 : Int32)), (.ref ca), (.int (1 : Int32)), (.ref u)])) rfl rfl (hb hby own_d_jdk_52_method_14_code_19) _ kk) ?_
  show OGo p e below (T330.setTop (mkF m 20 #[.val (.ref ca), .val (.int (1 : Int32)), .val (.int (2 : Int32)), .val (.ref u), .val (.int (1 : Int32))] [(.int c1_), (.int (1 : Int32)), (.ref u)])) _
  have xt333 := (own_ext_keep Xe324 K330 (allS gu all0))
  have fx334 := SA.ext xt333
  have fx335 := SH.ext xt333
  have fx336 := SL.ext xt333
  refine own_callS X330 hx hZ (y := (⟨"java/lang/StringUTF16", "putChar", "([BII)V"⟩ : MethodName)) hown (hw _ (List.mem_of_getElem? (i := 100) rfl)) (hw _ (List.mem_of_getElem? (i := 101) rfl)) (hw _ (List.mem_of_getElem? (i := 23) rfl)) (hw _ (List.mem_of_getElem? (i := 102) rfl)) (by decide) (W := 0) (own_putc1 l Z a0 hw [] u kb _ (([(.int (0 : Int32)), (.int (0 : Int32)), (.int (0 : Int32)), (.int (0 : Int32))].set 0 (.int (StrChars.lo8 c0_))).set 1 (.int (StrChars.hi8 c0_))) c1_ T330.heap n0 sz330 fx334 fx335 fx336 gfu Va330 (Nat.le_of_ble_eq_true rfl) (by decide) (by decide)) rfl  (pc := 20) (Ls := #[.val (.ref ca), .val (.int (1 : Int32)), .val (.int (2 : Int32)), .val (.ref u), .val (.int (1 : Int32))]) (argsL := [(.ref u), (.int (1 : Int32)), (.int c1_)]) (rest := []) (by rw [hml]; rfl) (lenOf own_pd12 rfl) rfl (hb hby own_d_jdk_52_method_14_code_20) (by decide) (by decide) (by decide) (by decide) ?_
  intro v337 T337 L337 X337 hQ337
  obtain ⟨rfl, N337, K337, Va337⟩ := hQ337
  show OGo p e below (T337.setTop (mkF m 23 #[.val (.ref ca), .val (.int (1 : Int32)), .val (.int (2 : Int32)), .val (.ref u), .val (.int (1 : Int32))] [])) _
  have Nc337 := Fr.app Nc330 N337
  have sz337 : n0 ≤ T337.heap.size := Nat.le_trans sz330 K337.1
  refine OGo.step (fun _ kk => XS.iinc X337.here hx rfl (hb hby own_d_jdk_52_method_14_code_23) rfl (l' := #[.val (.ref ca), .val (.int ((1 : Int32) + (1 : Int32))), .val (.int (2 : Int32)), .val (.ref u), .val (.int (1 : Int32))]) rfl kk) ?_
  show OGo p e below (T337.setTop (mkF m 26 #[.val (.ref ca), .val (.int ((1 : Int32) + (1 : Int32))), .val (.int (2 : Int32)), .val (.ref u), .val (.int (1 : Int32))] [])) _
  refine OGo.step (fun _ kk => XS.iinc X337.here hx rfl (hb hby own_d_jdk_52_method_14_code_26) rfl (l' := #[.val (.ref ca), .val (.int ((1 : Int32) + (1 : Int32))), .val (.int (2 : Int32)), .val (.ref u), .val (.int ((1 : Int32) + (1 : Int32)))]) rfl kk) ?_
  show OGo p e below (T337.setTop (mkF m 29 #[.val (.ref ca), .val (.int ((1 : Int32) + (1 : Int32))), .val (.int (2 : Int32)), .val (.ref u), .val (.int ((1 : Int32) + (1 : Int32)))] [])) _
  refine OGo.step (fun _ kk => XS.goto X337.here hx rfl (pc0 := 29) (pc' := 8) rfl (hb hby own_d_jdk_52_method_14_code_29) (by decide) (by decide) kk) ?_
  show OGo p e below (T337.setTop (mkF m 8 #[.val (.ref ca), .val (.int ((1 : Int32) + (1 : Int32))), .val (.int (2 : Int32)), .val (.ref u), .val (.int ((1 : Int32) + (1 : Int32)))] [])) _
  show OGo p e below (T337.setTop (mkF m 8 #[.val (.ref ca), .val (.int (2 : Int32)), .val (.int (2 : Int32)), .val (.ref u), .val (.int (2 : Int32))] [])) _
  refine OGo.step (fun _ kk => XS.iload X337.here hx rfl (hb hby own_d_jdk_52_method_14_code_8) rfl kk) ?_
  show OGo p e below (T337.setTop (mkF m 10 #[.val (.ref ca), .val (.int (2 : Int32)), .val (.int (2 : Int32)), .val (.ref u), .val (.int (2 : Int32))] [(.int (2 : Int32))])) _
  refine OGo.step (fun _ kk => XS.iloadN X337.here hx rfl (hb hby own_d_jdk_52_method_14_code_10) rfl kk) ?_
  show OGo p e below (T337.setTop (mkF m 11 #[.val (.ref ca), .val (.int (2 : Int32)), .val (.int (2 : Int32)), .val (.ref u), .val (.int (2 : Int32))] [(.int (2 : Int32)), (.int (2 : Int32))])) _
  refine OGo.step (fun _ kk => XS.icmpYes X337.here hx rfl (pc0 := 11) (pc' := 32) rfl (hb hby own_d_jdk_52_method_14_code_11) rfl (flt (by decide)).2.1 (by decide) (by decide) kk) ?_
  show OGo p e below (T337.setTop (mkF m 32 #[.val (.ref ca), .val (.int (2 : Int32)), .val (.int (2 : Int32)), .val (.ref u), .val (.int (2 : Int32))] [])) _
  refine OGo.step (fun _ kk => XS.aloadN X337.here hx rfl (hb hby own_d_jdk_52_method_14_code_32) rfl rfl kk) ?_
  show OGo p e below (T337.setTop (mkF m 33 #[.val (.ref ca), .val (.int (2 : Int32)), .val (.int (2 : Int32)), .val (.ref u), .val (.int (2 : Int32))] [(.ref u)])) _
  have xt338 := (own_ext_keep xt333 K337 (allS gu all0))
  exact own_ret X337 hx hlk hret rfl (Or.inr (Or.inr (Or.inr (Or.inr ⟨rfl, rfl, rfl⟩)))) (hb hby own_d_jdk_52_method_14_code_33) ⟨u, kb, rfl, Nc337, xt338, gu, Va337⟩ (by decide) (by decide)

set_option maxRecDepth 65536 in
set_option maxHeartbeats 40000000 in
theorem own_cmp5_2 (l : Launch) (Z : State) (a0 : Array Value) (hw : ∀ d ∈ tables_1, d.before a0 Z = true) (ws : List Jvm.Cond) (ca ba : Addr) (kc kb : ClassId) (c0_ c1_ : Int32) (h0 : Heap) (n0 : Nat) (Z0 : n0 ≤ h0.size) (Vc : Arv Z h0 ca kc .char (2 : Int32) [(.int c0_), (.int c1_)] (.int (0 : Int32))) (Vb : Arv Z h0 ba kb .byte (2 : Int32) [(.int (0 : Int32)), (.int (0 : Int32))] (.int (0 : Int32))) (gb : n0 ≤ ba) (ncb : ca ≠ ba) (hex : (255 : Int32) < c0_ ∨ (255 : Int32) < c1_) :
    OMet l Z (⟨"java/lang/StringUTF16", "compress", "([CI[BII)I"⟩ : MethodName) jdk_52_method_21_code 7 (some .int) ws ({ frames := 0, cells := 0, slots := 0, locals := 0 } : Room) #[(.ref ca), (.int (0 : Int32)), (.ref ba), (.int (0 : Int32)), (.int (2 : Int32))] h0 (fun v h L => ∃ k : Nat, v = some (.int (Int32.ofNat k)) ∧ k < 2 ∧ (255 : Int32) < ([c0_, c1_] : List Int32).getD k 0 ∧ Fr n0 L ∧ Keep h0 h [ba]) := by
  refine OMet.body (plainFor_of_name own_pn4) ?_
  intro p e s m below meth c s₁ hx hby hml hown hnm hret hlk hZ X0 e0
  refine OGo.step (fun _ kk => castTop (show entryFrame m #[(.ref ca), (.int (0 : Int32)), (.ref ba), (.int (0 : Int32)), (.int (2 : Int32))] 7 = (mkF m 0 #[.val (.ref ca), .val (.int (0 : Int32)), .val (.ref ba), .val (.int (0 : Int32)), .val (.int (2 : Int32)), .unset, .unset] []) from by first | (simp [entryFrame, mkF, argsToLocals, Value.category]; done) | rfl) kk) ?_
  show OGo p e below (s₁.setTop (mkF m 0 #[.val (.ref ca), .val (.int (0 : Int32)), .val (.ref ba), .val (.int (0 : Int32)), .val (.int (2 : Int32)), .unset, .unset] [])) _
  refine OGo.step (fun _ kk => XS.iconst X0.here hx rfl (hb hby own_d_jdk_52_method_21_code_0) kk) ?_
  show OGo p e below (s₁.setTop (mkF m 1 #[.val (.ref ca), .val (.int (0 : Int32)), .val (.ref ba), .val (.int (0 : Int32)), .val (.int (2 : Int32)), .unset, .unset] [(.int (0 : Int32))])) _
  refine OGo.step (fun _ kk => XS.istore X0.here hx rfl (hb hby own_d_jdk_52_method_21_code_1) rfl (l' := #[.val (.ref ca), .val (.int (0 : Int32)), .val (.ref ba), .val (.int (0 : Int32)), .val (.int (2 : Int32)), .val (.int (0 : Int32)), .unset]) rfl kk) ?_
  show OGo p e below (s₁.setTop (mkF m 3 #[.val (.ref ca), .val (.int (0 : Int32)), .val (.ref ba), .val (.int (0 : Int32)), .val (.int (2 : Int32)), .val (.int (0 : Int32)), .unset] [])) _
  refine OGo.step (fun _ kk => XS.iload X0.here hx rfl (hb hby own_d_jdk_52_method_21_code_3) rfl kk) ?_
  show OGo p e below (s₁.setTop (mkF m 5 #[.val (.ref ca), .val (.int (0 : Int32)), .val (.ref ba), .val (.int (0 : Int32)), .val (.int (2 : Int32)), .val (.int (0 : Int32)), .unset] [(.int (0 : Int32))])) _
  refine OGo.step (fun _ kk => XS.iload X0.here hx rfl (hb hby own_d_jdk_52_method_21_code_5) rfl kk) ?_
  show OGo p e below (s₁.setTop (mkF m 7 #[.val (.ref ca), .val (.int (0 : Int32)), .val (.ref ba), .val (.int (0 : Int32)), .val (.int (2 : Int32)), .val (.int (0 : Int32)), .unset] [(.int (2 : Int32)), (.int (0 : Int32))])) _
  refine OGo.step (fun _ kk => XS.icmpNo X0.here hx rfl (hb hby own_d_jdk_52_method_21_code_7) rfl (tlt (by decide)).2.1 kk) ?_
  show OGo p e below (s₁.setTop (mkF m 10 #[.val (.ref ca), .val (.int (0 : Int32)), .val (.ref ba), .val (.int (0 : Int32)), .val (.int (2 : Int32)), .val (.int (0 : Int32)), .unset] [])) _
  refine OGo.step (fun _ kk => XS.aloadN X0.here hx rfl (hb hby own_d_jdk_52_method_21_code_10) rfl rfl kk) ?_
  show OGo p e below (s₁.setTop (mkF m 11 #[.val (.ref ca), .val (.int (0 : Int32)), .val (.ref ba), .val (.int (0 : Int32)), .val (.int (2 : Int32)), .val (.int (0 : Int32)), .unset] [(.ref ca)])) _
  refine OGo.step (fun _ kk => XS.iloadN X0.here hx rfl (hb hby own_d_jdk_52_method_21_code_11) rfl kk) ?_
  show OGo p e below (s₁.setTop (mkF m 12 #[.val (.ref ca), .val (.int (0 : Int32)), .val (.ref ba), .val (.int (0 : Int32)), .val (.int (2 : Int32)), .val (.int (0 : Int32)), .unset] [(.int (0 : Int32)), (.ref ca)])) _
  obtain ⟨cA339, A339, q339, S339, M339, H339, G339⟩ := id Vc
  refine OGo.step (fun _ kk => X0.caload hx (j := (0 : Int32)) (v := (.int c0_)) (by rw [e0]; exact (A339).1) (State.isArrayOf_alike hZ.alike (A339).2.1) (A339).2.2 (inb_of S339 ⟨by decide, by decide⟩) (H339 0 (by rw [S339]; decide)) (g := (mkF m 12 #[.val (.ref ca), .val (.int (0 : Int32)), .val (.ref ba), .val (.int (0 : Int32)), .val (.int (2 : Int32)), .val (.int (0 : Int32)), .unset] [(.int (0 : Int32)), (.ref ca)])) rfl rfl (hb hby own_d_jdk_52_method_21_code_12) _ kk) ?_
  show OGo p e below (s₁.setTop (mkF m 13 #[.val (.ref ca), .val (.int (0 : Int32)), .val (.ref ba), .val (.int (0 : Int32)), .val (.int (2 : Int32)), .val (.int (0 : Int32)), .unset] [(.int c0_)])) _
  refine OGo.step (fun _ kk => XS.istore X0.here hx rfl (hb hby own_d_jdk_52_method_21_code_13) rfl (l' := #[.val (.ref ca), .val (.int (0 : Int32)), .val (.ref ba), .val (.int (0 : Int32)), .val (.int (2 : Int32)), .val (.int (0 : Int32)), .val (.int c0_)]) rfl kk) ?_
  show OGo p e below (s₁.setTop (mkF m 15 #[.val (.ref ca), .val (.int (0 : Int32)), .val (.ref ba), .val (.int (0 : Int32)), .val (.int (2 : Int32)), .val (.int (0 : Int32)), .val (.int c0_)] [])) _
  refine OGo.step (fun _ kk => XS.iload X0.here hx rfl (hb hby own_d_jdk_52_method_21_code_15) rfl kk) ?_
  show OGo p e below (s₁.setTop (mkF m 17 #[.val (.ref ca), .val (.int (0 : Int32)), .val (.ref ba), .val (.int (0 : Int32)), .val (.int (2 : Int32)), .val (.int (0 : Int32)), .val (.int c0_)] [(.int c0_)])) _
  refine OGo.step (fun _ kk => XS.sipush X0.here hx rfl (hb hby own_d_jdk_52_method_21_code_17) kk) ?_
  show OGo p e below (s₁.setTop (mkF m 20 #[.val (.ref ca), .val (.int (0 : Int32)), .val (.ref ba), .val (.int (0 : Int32)), .val (.int (2 : Int32)), .val (.int (0 : Int32)), .val (.int c0_)] [(.int (255 : Int32)), (.int c0_)])) _
  by_cases hq0 : (255 : Int32) < c0_
  · refine OGo.step (fun _ kk => XS.icmpNo X0.here hx rfl (hb hby own_d_jdk_52_method_21_code_20) rfl (tlt hq0).2.2.2 kk) ?_
    show OGo p e below (s₁.setTop (mkF m 23 #[.val (.ref ca), .val (.int (0 : Int32)), .val (.ref ba), .val (.int (0 : Int32)), .val (.int (2 : Int32)), .val (.int (0 : Int32)), .val (.int c0_)] [])) _
    refine OGo.step (fun _ kk => XS.iload X0.here hx rfl (hb hby own_d_jdk_52_method_21_code_23) rfl kk) ?_
    show OGo p e below (s₁.setTop (mkF m 25 #[.val (.ref ca), .val (.int (0 : Int32)), .val (.ref ba), .val (.int (0 : Int32)), .val (.int (2 : Int32)), .val (.int (0 : Int32)), .val (.int c0_)] [(.int (0 : Int32))])) _
    have HK := (Keep.refl h0 [ba])
    exact own_ret X0 hx hlk hret rfl (Or.inl ⟨rfl, Or.inl rfl, _, rfl⟩) (hb hby own_d_jdk_52_method_21_code_25) (by rw [e0]; exact ⟨0, rfl, by decide, hq0, (Fr.nil n0), HK⟩) (by decide) (by decide)
  · skip
    refine OGo.step (fun _ kk => XS.icmpYes X0.here hx rfl (pc0 := 20) (pc' := 26) rfl (hb hby own_d_jdk_52_method_21_code_20) rfl (flt hq0).2.2.2 (by decide) (by decide) kk) ?_
    show OGo p e below (s₁.setTop (mkF m 26 #[.val (.ref ca), .val (.int (0 : Int32)), .val (.ref ba), .val (.int (0 : Int32)), .val (.int (2 : Int32)), .val (.int (0 : Int32)), .val (.int c0_)] [])) _
    refine OGo.step (fun _ kk => XS.aloadN X0.here hx rfl (hb hby own_d_jdk_52_method_21_code_26) rfl rfl kk) ?_
    show OGo p e below (s₁.setTop (mkF m 27 #[.val (.ref ca), .val (.int (0 : Int32)), .val (.ref ba), .val (.int (0 : Int32)), .val (.int (2 : Int32)), .val (.int (0 : Int32)), .val (.int c0_)] [(.ref ba)])) _
    refine OGo.step (fun _ kk => XS.iloadN X0.here hx rfl (hb hby own_d_jdk_52_method_21_code_27) rfl kk) ?_
    show OGo p e below (s₁.setTop (mkF m 28 #[.val (.ref ca), .val (.int (0 : Int32)), .val (.ref ba), .val (.int (0 : Int32)), .val (.int (2 : Int32)), .val (.int (0 : Int32)), .val (.int c0_)] [(.int (0 : Int32)), (.ref ba)])) _
    refine OGo.step (fun _ kk => XS.iload X0.here hx rfl (hb hby own_d_jdk_52_method_21_code_28) rfl kk) ?_
    show OGo p e below (s₁.setTop (mkF m 30 #[.val (.ref ca), .val (.int (0 : Int32)), .val (.ref ba), .val (.int (0 : Int32)), .val (.int (2 : Int32)), .val (.int (0 : Int32)), .val (.int c0_)] [(.int c0_), (.int (0 : Int32)), (.ref ba)])) _
    refine OGo.step (fun _ kk => XS.i2b X0.here hx rfl (hb hby own_d_jdk_52_method_21_code_30) rfl kk) ?_
    show OGo p e below (s₁.setTop (mkF m 31 #[.val (.ref ca), .val (.int (0 : Int32)), .val (.ref ba), .val (.int (0 : Int32)), .val (.int (2 : Int32)), .val (.int (0 : Int32)), .val (.int c0_)] [(.int (c0_.toInt8.toInt32)), (.int (0 : Int32)), (.ref ba)])) _
    obtain ⟨cA340, A340, q340, S340, M340, H340, G340⟩ := id Vb
    obtain ⟨T341, h341, X341, e341, W341, st341⟩ := stB X0 hx hZ e0 A340 (j := (0 : Int32)) (inb_of S340 ⟨by decide, by decide⟩) (g := (mkF m 31 #[.val (.ref ca), .val (.int (0 : Int32)), .val (.ref ba), .val (.int (0 : Int32)), .val (.int (2 : Int32)), .val (.int (0 : Int32)), .val (.int c0_)] [(.int (c0_.toInt8.toInt32)), (.int (0 : Int32)), (.ref ba)])) rfl rfl (hb hby own_d_jdk_52_method_21_code_31)
    refine OGo.step st341 ?_
    show OGo p e below (T341.setTop (mkF m 32 #[.val (.ref ca), .val (.int (0 : Int32)), .val (.ref ba), .val (.int (0 : Int32)), .val (.int (2 : Int32)), .val (.int (0 : Int32)), .val (.int c0_)] [])) _
    have Va340 : Arv Z h341 ba kb .byte (2 : Int32) [(.int (nar .byte (c0_.toInt8.toInt32))), (.int (0 : Int32))] (.int (0 : Int32)) := Arv.set A340 q340 S340 M340 H340 G340 (fits_nar_byte _) W341 0 rfl (Nat.le_of_ble_eq_true rfl)
    have Nf341 := Fr.snoc X341 (Fr.nil n0) gb
    have sz341 : n0 ≤ h341.size := by rw [W341.size]; exact Z0
    refine OGo.step (fun _ kk => XS.iinc X341.here hx rfl (hb hby own_d_jdk_52_method_21_code_32) rfl (l' := #[.val (.ref ca), .val (.int ((0 : Int32) + (1 : Int32))), .val (.ref ba), .val (.int (0 : Int32)), .val (.int (2 : Int32)), .val (.int (0 : Int32)), .val (.int c0_)]) rfl kk) ?_
    show OGo p e below (T341.setTop (mkF m 35 #[.val (.ref ca), .val (.int ((0 : Int32) + (1 : Int32))), .val (.ref ba), .val (.int (0 : Int32)), .val (.int (2 : Int32)), .val (.int (0 : Int32)), .val (.int c0_)] [])) _
    refine OGo.step (fun _ kk => XS.iinc X341.here hx rfl (hb hby own_d_jdk_52_method_21_code_35) rfl (l' := #[.val (.ref ca), .val (.int ((0 : Int32) + (1 : Int32))), .val (.ref ba), .val (.int ((0 : Int32) + (1 : Int32))), .val (.int (2 : Int32)), .val (.int (0 : Int32)), .val (.int c0_)]) rfl kk) ?_
    show OGo p e below (T341.setTop (mkF m 38 #[.val (.ref ca), .val (.int ((0 : Int32) + (1 : Int32))), .val (.ref ba), .val (.int ((0 : Int32) + (1 : Int32))), .val (.int (2 : Int32)), .val (.int (0 : Int32)), .val (.int c0_)] [])) _
    refine OGo.step (fun _ kk => XS.iinc X341.here hx rfl (hb hby own_d_jdk_52_method_21_code_38) rfl (l' := #[.val (.ref ca), .val (.int ((0 : Int32) + (1 : Int32))), .val (.ref ba), .val (.int ((0 : Int32) + (1 : Int32))), .val (.int (2 : Int32)), .val (.int ((0 : Int32) + (1 : Int32))), .val (.int c0_)]) rfl kk) ?_
    show OGo p e below (T341.setTop (mkF m 41 #[.val (.ref ca), .val (.int ((0 : Int32) + (1 : Int32))), .val (.ref ba), .val (.int ((0 : Int32) + (1 : Int32))), .val (.int (2 : Int32)), .val (.int ((0 : Int32) + (1 : Int32))), .val (.int c0_)] [])) _
    refine OGo.step (fun _ kk => XS.goto X341.here hx rfl (pc0 := 41) (pc' := 3) rfl (hb hby own_d_jdk_52_method_21_code_41) (by decide) (by decide) kk) ?_
    show OGo p e below (T341.setTop (mkF m 3 #[.val (.ref ca), .val (.int ((0 : Int32) + (1 : Int32))), .val (.ref ba), .val (.int ((0 : Int32) + (1 : Int32))), .val (.int (2 : Int32)), .val (.int ((0 : Int32) + (1 : Int32))), .val (.int c0_)] [])) _
    show OGo p e below (T341.setTop (mkF m 3 #[.val (.ref ca), .val (.int (1 : Int32)), .val (.ref ba), .val (.int (1 : Int32)), .val (.int (2 : Int32)), .val (.int (1 : Int32)), .val (.int c0_)] [])) _
    refine OGo.step (fun _ kk => XS.iload X341.here hx rfl (hb hby own_d_jdk_52_method_21_code_3) rfl kk) ?_
    show OGo p e below (T341.setTop (mkF m 5 #[.val (.ref ca), .val (.int (1 : Int32)), .val (.ref ba), .val (.int (1 : Int32)), .val (.int (2 : Int32)), .val (.int (1 : Int32)), .val (.int c0_)] [(.int (1 : Int32))])) _
    refine OGo.step (fun _ kk => XS.iload X341.here hx rfl (hb hby own_d_jdk_52_method_21_code_5) rfl kk) ?_
    show OGo p e below (T341.setTop (mkF m 7 #[.val (.ref ca), .val (.int (1 : Int32)), .val (.ref ba), .val (.int (1 : Int32)), .val (.int (2 : Int32)), .val (.int (1 : Int32)), .val (.int c0_)] [(.int (2 : Int32)), (.int (1 : Int32))])) _
    refine OGo.step (fun _ kk => XS.icmpNo X341.here hx rfl (hb hby own_d_jdk_52_method_21_code_7) rfl (tlt (by decide)).2.1 kk) ?_
    show OGo p e below (T341.setTop (mkF m 10 #[.val (.ref ca), .val (.int (1 : Int32)), .val (.ref ba), .val (.int (1 : Int32)), .val (.int (2 : Int32)), .val (.int (1 : Int32)), .val (.int c0_)] [])) _
    refine OGo.step (fun _ kk => XS.aloadN X341.here hx rfl (hb hby own_d_jdk_52_method_21_code_10) rfl rfl kk) ?_
    show OGo p e below (T341.setTop (mkF m 11 #[.val (.ref ca), .val (.int (1 : Int32)), .val (.ref ba), .val (.int (1 : Int32)), .val (.int (2 : Int32)), .val (.int (1 : Int32)), .val (.int c0_)] [(.ref ca)])) _
    refine OGo.step (fun _ kk => XS.iloadN X341.here hx rfl (hb hby own_d_jdk_52_method_21_code_11) rfl kk) ?_
    show OGo p e below (T341.setTop (mkF m 12 #[.val (.ref ca), .val (.int (1 : Int32)), .val (.ref ba), .val (.int (1 : Int32)), .val (.int (2 : Int32)), .val (.int (1 : Int32)), .val (.int c0_)] [(.int (1 : Int32)), (.ref ca)])) _
    have fc342 := (Vc.other W341 ncb)
    obtain ⟨cA343, A343, q343, S343, M343, H343, G343⟩ := id fc342
    refine OGo.step (fun _ kk => X341.caload hx (j := (1 : Int32)) (v := (.int c1_)) (by rw [e341]; exact (A343).1) (State.isArrayOf_alike hZ.alike (A343).2.1) (A343).2.2 (inb_of S343 ⟨by decide, by decide⟩) (H343 1 (by rw [S343]; decide)) (g := (mkF m 12 #[.val (.ref ca), .val (.int (1 : Int32)), .val (.ref ba), .val (.int (1 : Int32)), .val (.int (2 : Int32)), .val (.int (1 : Int32)), .val (.int c0_)] [(.int (1 : Int32)), (.ref ca)])) rfl rfl (hb hby own_d_jdk_52_method_21_code_12) _ kk) ?_
    show OGo p e below (T341.setTop (mkF m 13 #[.val (.ref ca), .val (.int (1 : Int32)), .val (.ref ba), .val (.int (1 : Int32)), .val (.int (2 : Int32)), .val (.int (1 : Int32)), .val (.int c0_)] [(.int c1_)])) _
    refine OGo.step (fun _ kk => XS.istore X341.here hx rfl (hb hby own_d_jdk_52_method_21_code_13) rfl (l' := #[.val (.ref ca), .val (.int (1 : Int32)), .val (.ref ba), .val (.int (1 : Int32)), .val (.int (2 : Int32)), .val (.int (1 : Int32)), .val (.int c1_)]) rfl kk) ?_
    show OGo p e below (T341.setTop (mkF m 15 #[.val (.ref ca), .val (.int (1 : Int32)), .val (.ref ba), .val (.int (1 : Int32)), .val (.int (2 : Int32)), .val (.int (1 : Int32)), .val (.int c1_)] [])) _
    refine OGo.step (fun _ kk => XS.iload X341.here hx rfl (hb hby own_d_jdk_52_method_21_code_15) rfl kk) ?_
    show OGo p e below (T341.setTop (mkF m 17 #[.val (.ref ca), .val (.int (1 : Int32)), .val (.ref ba), .val (.int (1 : Int32)), .val (.int (2 : Int32)), .val (.int (1 : Int32)), .val (.int c1_)] [(.int c1_)])) _
    refine OGo.step (fun _ kk => XS.sipush X341.here hx rfl (hb hby own_d_jdk_52_method_21_code_17) kk) ?_
    show OGo p e below (T341.setTop (mkF m 20 #[.val (.ref ca), .val (.int (1 : Int32)), .val (.ref ba), .val (.int (1 : Int32)), .val (.int (2 : Int32)), .val (.int (1 : Int32)), .val (.int c1_)] [(.int (255 : Int32)), (.int c1_)])) _
    by_cases hq1 : (255 : Int32) < c1_
    · refine OGo.step (fun _ kk => XS.icmpNo X341.here hx rfl (hb hby own_d_jdk_52_method_21_code_20) rfl (tlt hq1).2.2.2 kk) ?_
      show OGo p e below (T341.setTop (mkF m 23 #[.val (.ref ca), .val (.int (1 : Int32)), .val (.ref ba), .val (.int (1 : Int32)), .val (.int (2 : Int32)), .val (.int (1 : Int32)), .val (.int c1_)] [])) _
      refine OGo.step (fun _ kk => XS.iload X341.here hx rfl (hb hby own_d_jdk_52_method_21_code_23) rfl kk) ?_
      show OGo p e below (T341.setTop (mkF m 25 #[.val (.ref ca), .val (.int (1 : Int32)), .val (.ref ba), .val (.int (1 : Int32)), .val (.int (2 : Int32)), .val (.int (1 : Int32)), .val (.int c1_)] [(.int (1 : Int32))])) _
      have HK := ((Keep.refl h0 [ba]).wr W341 (Or.inl (List.mem_of_getElem? (i := 0) rfl)))
      exact own_ret X341 hx hlk hret rfl (Or.inl ⟨rfl, Or.inl rfl, _, rfl⟩) (hb hby own_d_jdk_52_method_21_code_25) (by rw [e341]; exact ⟨1, rfl, by decide, hq1, Nf341, HK⟩) (by decide) (by decide)
    · skip
      refine OGo.step (fun _ kk => XS.icmpYes X341.here hx rfl (pc0 := 20) (pc' := 26) rfl (hb hby own_d_jdk_52_method_21_code_20) rfl (flt hq1).2.2.2 (by decide) (by decide) kk) ?_
      show OGo p e below (T341.setTop (mkF m 26 #[.val (.ref ca), .val (.int (1 : Int32)), .val (.ref ba), .val (.int (1 : Int32)), .val (.int (2 : Int32)), .val (.int (1 : Int32)), .val (.int c1_)] [])) _
      refine OGo.step (fun _ kk => XS.aloadN X341.here hx rfl (hb hby own_d_jdk_52_method_21_code_26) rfl rfl kk) ?_
      show OGo p e below (T341.setTop (mkF m 27 #[.val (.ref ca), .val (.int (1 : Int32)), .val (.ref ba), .val (.int (1 : Int32)), .val (.int (2 : Int32)), .val (.int (1 : Int32)), .val (.int c1_)] [(.ref ba)])) _
      refine OGo.step (fun _ kk => XS.iloadN X341.here hx rfl (hb hby own_d_jdk_52_method_21_code_27) rfl kk) ?_
      show OGo p e below (T341.setTop (mkF m 28 #[.val (.ref ca), .val (.int (1 : Int32)), .val (.ref ba), .val (.int (1 : Int32)), .val (.int (2 : Int32)), .val (.int (1 : Int32)), .val (.int c1_)] [(.int (1 : Int32)), (.ref ba)])) _
      refine OGo.step (fun _ kk => XS.iload X341.here hx rfl (hb hby own_d_jdk_52_method_21_code_28) rfl kk) ?_
      show OGo p e below (T341.setTop (mkF m 30 #[.val (.ref ca), .val (.int (1 : Int32)), .val (.ref ba), .val (.int (1 : Int32)), .val (.int (2 : Int32)), .val (.int (1 : Int32)), .val (.int c1_)] [(.int c1_), (.int (1 : Int32)), (.ref ba)])) _
      refine OGo.step (fun _ kk => XS.i2b X341.here hx rfl (hb hby own_d_jdk_52_method_21_code_30) rfl kk) ?_
      show OGo p e below (T341.setTop (mkF m 31 #[.val (.ref ca), .val (.int (1 : Int32)), .val (.ref ba), .val (.int (1 : Int32)), .val (.int (2 : Int32)), .val (.int (1 : Int32)), .val (.int c1_)] [(.int (c1_.toInt8.toInt32)), (.int (1 : Int32)), (.ref ba)])) _
      obtain ⟨cA344, A344, q344, S344, M344, H344, G344⟩ := id Va340
      obtain ⟨T345, h345, X345, e345, W345, st345⟩ := stB X341 hx hZ e341 A344 (j := (1 : Int32)) (inb_of S344 ⟨by decide, by decide⟩) (g := (mkF m 31 #[.val (.ref ca), .val (.int (1 : Int32)), .val (.ref ba), .val (.int (1 : Int32)), .val (.int (2 : Int32)), .val (.int (1 : Int32)), .val (.int c1_)] [(.int (c1_.toInt8.toInt32)), (.int (1 : Int32)), (.ref ba)])) rfl rfl (hb hby own_d_jdk_52_method_21_code_31)
      refine OGo.step st345 ?_
      show OGo p e below (T345.setTop (mkF m 32 #[.val (.ref ca), .val (.int (1 : Int32)), .val (.ref ba), .val (.int (1 : Int32)), .val (.int (2 : Int32)), .val (.int (1 : Int32)), .val (.int c1_)] [])) _
      have Va344 : Arv Z h345 ba kb .byte (2 : Int32) [(.int (nar .byte (c0_.toInt8.toInt32))), (.int (nar .byte (c1_.toInt8.toInt32)))] (.int (0 : Int32)) := Arv.set A344 q344 S344 M344 H344 G344 (fits_nar_byte _) W345 1 rfl (Nat.le_of_ble_eq_true rfl)
      have Nf345 := Fr.snoc X345 Nf341 gb
      have sz345 : n0 ≤ h345.size := by rw [W345.size]; exact sz341
      refine OGo.step (fun _ kk => XS.iinc X345.here hx rfl (hb hby own_d_jdk_52_method_21_code_32) rfl (l' := #[.val (.ref ca), .val (.int ((1 : Int32) + (1 : Int32))), .val (.ref ba), .val (.int (1 : Int32)), .val (.int (2 : Int32)), .val (.int (1 : Int32)), .val (.int c1_)]) rfl kk) ?_
      show OGo p e below (T345.setTop (mkF m 35 #[.val (.ref ca), .val (.int ((1 : Int32) + (1 : Int32))), .val (.ref ba), .val (.int (1 : Int32)), .val (.int (2 : Int32)), .val (.int (1 : Int32)), .val (.int c1_)] [])) _
      refine OGo.step (fun _ kk => XS.iinc X345.here hx rfl (hb hby own_d_jdk_52_method_21_code_35) rfl (l' := #[.val (.ref ca), .val (.int ((1 : Int32) + (1 : Int32))), .val (.ref ba), .val (.int ((1 : Int32) + (1 : Int32))), .val (.int (2 : Int32)), .val (.int (1 : Int32)), .val (.int c1_)]) rfl kk) ?_
      show OGo p e below (T345.setTop (mkF m 38 #[.val (.ref ca), .val (.int ((1 : Int32) + (1 : Int32))), .val (.ref ba), .val (.int ((1 : Int32) + (1 : Int32))), .val (.int (2 : Int32)), .val (.int (1 : Int32)), .val (.int c1_)] [])) _
      refine OGo.step (fun _ kk => XS.iinc X345.here hx rfl (hb hby own_d_jdk_52_method_21_code_38) rfl (l' := #[.val (.ref ca), .val (.int ((1 : Int32) + (1 : Int32))), .val (.ref ba), .val (.int ((1 : Int32) + (1 : Int32))), .val (.int (2 : Int32)), .val (.int ((1 : Int32) + (1 : Int32))), .val (.int c1_)]) rfl kk) ?_
      show OGo p e below (T345.setTop (mkF m 41 #[.val (.ref ca), .val (.int ((1 : Int32) + (1 : Int32))), .val (.ref ba), .val (.int ((1 : Int32) + (1 : Int32))), .val (.int (2 : Int32)), .val (.int ((1 : Int32) + (1 : Int32))), .val (.int c1_)] [])) _
      refine OGo.step (fun _ kk => XS.goto X345.here hx rfl (pc0 := 41) (pc' := 3) rfl (hb hby own_d_jdk_52_method_21_code_41) (by decide) (by decide) kk) ?_
      show OGo p e below (T345.setTop (mkF m 3 #[.val (.ref ca), .val (.int ((1 : Int32) + (1 : Int32))), .val (.ref ba), .val (.int ((1 : Int32) + (1 : Int32))), .val (.int (2 : Int32)), .val (.int ((1 : Int32) + (1 : Int32))), .val (.int c1_)] [])) _
      show OGo p e below (T345.setTop (mkF m 3 #[.val (.ref ca), .val (.int (2 : Int32)), .val (.ref ba), .val (.int (2 : Int32)), .val (.int (2 : Int32)), .val (.int (2 : Int32)), .val (.int c1_)] [])) _
      refine OGo.step (fun _ kk => XS.iload X345.here hx rfl (hb hby own_d_jdk_52_method_21_code_3) rfl kk) ?_
      show OGo p e below (T345.setTop (mkF m 5 #[.val (.ref ca), .val (.int (2 : Int32)), .val (.ref ba), .val (.int (2 : Int32)), .val (.int (2 : Int32)), .val (.int (2 : Int32)), .val (.int c1_)] [(.int (2 : Int32))])) _
      refine OGo.step (fun _ kk => XS.iload X345.here hx rfl (hb hby own_d_jdk_52_method_21_code_5) rfl kk) ?_
      show OGo p e below (T345.setTop (mkF m 7 #[.val (.ref ca), .val (.int (2 : Int32)), .val (.ref ba), .val (.int (2 : Int32)), .val (.int (2 : Int32)), .val (.int (2 : Int32)), .val (.int c1_)] [(.int (2 : Int32)), (.int (2 : Int32))])) _
      exact False.elim ((fun z => Or.elim z hq0 hq1) hex)

theorem own_kne2 : ∀ k : Nat, k < 2 → ¬ Int32.ofNat k = (2 : Int32) := by decide
set_option maxRecDepth 65536 in
set_option maxHeartbeats 40000000 in
theorem own_cmp3_2 (l : Launch) (Z : State) (a0 : Array Value) (hw : ∀ d ∈ tables_1, d.before a0 Z = true) (ws : List Jvm.Cond) (ca : Addr) (kc : ClassId) (c0_ c1_ : Int32) (h0 : Heap) (n0 : Nat) (Z0 : n0 ≤ h0.size) (SA : Sta Z h0 "java/lang/StringUTF16" "$assertionsDisabled" "Z" (.int (1 : Int32))) (SH : Sta Z h0 "java/lang/StringUTF16" "HI_BYTE_SHIFT" "I" (.int (0 : Int32))) (SL : Sta Z h0 "java/lang/StringUTF16" "LO_BYTE_SHIFT" "I" (.int (8 : Int32))) (Vc : Arv Z h0 ca kc .char (2 : Int32) [(.int c0_), (.int c1_)] (.int (0 : Int32))) (hb0 : ¬ c0_ < 0 ∧ ¬ (65535 : Int32) < c0_) (hb1 : ¬ c1_ < 0 ∧ ¬ (65535 : Int32) < c1_) (hex : (255 : Int32) < c0_ ∨ (255 : Int32) < c1_) :
    OMet l Z (⟨"java/lang/StringUTF16", "compress", "([CII)[B"⟩ : MethodName) jdk_52_method_16_code 6 (some (.array .byte)) ws ({ frames := 3, cells := 2, slots := 6, locals := 40 } : Room) #[(.ref ca), (.int (0 : Int32)), (.int (2 : Int32))] h0 (fun v h L => ∃ (u : Addr) (kb : ClassId), v = some (.ref u) ∧ Fr n0 L ∧ Ext h0 h ∧ h0.size ≤ u ∧ Arv Z h u kb .byte (4 : Int32) (StrChars.Road.wideBytes [c0_, c1_]) (.int (0 : Int32))) := by
  refine OMet.body (plainFor_of_name own_pn4) ?_
  intro p e s m below meth c s₁ hx hby hml hown hnm hret hlk hZ X0 e0
  refine OGo.step (fun _ kk => castTop (show entryFrame m #[(.ref ca), (.int (0 : Int32)), (.int (2 : Int32))] 6 = (mkF m 0 #[.val (.ref ca), .val (.int (0 : Int32)), .val (.int (2 : Int32)), .unset, .unset, .unset] []) from by first | (simp [entryFrame, mkF, argsToLocals, Value.category]; done) | rfl) kk) ?_
  show OGo p e below (s₁.setTop (mkF m 0 #[.val (.ref ca), .val (.int (0 : Int32)), .val (.int (2 : Int32)), .unset, .unset, .unset] [])) _
  refine OGo.step (fun _ kk => XS.iloadN X0.here hx rfl (hb hby own_d_jdk_52_method_16_code_0) rfl kk) ?_
  show OGo p e below (s₁.setTop (mkF m 1 #[.val (.ref ca), .val (.int (0 : Int32)), .val (.int (2 : Int32)), .unset, .unset, .unset] [(.int (2 : Int32))])) _
  obtain ⟨T346, h346, k346, X346, e346, E346, A346, st346⟩ := newP X0 hx hZ (hw _ (List.mem_of_getElem? (i := 25) rfl)) e0 (g := (mkF m 1 #[.val (.ref ca), .val (.int (0 : Int32)), .val (.int (2 : Int32)), .unset, .unset, .unset] [(.int (2 : Int32))])) rfl (hb hby own_d_jdk_52_method_16_code_1) rfl (by decide) (cap := 2) (by decide) (by decide) (by decide) (by decide)
  obtain ⟨ba, g346⟩ : ∃ z, z = h0.size := ⟨_, rfl⟩
  rw [← g346] at A346 st346
  refine OGo.step st346 ?_
  show OGo p e below (T346.setTop (mkF m 3 #[.val (.ref ca), .val (.int (0 : Int32)), .val (.int (2 : Int32)), .unset, .unset, .unset] [(.ref ba)])) _
  have ne_ca_ba : ca ≠ ba := Nat.ne_of_lt (Nat.lt_of_lt_of_le Vc.lt (Nat.le_of_eq g346.symm))
  have gf_ba : n0 ≤ ba := Nat.le_trans Z0 (Nat.le_of_eq g346.symm)
  have sz346 : n0 ≤ h346.size := Nat.le_trans Z0 E346.1
  have Va : Arv Z h346 ba k346 .byte (2 : Int32) [(.int (0 : Int32)), (.int (0 : Int32))] (.int (0 : Int32)) := (Arv.new A346 (by decide)).pad (pad_rep [] (.int (0 : Int32)) 2)
  refine OGo.step (fun _ kk => XS.astoreN X346.here hx rfl (hb hby own_d_jdk_52_method_16_code_3) rfl rfl (l' := #[.val (.ref ca), .val (.int (0 : Int32)), .val (.int (2 : Int32)), .val (.ref ba), .unset, .unset]) rfl kk) ?_
  show OGo p e below (T346.setTop (mkF m 4 #[.val (.ref ca), .val (.int (0 : Int32)), .val (.int (2 : Int32)), .val (.ref ba), .unset, .unset] [])) _
  refine OGo.step (fun _ kk => XS.aloadN X346.here hx rfl (hb hby own_d_jdk_52_method_16_code_4) rfl rfl kk) ?_
  show OGo p e below (T346.setTop (mkF m 5 #[.val (.ref ca), .val (.int (0 : Int32)), .val (.int (2 : Int32)), .val (.ref ba), .unset, .unset] [(.ref ca)])) _
  refine OGo.step (fun _ kk => XS.iloadN X346.here hx rfl (hb hby own_d_jdk_52_method_16_code_5) rfl kk) ?_
  show OGo p e below (T346.setTop (mkF m 6 #[.val (.ref ca), .val (.int (0 : Int32)), .val (.int (2 : Int32)), .val (.ref ba), .unset, .unset] [(.int (0 : Int32)), (.ref ca)])) _
  refine OGo.step (fun _ kk => XS.aloadN X346.here hx rfl (hb hby own_d_jdk_52_method_16_code_6) rfl rfl kk) ?_
  show OGo p e below (T346.setTop (mkF m 7 #[.val (.ref ca), .val (.int (0 : Int32)), .val (.int (2 : Int32)), .val (.ref ba), .unset, .unset] [(.ref ba), (.int (0 : Int32)), (.ref ca)])) _
  refine OGo.step (fun _ kk => XS.iconst X346.here hx rfl (hb hby own_d_jdk_52_method_16_code_7) kk) ?_
  show OGo p e below (T346.setTop (mkF m 8 #[.val (.ref ca), .val (.int (0 : Int32)), .val (.int (2 : Int32)), .val (.ref ba), .unset, .unset] [(.int (0 : Int32)), (.ref ba), (.int (0 : Int32)), (.ref ca)])) _
  refine OGo.step (fun _ kk => XS.iloadN X346.here hx rfl (hb hby own_d_jdk_52_method_16_code_8) rfl kk) ?_
  show OGo p e below (T346.setTop (mkF m 9 #[.val (.ref ca), .val (.int (0 : Int32)), .val (.int (2 : Int32)), .val (.ref ba), .unset, .unset] [(.int (2 : Int32)), (.int (0 : Int32)), (.ref ba), (.int (0 : Int32)), (.ref ca)])) _
  have fc347 := (Vc.ext E346)
  refine own_callS X346 hx hZ (y := (⟨"java/lang/StringUTF16", "compress", "([CI[BII)I"⟩ : MethodName)) hown (hw _ (List.mem_of_getElem? (i := 26) rfl)) (hw _ (List.mem_of_getElem? (i := 27) rfl)) (hw _ (List.mem_of_getElem? (i := 23) rfl)) (hw _ (List.mem_of_getElem? (i := 28) rfl)) (by decide) (W := 0) (own_cmp5_2 l Z a0 hw [] ca ba kc _ c0_ c1_ h346 n0 sz346 fc347 Va gf_ba ne_ca_ba hex) e346  (pc := 9) (Ls := #[.val (.ref ca), .val (.int (0 : Int32)), .val (.int (2 : Int32)), .val (.ref ba), .unset, .unset]) (argsL := [(.ref ca), (.int (0 : Int32)), (.ref ba), (.int (0 : Int32)), (.int (2 : Int32))]) (rest := []) (by rw [hml]; rfl) (lenOf own_pd13 rfl) rfl (hb hby own_d_jdk_52_method_16_code_9) (by decide) (by decide) (by decide) (by decide) ?_
  intro v348 T348 L348 X348 hQ348
  obtain ⟨kq_, rfl, hk, hk2, N348, K348⟩ := hQ348
  show OGo p e below (T348.setTop (mkF m 12 #[.val (.ref ca), .val (.int (0 : Int32)), .val (.int (2 : Int32)), .val (.ref ba), .unset, .unset] [(.int (Int32.ofNat kq_))])) _
  have Nc348 := Fr.app (Fr.nil n0) N348
  have sz348 : n0 ≤ T348.heap.size := Nat.le_trans sz346 K348.1
  refine OGo.step (fun _ kk => XS.istore X348.here hx rfl (hb hby own_d_jdk_52_method_16_code_12) rfl (l' := #[.val (.ref ca), .val (.int (0 : Int32)), .val (.int (2 : Int32)), .val (.ref ba), .val (.int (Int32.ofNat kq_)), .unset]) rfl kk) ?_
  show OGo p e below (T348.setTop (mkF m 14 #[.val (.ref ca), .val (.int (0 : Int32)), .val (.int (2 : Int32)), .val (.ref ba), .val (.int (Int32.ofNat kq_)), .unset] [])) _
  refine OGo.step (fun _ kk => XS.iload X348.here hx rfl (hb hby own_d_jdk_52_method_16_code_14) rfl kk) ?_
  show OGo p e below (T348.setTop (mkF m 16 #[.val (.ref ca), .val (.int (0 : Int32)), .val (.int (2 : Int32)), .val (.ref ba), .val (.int (Int32.ofNat kq_)), .unset] [(.int (Int32.ofNat kq_))])) _
  refine OGo.step (fun _ kk => XS.iloadN X348.here hx rfl (hb hby own_d_jdk_52_method_16_code_16) rfl kk) ?_
  show OGo p e below (T348.setTop (mkF m 17 #[.val (.ref ca), .val (.int (0 : Int32)), .val (.int (2 : Int32)), .val (.ref ba), .val (.int (Int32.ofNat kq_)), .unset] [(.int (2 : Int32)), (.int (Int32.ofNat kq_))])) _
  refine OGo.step (fun _ kk => XS.icmpNo X348.here hx rfl (hb hby own_d_jdk_52_method_16_code_17) rfl (feq (own_kne2 kq_ hk)).1 kk) ?_
  show OGo p e below (T348.setTop (mkF m 20 #[.val (.ref ca), .val (.int (0 : Int32)), .val (.int (2 : Int32)), .val (.ref ba), .val (.int (Int32.ofNat kq_)), .unset] [])) _
  refine OGo.step (fun _ kk => XS.aloadN X348.here hx rfl (hb hby own_d_jdk_52_method_16_code_20) rfl rfl kk) ?_
  show OGo p e below (T348.setTop (mkF m 21 #[.val (.ref ca), .val (.int (0 : Int32)), .val (.int (2 : Int32)), .val (.ref ba), .val (.int (Int32.ofNat kq_)), .unset] [(.ref ca)])) _
  refine OGo.step (fun _ kk => XS.iloadN X348.here hx rfl (hb hby own_d_jdk_52_method_16_code_21) rfl kk) ?_
  show OGo p e below (T348.setTop (mkF m 22 #[.val (.ref ca), .val (.int (0 : Int32)), .val (.int (2 : Int32)), .val (.ref ba), .val (.int (Int32.ofNat kq_)), .unset] [(.int (0 : Int32)), (.ref ca)])) _
  refine OGo.step (fun _ kk => XS.iloadN X348.here hx rfl (hb hby own_d_jdk_52_method_16_code_22) rfl kk) ?_
  show OGo p e below (T348.setTop (mkF m 23 #[.val (.ref ca), .val (.int (0 : Int32)), .val (.int (2 : Int32)), .val (.ref ba), .val (.int (Int32.ofNat kq_)), .unset] [(.int (2 : Int32)), (.int (0 : Int32)), (.ref ca)])) _
  have xt349 := (own_ext_keep E346 K348 (allS (Nat.le_of_eq g346.symm) all0))
  have fx350 := SA.ext xt349
  have fx351 := SH.ext xt349
  have fx352 := SL.ext xt349
  have fc353 := (fc347.keep K348 (ninS ne_ca_ba nin0))
  refine own_callS X348 hx hZ (y := (⟨"java/lang/StringUTF16", "toBytes", "([CII)[B"⟩ : MethodName)) hown (hw _ (List.mem_of_getElem? (i := 90) rfl)) (hw _ (List.mem_of_getElem? (i := 91) rfl)) (hw _ (List.mem_of_getElem? (i := 23) rfl)) (hw _ (List.mem_of_getElem? (i := 92) rfl)) (by decide) (W := 0) (own_toB2 l Z a0 hw [] ca kc c0_ c1_ T348.heap n0 sz348 fx350 fx351 fx352 fc353) rfl  (pc := 23) (Ls := #[.val (.ref ca), .val (.int (0 : Int32)), .val (.int (2 : Int32)), .val (.ref ba), .val (.int (Int32.ofNat kq_)), .unset]) (argsL := [(.ref ca), (.int (0 : Int32)), (.int (2 : Int32))]) (rest := []) (by rw [hml]; rfl) (lenOf own_pd14 rfl) rfl (hb hby own_d_jdk_52_method_16_code_23) (by decide) (by decide) (by decide) (by decide) ?_
  intro v354 T354 L354 X354 hQ354
  obtain ⟨u, kb, rfl, N354, Xe354, gu354, Vu⟩ := hQ354
  show OGo p e below (T354.setTop (mkF m 26 #[.val (.ref ca), .val (.int (0 : Int32)), .val (.int (2 : Int32)), .val (.ref ba), .val (.int (Int32.ofNat kq_)), .unset] [(.ref u)])) _
  have gu0 := Nat.le_trans (xt349).1 gu354
  have Nc354 := Fr.app Nc348 N354
  have sz354 : n0 ≤ T354.heap.size := Nat.le_trans sz348 Xe354.1
  refine OGo.step (fun _ kk => XS.astore X354.here hx rfl (hb hby own_d_jdk_52_method_16_code_26) rfl rfl (l' := #[.val (.ref ca), .val (.int (0 : Int32)), .val (.int (2 : Int32)), .val (.ref ba), .val (.int (Int32.ofNat kq_)), .val (.ref u)]) rfl kk) ?_
  show OGo p e below (T354.setTop (mkF m 28 #[.val (.ref ca), .val (.int (0 : Int32)), .val (.int (2 : Int32)), .val (.ref ba), .val (.int (Int32.ofNat kq_)), .val (.ref u)] [])) _
  refine OGo.step (fun _ kk => XS.aload X354.here hx rfl (hb hby own_d_jdk_52_method_16_code_28) rfl rfl kk) ?_
  show OGo p e below (T354.setTop (mkF m 30 #[.val (.ref ca), .val (.int (0 : Int32)), .val (.int (2 : Int32)), .val (.ref ba), .val (.int (Int32.ofNat kq_)), .val (.ref u)] [(.ref u)])) _
  refine OGo.step (fun _ kk => XS.iload X354.here hx rfl (hb hby own_d_jdk_52_method_16_code_30) rfl kk) ?_
  show OGo p e below (T354.setTop (mkF m 32 #[.val (.ref ca), .val (.int (0 : Int32)), .val (.int (2 : Int32)), .val (.ref ba), .val (.int (Int32.ofNat kq_)), .val (.ref u)] [(.int (Int32.ofNat kq_)), (.ref u)])) _
  obtain rfl | rfl : kq_ = 0 ∨ kq_ = 1 := by omega
  · show OGo p e below (T354.setTop (mkF m 32 #[.val (.ref ca), .val (.int (0 : Int32)), .val (.int (2 : Int32)), .val (.ref ba), .val (.int (0 : Int32)), .val (.ref u)] [(.int (0 : Int32)), (.ref u)])) _
    have xt355 := (own_ext_trans xt349 Xe354)
    have fx356 := SA.ext xt355
    have fx357 := SH.ext xt355
    have fx358 := SL.ext xt355
    refine own_callS X354 hx hZ (y := (⟨"java/lang/StringUTF16", "getChar", "([BI)C"⟩ : MethodName)) hown (hw _ (List.mem_of_getElem? (i := 106) rfl)) (hw _ (List.mem_of_getElem? (i := 107) rfl)) (hw _ (List.mem_of_getElem? (i := 23) rfl)) (hw _ (List.mem_of_getElem? (i := 108) rfl)) (by decide) (W := 0) (own_getc0 l Z a0 hw [] u kb _ (StrChars.Road.wideBytes [c0_, c1_]) (StrChars.lo8 c0_) (StrChars.hi8 c0_) T354.heap n0 sz354 fx356 fx357 fx358 Vu (by decide) (by decide) (by decide) (by decide) rfl rfl) rfl  (pc := 32) (Ls := #[.val (.ref ca), .val (.int (0 : Int32)), .val (.int (2 : Int32)), .val (.ref ba), .val (.int (0 : Int32)), .val (.ref u)]) (argsL := [(.ref u), (.int (0 : Int32))]) (rest := []) (by rw [hml]; rfl) (lenOf own_pd15 rfl) rfl (hb hby own_d_jdk_52_method_16_code_32) (by decide) (by decide) (by decide) (by decide) ?_
    intro v359 T359 L359 X359 hQ359
    obtain ⟨rfl, N359, e359⟩ := hQ359
    show OGo p e below (T359.setTop (mkF m 35 #[.val (.ref ca), .val (.int (0 : Int32)), .val (.int (2 : Int32)), .val (.ref ba), .val (.int (0 : Int32)), .val (.ref u)] [(.int (StrChars.pairCh (StrChars.lo8 c0_) (StrChars.hi8 c0_)))])) _
    have Nc359 := Fr.app Nc354 N359
    rw [StrChars.pair_says hb0.1 hb0.2]
    show OGo p e below (T359.setTop (mkF m 35 #[.val (.ref ca), .val (.int (0 : Int32)), .val (.int (2 : Int32)), .val (.ref ba), .val (.int (0 : Int32)), .val (.ref u)] [(.int c0_)])) _
    refine OGo.step (fun _ kk => XS.sipush X359.here hx rfl (hb hby own_d_jdk_52_method_16_code_35) kk) ?_
    show OGo p e below (T359.setTop (mkF m 38 #[.val (.ref ca), .val (.int (0 : Int32)), .val (.int (2 : Int32)), .val (.ref ba), .val (.int (0 : Int32)), .val (.ref u)] [(.int (255 : Int32)), (.int c0_)])) _
    refine OGo.step (fun _ kk => XS.icmpYes X359.here hx rfl (pc0 := 38) (pc' := 54) rfl (hb hby own_d_jdk_52_method_16_code_38) rfl (tlt hk2).2.2.1 (by decide) (by decide) kk) ?_
    show OGo p e below (T359.setTop (mkF m 54 #[.val (.ref ca), .val (.int (0 : Int32)), .val (.int (2 : Int32)), .val (.ref ba), .val (.int (0 : Int32)), .val (.ref u)] [])) _
    refine OGo.step (fun _ kk => XS.aload X359.here hx rfl (hb hby own_d_jdk_52_method_16_code_54) rfl rfl kk) ?_
    show OGo p e below (T359.setTop (mkF m 56 #[.val (.ref ca), .val (.int (0 : Int32)), .val (.int (2 : Int32)), .val (.ref ba), .val (.int (0 : Int32)), .val (.ref u)] [(.ref u)])) _
    exact own_ret X359 hx hlk hret rfl (Or.inr (Or.inr (Or.inr (Or.inr ⟨rfl, rfl, rfl⟩)))) (hb hby own_d_jdk_52_method_16_code_56) (by rw [e359]; exact ⟨u, kb, rfl, Nc359, xt355, gu0, Vu⟩) (by decide) (by decide)
  · show OGo p e below (T354.setTop (mkF m 32 #[.val (.ref ca), .val (.int (0 : Int32)), .val (.int (2 : Int32)), .val (.ref ba), .val (.int (1 : Int32)), .val (.ref u)] [(.int (1 : Int32)), (.ref u)])) _
    have xt360 := (own_ext_trans xt349 Xe354)
    have fx361 := SA.ext xt360
    have fx362 := SH.ext xt360
    have fx363 := SL.ext xt360
    refine own_callS X354 hx hZ (y := (⟨"java/lang/StringUTF16", "getChar", "([BI)C"⟩ : MethodName)) hown (hw _ (List.mem_of_getElem? (i := 106) rfl)) (hw _ (List.mem_of_getElem? (i := 107) rfl)) (hw _ (List.mem_of_getElem? (i := 23) rfl)) (hw _ (List.mem_of_getElem? (i := 108) rfl)) (by decide) (W := 0) (own_getc1 l Z a0 hw [] u kb _ (StrChars.Road.wideBytes [c0_, c1_]) (StrChars.lo8 c1_) (StrChars.hi8 c1_) T354.heap n0 sz354 fx361 fx362 fx363 Vu (by decide) (by decide) (by decide) (by decide) rfl rfl) rfl  (pc := 32) (Ls := #[.val (.ref ca), .val (.int (0 : Int32)), .val (.int (2 : Int32)), .val (.ref ba), .val (.int (1 : Int32)), .val (.ref u)]) (argsL := [(.ref u), (.int (1 : Int32))]) (rest := []) (by rw [hml]; rfl) (lenOf own_pd15 rfl) rfl (hb hby own_d_jdk_52_method_16_code_32) (by decide) (by decide) (by decide) (by decide) ?_
    intro v364 T364 L364 X364 hQ364
    obtain ⟨rfl, N364, e364⟩ := hQ364
    show OGo p e below (T364.setTop (mkF m 35 #[.val (.ref ca), .val (.int (0 : Int32)), .val (.int (2 : Int32)), .val (.ref ba), .val (.int (1 : Int32)), .val (.ref u)] [(.int (StrChars.pairCh (StrChars.lo8 c1_) (StrChars.hi8 c1_)))])) _
    have Nc364 := Fr.app Nc354 N364
    rw [StrChars.pair_says hb1.1 hb1.2]
    show OGo p e below (T364.setTop (mkF m 35 #[.val (.ref ca), .val (.int (0 : Int32)), .val (.int (2 : Int32)), .val (.ref ba), .val (.int (1 : Int32)), .val (.ref u)] [(.int c1_)])) _
    refine OGo.step (fun _ kk => XS.sipush X364.here hx rfl (hb hby own_d_jdk_52_method_16_code_35) kk) ?_
    show OGo p e below (T364.setTop (mkF m 38 #[.val (.ref ca), .val (.int (0 : Int32)), .val (.int (2 : Int32)), .val (.ref ba), .val (.int (1 : Int32)), .val (.ref u)] [(.int (255 : Int32)), (.int c1_)])) _
    refine OGo.step (fun _ kk => XS.icmpYes X364.here hx rfl (pc0 := 38) (pc' := 54) rfl (hb hby own_d_jdk_52_method_16_code_38) rfl (tlt hk2).2.2.1 (by decide) (by decide) kk) ?_
    show OGo p e below (T364.setTop (mkF m 54 #[.val (.ref ca), .val (.int (0 : Int32)), .val (.int (2 : Int32)), .val (.ref ba), .val (.int (1 : Int32)), .val (.ref u)] [])) _
    refine OGo.step (fun _ kk => XS.aload X364.here hx rfl (hb hby own_d_jdk_52_method_16_code_54) rfl rfl kk) ?_
    show OGo p e below (T364.setTop (mkF m 56 #[.val (.ref ca), .val (.int (0 : Int32)), .val (.int (2 : Int32)), .val (.ref ba), .val (.int (1 : Int32)), .val (.ref u)] [(.ref u)])) _
    exact own_ret X364 hx hlk hret rfl (Or.inr (Or.inr (Or.inr (Or.inr ⟨rfl, rfl, rfl⟩)))) (hb hby own_d_jdk_52_method_16_code_56) (by rw [e364]; exact ⟨u, kb, rfl, Nc364, xt360, gu0, Vu⟩) (by decide) (by decide)

set_option maxRecDepth 65536 in
set_option maxHeartbeats 40000000 in
theorem own_codl2 (l : Launch) (Z : State) (a0 : Array Value) (hw : ∀ d ∈ tables_1, d.before a0 Z = true) (ws : List Jvm.Cond) (u : Addr) (kb : ClassId) (vs : List Value) (h0 : Heap) (n0 : Nat) (Z0 : n0 ≤ h0.size) (Vu : Arv Z h0 u kb .byte (4 : Int32) vs (.int (0 : Int32))) :
    OMet l Z (⟨"java/lang/StringUTF16", "coderFromArrayLen", "([BI)B"⟩ : MethodName) jdk_52_method_15_code 2 (some .byte) ws ({ frames := 0, cells := 0, slots := 0, locals := 0 } : Room) #[(.ref u), (.int (2 : Int32))] h0 (fun v h L => v = some (.int (1 : Int32)) ∧ Fr n0 L ∧ h = h0) := by
  refine OMet.body (plainFor_of_name own_pn4) ?_
  intro p e s m below meth c s₁ hx hby hml hown hnm hret hlk hZ X0 e0
  refine OGo.step (fun _ kk => castTop (show entryFrame m #[(.ref u), (.int (2 : Int32))] 2 = (mkF m 0 #[.val (.ref u), .val (.int (2 : Int32))] []) from by first | (simp [entryFrame, mkF, argsToLocals, Value.category]; done) | rfl) kk) ?_
  show OGo p e below (s₁.setTop (mkF m 0 #[.val (.ref u), .val (.int (2 : Int32))] [])) _
  obtain ⟨cu, Au, qu, Su, Mu, Hu, Gu⟩ := id Vu
  refine OGo.step (fun _ kk => XS.iloadN X0.here hx rfl (hb hby own_d_jdk_52_method_15_code_0) rfl kk) ?_
  show OGo p e below (s₁.setTop (mkF m 1 #[.val (.ref u), .val (.int (2 : Int32))] [(.int (2 : Int32))])) _
  refine OGo.step (fun _ kk => XS.aloadN X0.here hx rfl (hb hby own_d_jdk_52_method_15_code_1) rfl rfl kk) ?_
  show OGo p e below (s₁.setTop (mkF m 2 #[.val (.ref u), .val (.int (2 : Int32))] [(.ref u), (.int (2 : Int32))])) _
  refine OGo.step (fun _ kk => X0.arraylength hx (by rw [e0]; exact (Au).1) (State.isArrayOf_alike hZ.alike (Au).2.1) (g := (mkF m 2 #[.val (.ref u), .val (.int (2 : Int32))] [(.ref u), (.int (2 : Int32))])) rfl rfl (hb hby own_d_jdk_52_method_15_code_2) _ kk) ?_
  rw [len_of Su Mu]
  show OGo p e below (s₁.setTop (mkF m 3 #[.val (.ref u), .val (.int (2 : Int32))] [(.int (4 : Int32)), (.int (2 : Int32))])) _
  refine OGo.step (fun _ kk => XS.isub X0.here hx rfl (hb hby own_d_jdk_52_method_15_code_3) rfl kk) ?_
  show OGo p e below (s₁.setTop (mkF m 4 #[.val (.ref u), .val (.int (2 : Int32))] [(.int ((2 : Int32) - (4 : Int32)))])) _
  refine OGo.step (fun _ kk => XS.bipush X0.here hx rfl (hb hby own_d_jdk_52_method_15_code_4) kk) ?_
  show OGo p e below (s₁.setTop (mkF m 6 #[.val (.ref u), .val (.int (2 : Int32))] [(.int (31 : Int32)), (.int ((2 : Int32) - (4 : Int32)))])) _
  refine OGo.step (fun _ kk => XS.iushr X0.here hx rfl (hb hby own_d_jdk_52_method_15_code_6) rfl kk) ?_
  show OGo p e below (s₁.setTop (mkF m 7 #[.val (.ref u), .val (.int (2 : Int32))] [(.int ((((2 : Int32) - (4 : Int32)).toUInt32 >>> ((31 : Int32) &&& 31).toUInt32).toInt32))])) _
  refine OGo.step (fun _ kk => XS.i2b X0.here hx rfl (hb hby own_d_jdk_52_method_15_code_7) rfl kk) ?_
  show OGo p e below (s₁.setTop (mkF m 8 #[.val (.ref u), .val (.int (2 : Int32))] [(.int (((((2 : Int32) - (4 : Int32)).toUInt32 >>> ((31 : Int32) &&& 31).toUInt32).toInt32).toInt8.toInt32))])) _
  exact own_retN X0 hx hlk hret (by simp) (hb hby own_d_jdk_52_method_15_code_8) ⟨rfl, Fr.nil n0, e0⟩ (by decide) (by decide)

theorem own_ex2 {c0_ c1_ : Int32} (hex : (255 : Int32) < c0_ ∨ (255 : Int32) < c1_) : ∃ c ∈ ([c0_, c1_] : List Int32), (255 : Int32) < c := by
  rcases hex with h | h
  · exact ⟨_, List.mem_of_getElem? (i := 0) rfl, h⟩
  · exact ⟨_, List.mem_of_getElem? (i := 1) rfl, h⟩
set_option maxRecDepth 65536 in
set_option maxHeartbeats 40000000 in
theorem own_new4U2 (l : Launch) (Z : State) (a0 : Array Value) (hw : ∀ d ∈ tables_1, d.before a0 Z = true) (ws : List Jvm.Cond) (a ca : Addr) (kc : ClassId) (c0_ c1_ : Int32) (zc : Int32) (h0 : Heap) (n0 : Nat) (Z0 : n0 ≤ h0.size) (SC : Sta Z h0 "java/lang/String" "COMPACT_STRINGS" "Z" (.int zc)) (hzc : ¬ zc = 0) (SA : Sta Z h0 "java/lang/StringUTF16" "$assertionsDisabled" "Z" (.int (1 : Int32))) (SH : Sta Z h0 "java/lang/StringUTF16" "HI_BYTE_SHIFT" "I" (.int (0 : Int32))) (SL : Sta Z h0 "java/lang/StringUTF16" "LO_BYTE_SHIFT" "I" (.int (8 : Int32))) (E1 : Exa Z h0 a "java/lang/String") (Fv : Fld Z h0 a "java/lang/String" "value" "[B" .null) (Fc : Fld Z h0 a "java/lang/String" "coder" "B" (.int (0 : Int32))) (ga : n0 ≤ a) (Vc : Arv Z h0 ca kc .char (2 : Int32) [(.int c0_), (.int c1_)] (.int (0 : Int32))) (hb0 : ¬ c0_ < 0 ∧ ¬ (65535 : Int32) < c0_) (hb1 : ¬ c1_ < 0 ∧ ¬ (65535 : Int32) < c1_) (hex : (255 : Int32) < c0_ ∨ (255 : Int32) < c1_) :
    OMet l Z (⟨"java/lang/String", "<init>", "([CIILjava/lang/Void;)V"⟩ : MethodName) jdk_42_method_149_code 6 none ws ({ frames := 4, cells := 2, slots := 6, locals := 57 } : Room) #[(.ref a), (.ref ca), (.int (0 : Int32)), (.int (2 : Int32)), .null] h0 (fun v h L => v = none ∧ Fr n0 L ∧ Keep h0 h [a] ∧ OStr Z h a [c0_, c1_]) := by
  refine OMet.body (plainFor_of_name own_pn3) ?_
  intro p e s m below meth c s₁ hx hby hml hown hnm hret hlk hZ X0 e0
  refine OGo.step (fun _ kk => castTop (show entryFrame m #[(.ref a), (.ref ca), (.int (0 : Int32)), (.int (2 : Int32)), .null] 6 = (mkF m 0 #[.val (.ref a), .val (.ref ca), .val (.int (0 : Int32)), .val (.int (2 : Int32)), .val .null, .unset] []) from by first | (simp [entryFrame, mkF, argsToLocals, Value.category]; done) | rfl) kk) ?_
  show OGo p e below (s₁.setTop (mkF m 0 #[.val (.ref a), .val (.ref ca), .val (.int (0 : Int32)), .val (.int (2 : Int32)), .val .null, .unset] [])) _
  refine OGo.step (fun _ kk => XS.aloadN X0.here hx rfl (hb hby own_d_jdk_42_method_149_code_0) rfl rfl kk) ?_
  show OGo p e below (s₁.setTop (mkF m 1 #[.val (.ref a), .val (.ref ca), .val (.int (0 : Int32)), .val (.int (2 : Int32)), .val .null, .unset] [(.ref a)])) _
  obtain ⟨T365, X365, e365, st365⟩ := initO X0 hx hZ hown (hw _ (List.mem_of_getElem? (i := 17) rfl)) (hw _ (List.mem_of_getElem? (i := 18) rfl)) (hw _ (List.mem_of_getElem? (i := 19) rfl)) e0 (g := (mkF m 1 #[.val (.ref a), .val (.ref ca), .val (.int (0 : Int32)), .val (.int (2 : Int32)), .val .null, .unset] [(.ref a)])) rfl (by rw [hml]; rfl) rfl (hb hby own_d_jdk_42_method_149_code_1) (by decide) (W := 0) (by show 2 * 0 + _ ≤ _; exact Nat.le_of_eq rfl) (by decide)
  refine OGo.step st365 ?_
  show OGo p e below (T365.setTop (mkF m 4 #[.val (.ref a), .val (.ref ca), .val (.int (0 : Int32)), .val (.int (2 : Int32)), .val .null, .unset] [])) _
  refine OGo.step (fun _ kk => XS.iloadN X365.here hx rfl (hb hby own_d_jdk_42_method_149_code_4) rfl kk) ?_
  show OGo p e below (T365.setTop (mkF m 5 #[.val (.ref a), .val (.ref ca), .val (.int (0 : Int32)), .val (.int (2 : Int32)), .val .null, .unset] [(.int (2 : Int32))])) _
  refine OGo.step (fun _ kk => XS.ifYes X365.here hx rfl (pc0 := 5) (pc' := 27) rfl (hb hby own_d_jdk_42_method_149_code_5) rfl ((if0 _ _).trans (feq (by decide)).2) (by decide) (by decide) kk) ?_
  show OGo p e below (T365.setTop (mkF m 27 #[.val (.ref a), .val (.ref ca), .val (.int (0 : Int32)), .val (.int (2 : Int32)), .val .null, .unset] [])) _
  obtain ⟨T366, X366, e366, st366⟩ := getS2 X365 hx hZ hown (host := "") (Or.inl (hw _ (List.mem_of_getElem? (i := 20) rfl))) Via.refl e365 SC (g := (mkF m 27 #[.val (.ref a), .val (.ref ca), .val (.int (0 : Int32)), .val (.int (2 : Int32)), .val .null, .unset] [])) rfl (hb hby own_d_jdk_42_method_149_code_27)
  refine OGo.step st366 ?_
  show OGo p e below (T366.setTop (mkF m 30 #[.val (.ref a), .val (.ref ca), .val (.int (0 : Int32)), .val (.int (2 : Int32)), .val .null, .unset] [(.int zc)])) _
  refine OGo.step (fun _ kk => XS.ifNo X366.here hx rfl (hb hby own_d_jdk_42_method_149_code_30) rfl ((if0 _ _).trans (feq hzc).1) kk) ?_
  show OGo p e below (T366.setTop (mkF m 33 #[.val (.ref a), .val (.ref ca), .val (.int (0 : Int32)), .val (.int (2 : Int32)), .val .null, .unset] [])) _
  refine OGo.step (fun _ kk => XS.aloadN X366.here hx rfl (hb hby own_d_jdk_42_method_149_code_33) rfl rfl kk) ?_
  show OGo p e below (T366.setTop (mkF m 34 #[.val (.ref a), .val (.ref ca), .val (.int (0 : Int32)), .val (.int (2 : Int32)), .val .null, .unset] [(.ref ca)])) _
  refine OGo.step (fun _ kk => XS.iloadN X366.here hx rfl (hb hby own_d_jdk_42_method_149_code_34) rfl kk) ?_
  show OGo p e below (T366.setTop (mkF m 35 #[.val (.ref a), .val (.ref ca), .val (.int (0 : Int32)), .val (.int (2 : Int32)), .val .null, .unset] [(.int (0 : Int32)), (.ref ca)])) _
  refine OGo.step (fun _ kk => XS.iloadN X366.here hx rfl (hb hby own_d_jdk_42_method_149_code_35) rfl kk) ?_
  show OGo p e below (T366.setTop (mkF m 36 #[.val (.ref a), .val (.ref ca), .val (.int (0 : Int32)), .val (.int (2 : Int32)), .val .null, .unset] [(.int (2 : Int32)), (.int (0 : Int32)), (.ref ca)])) _
  refine own_callS X366 hx hZ (y := (⟨"java/lang/StringUTF16", "compress", "([CII)[B"⟩ : MethodName)) hown (hw _ (List.mem_of_getElem? (i := 21) rfl)) (hw _ (List.mem_of_getElem? (i := 22) rfl)) (hw _ (List.mem_of_getElem? (i := 23) rfl)) (hw _ (List.mem_of_getElem? (i := 24) rfl)) (by decide) (W := 0) (own_cmp3_2 l Z a0 hw [] ca kc c0_ c1_ h0 n0 Z0 SA SH SL Vc hb0 hb1 hex) e366  (pc := 36) (Ls := #[.val (.ref a), .val (.ref ca), .val (.int (0 : Int32)), .val (.int (2 : Int32)), .val .null, .unset]) (argsL := [(.ref ca), (.int (0 : Int32)), (.int (2 : Int32))]) (rest := []) (by rw [hml]; rfl) (lenOf own_pd14 rfl) rfl (hb hby own_d_jdk_42_method_149_code_36) (by decide) (by decide) (by decide) (by decide) ?_
  intro v367 T367 L367 X367 hQ367
  obtain ⟨u, kb, rfl, N367, Xe367, gu, Vu⟩ := hQ367
  show OGo p e below (T367.setTop (mkF m 39 #[.val (.ref a), .val (.ref ca), .val (.int (0 : Int32)), .val (.int (2 : Int32)), .val .null, .unset] [(.ref u)])) _
  have nau : a ≠ u := Nat.ne_of_lt (Nat.lt_of_lt_of_le E1.lt gu)
  have Nc367 := Fr.app (Fr.nil n0) N367
  have sz367 : n0 ≤ T367.heap.size := Nat.le_trans Z0 Xe367.1
  refine OGo.step (fun _ kk => XS.astore X367.here hx rfl (hb hby own_d_jdk_42_method_149_code_39) rfl rfl (l' := #[.val (.ref a), .val (.ref ca), .val (.int (0 : Int32)), .val (.int (2 : Int32)), .val .null, .val (.ref u)]) rfl kk) ?_
  show OGo p e below (T367.setTop (mkF m 41 #[.val (.ref a), .val (.ref ca), .val (.int (0 : Int32)), .val (.int (2 : Int32)), .val .null, .val (.ref u)] [])) _
  refine OGo.step (fun _ kk => XS.aloadN X367.here hx rfl (hb hby own_d_jdk_42_method_149_code_41) rfl rfl kk) ?_
  show OGo p e below (T367.setTop (mkF m 42 #[.val (.ref a), .val (.ref ca), .val (.int (0 : Int32)), .val (.int (2 : Int32)), .val .null, .val (.ref u)] [(.ref a)])) _
  refine OGo.step (fun _ kk => XS.aload X367.here hx rfl (hb hby own_d_jdk_42_method_149_code_42) rfl rfl kk) ?_
  show OGo p e below (T367.setTop (mkF m 44 #[.val (.ref a), .val (.ref ca), .val (.int (0 : Int32)), .val (.int (2 : Int32)), .val .null, .val (.ref u)] [(.ref u), (.ref a)])) _
  refine OGo.step (fun _ kk => XS.iloadN X367.here hx rfl (hb hby own_d_jdk_42_method_149_code_44) rfl kk) ?_
  show OGo p e below (T367.setTop (mkF m 45 #[.val (.ref a), .val (.ref ca), .val (.int (0 : Int32)), .val (.int (2 : Int32)), .val .null, .val (.ref u)] [(.int (2 : Int32)), (.ref u), (.ref a)])) _
  refine own_callS X367 hx hZ (y := (⟨"java/lang/StringUTF16", "coderFromArrayLen", "([BI)B"⟩ : MethodName)) hown (hw _ (List.mem_of_getElem? (i := 29) rfl)) (hw _ (List.mem_of_getElem? (i := 30) rfl)) (hw _ (List.mem_of_getElem? (i := 23) rfl)) (hw _ (List.mem_of_getElem? (i := 31) rfl)) (by decide) (W := 1) (own_codl2 l Z a0 hw [] u kb _ T367.heap n0 sz367 Vu) rfl  (pc := 45) (Ls := #[.val (.ref a), .val (.ref ca), .val (.int (0 : Int32)), .val (.int (2 : Int32)), .val .null, .val (.ref u)]) (argsL := [(.ref u), (.int (2 : Int32))]) (rest := [(.ref a)]) (by rw [hml]; rfl) (lenOf own_pd16 rfl) rfl (hb hby own_d_jdk_42_method_149_code_45) (by decide) (by decide) (by decide) (by decide) ?_
  intro v368 T368 L368 X368 hQ368
  obtain ⟨rfl, N368, e368⟩ := hQ368
  show OGo p e below (T368.setTop (mkF m 48 #[.val (.ref a), .val (.ref ca), .val (.int (0 : Int32)), .val (.int (2 : Int32)), .val .null, .val (.ref u)] [(.int (1 : Int32)), (.ref a)])) _
  have Nc368 := Fr.app Nc367 N368
  have fc369 := (Fc.ext Xe367)
  have fc370 := (E1.ext Xe367)
  obtain ⟨T371, h371, X371, e371, W371, st371⟩ := putFN X368 hx hZ hown (hw _ (List.mem_of_getElem? (i := 32) rfl)) Via.refl e368 fc369 fc370 (Or.inr ⟨(hw _ (List.mem_of_getElem? (i := 33) rfl)), rfl, hnm⟩) (hw _ (List.mem_of_getElem? (i := 7) rfl)) (ty := .byte) (v' := (.int (1 : Int32))) (by decide) rfl rfl (g := (mkF m 48 #[.val (.ref a), .val (.ref ca), .val (.int (0 : Int32)), .val (.int (2 : Int32)), .val .null, .val (.ref u)] [(.int (1 : Int32)), (.ref a)])) rfl rfl (hb hby own_d_jdk_42_method_149_code_48)
  refine OGo.step st371 ?_
  show OGo p e below (T371.setTop (mkF m 51 #[.val (.ref a), .val (.ref ca), .val (.int (0 : Int32)), .val (.int (2 : Int32)), .val .null, .val (.ref u)] [])) _
  have Fw371 := fc369.same W371
  have Nf371 := Fr.snoc X371 Nc368 ga
  have sz371 : n0 ≤ h371.size := by rw [W371.size]; exact sz367
  refine OGo.step (fun _ kk => XS.aloadN X371.here hx rfl (hb hby own_d_jdk_42_method_149_code_51) rfl rfl kk) ?_
  show OGo p e below (T371.setTop (mkF m 52 #[.val (.ref a), .val (.ref ca), .val (.int (0 : Int32)), .val (.int (2 : Int32)), .val .null, .val (.ref u)] [(.ref a)])) _
  refine OGo.step (fun _ kk => XS.aload X371.here hx rfl (hb hby own_d_jdk_42_method_149_code_52) rfl rfl kk) ?_
  show OGo p e below (T371.setTop (mkF m 54 #[.val (.ref a), .val (.ref ca), .val (.int (0 : Int32)), .val (.int (2 : Int32)), .val .null, .val (.ref u)] [(.ref u), (.ref a)])) _
  have fc372 := ((Fv.ext Xe367).other W371 (Or.inr (slot_ne (Or.inr (hw _ (List.mem_of_getElem? (i := 35) rfl))) (Or.inr (hw _ (List.mem_of_getElem? (i := 33) rfl))) (by decide) (t := (.array .byte)) (t' := .byte) (by decide) (by decide))))
  have fc373 := (fc370.wr W371)
  obtain ⟨T374, h374, X374, e374, W374, st374⟩ := putF X371 hx hZ hown (host := "") (Or.inl (hw _ (List.mem_of_getElem? (i := 34) rfl))) Via.refl e371 fc372 fc373 (Or.inr ⟨(hw _ (List.mem_of_getElem? (i := 35) rfl)), rfl, hnm⟩) (hw _ (List.mem_of_getElem? (i := 7) rfl)) (ty := (.array .byte)) (by decide) rfl rfl (g := (mkF m 54 #[.val (.ref a), .val (.ref ca), .val (.int (0 : Int32)), .val (.int (2 : Int32)), .val .null, .val (.ref u)] [(.ref u), (.ref a)])) rfl rfl (hb hby own_d_jdk_42_method_149_code_54)
  refine OGo.step st374 ?_
  show OGo p e below (T374.setTop (mkF m 57 #[.val (.ref a), .val (.ref ca), .val (.int (0 : Int32)), .val (.int (2 : Int32)), .val .null, .val (.ref u)] [])) _
  have Fw374 := fc372.same W374
  have Nf374 := Fr.snoc X374 Nf371 ga
  have sz374 : n0 ≤ h374.size := by rw [W374.size]; exact sz371
  have fc375 := (fc373.wr W374)
  have fc376 := (Fw371.other W374 (Or.inr (slot_ne (Or.inr (hw _ (List.mem_of_getElem? (i := 33) rfl))) (Or.inr (hw _ (List.mem_of_getElem? (i := 35) rfl))) (by decide) (t := .byte) (t' := (.array .byte)) (by decide) (by decide))))
  have fc377 := ((Vu.other W371 (Ne.symm nau)).other W374 (Ne.symm nau))
  have HO : OStr Z h374 a [c0_, c1_] := ⟨u, kb, 1, (4 : Int32), _, fc375, Fw374, fc376, fc377, Or.inr ⟨rfl, rfl, rfl, own_ex2 hex⟩, (own_allS hb0 (own_allS hb1 own_all0)), Nat.le_of_ble_eq_true rfl⟩
  have HK := ((((Keep.refl h0 [a]).ext Xe367).wr W371 (Or.inl (List.mem_of_getElem? (i := 0) rfl))).wr W374 (Or.inl (List.mem_of_getElem? (i := 0) rfl)))
  exact own_ret0 X374 hx hlk hret (hb hby own_d_jdk_42_method_149_code_57) (by rw [e374]; exact ⟨rfl, Nf374, HK, HO⟩) (by decide) (by decide)

set_option maxRecDepth 65536 in
set_option maxHeartbeats 40000000 in
theorem own_new1U2 (l : Launch) (Z : State) (a0 : Array Value) (hw : ∀ d ∈ tables_1, d.before a0 Z = true) (ws : List Jvm.Cond) (a ca : Addr) (kc : ClassId) (c0_ c1_ : Int32) (zc : Int32) (h0 : Heap) (n0 : Nat) (Z0 : n0 ≤ h0.size) (SC : Sta Z h0 "java/lang/String" "COMPACT_STRINGS" "Z" (.int zc)) (hzc : ¬ zc = 0) (SA : Sta Z h0 "java/lang/StringUTF16" "$assertionsDisabled" "Z" (.int (1 : Int32))) (SH : Sta Z h0 "java/lang/StringUTF16" "HI_BYTE_SHIFT" "I" (.int (0 : Int32))) (SL : Sta Z h0 "java/lang/StringUTF16" "LO_BYTE_SHIFT" "I" (.int (8 : Int32))) (E1 : Exa Z h0 a "java/lang/String") (Fv : Fld Z h0 a "java/lang/String" "value" "[B" .null) (Fc : Fld Z h0 a "java/lang/String" "coder" "B" (.int (0 : Int32))) (ga : n0 ≤ a) (Vc : Arv Z h0 ca kc .char (2 : Int32) [(.int c0_), (.int c1_)] (.int (0 : Int32))) (hb0 : ¬ c0_ < 0 ∧ ¬ (65535 : Int32) < c0_) (hb1 : ¬ c1_ < 0 ∧ ¬ (65535 : Int32) < c1_) (hex : (255 : Int32) < c0_ ∨ (255 : Int32) < c1_) :
    OMet l Z (⟨"java/lang/String", "<init>", "([C)V"⟩ : MethodName) jdk_42_method_3_code 2 none ws ({ frames := 5, cells := 2, slots := 6, locals := 74 } : Room) #[(.ref a), (.ref ca)] h0 (fun v h L => v = none ∧ Fr n0 L ∧ Keep h0 h [a] ∧ OStr Z h a [c0_, c1_]) := by
  refine OMet.body (plainFor_of_name own_pn3) ?_
  intro p e s m below meth c s₁ hx hby hml hown hnm hret hlk hZ X0 e0
  refine OGo.step (fun _ kk => castTop (show entryFrame m #[(.ref a), (.ref ca)] 2 = (mkF m 0 #[.val (.ref a), .val (.ref ca)] []) from by first | (simp [entryFrame, mkF, argsToLocals, Value.category]; done) | rfl) kk) ?_
  show OGo p e below (s₁.setTop (mkF m 0 #[.val (.ref a), .val (.ref ca)] [])) _
  obtain ⟨cb, Ab, qb, Sb, Mb, Hb, Gb⟩ := id Vc
  refine OGo.step (fun _ kk => XS.aloadN X0.here hx rfl (hb hby own_d_jdk_42_method_3_code_0) rfl rfl kk) ?_
  show OGo p e below (s₁.setTop (mkF m 1 #[.val (.ref a), .val (.ref ca)] [(.ref a)])) _
  refine OGo.step (fun _ kk => XS.aloadN X0.here hx rfl (hb hby own_d_jdk_42_method_3_code_1) rfl rfl kk) ?_
  show OGo p e below (s₁.setTop (mkF m 2 #[.val (.ref a), .val (.ref ca)] [(.ref ca), (.ref a)])) _
  refine OGo.step (fun _ kk => XS.iconst X0.here hx rfl (hb hby own_d_jdk_42_method_3_code_2) kk) ?_
  show OGo p e below (s₁.setTop (mkF m 3 #[.val (.ref a), .val (.ref ca)] [(.int (0 : Int32)), (.ref ca), (.ref a)])) _
  refine OGo.step (fun _ kk => XS.aloadN X0.here hx rfl (hb hby own_d_jdk_42_method_3_code_3) rfl rfl kk) ?_
  show OGo p e below (s₁.setTop (mkF m 4 #[.val (.ref a), .val (.ref ca)] [(.ref ca), (.int (0 : Int32)), (.ref ca), (.ref a)])) _
  refine OGo.step (fun _ kk => X0.arraylength hx (by rw [e0]; exact (Ab).1) (State.isArrayOf_alike hZ.alike (Ab).2.1) (g := (mkF m 4 #[.val (.ref a), .val (.ref ca)] [(.ref ca), (.int (0 : Int32)), (.ref ca), (.ref a)])) rfl rfl (hb hby own_d_jdk_42_method_3_code_4) _ kk) ?_
  rw [len_of Sb Mb]
  show OGo p e below (s₁.setTop (mkF m 5 #[.val (.ref a), .val (.ref ca)] [(.int (2 : Int32)), (.int (0 : Int32)), (.ref ca), (.ref a)])) _
  refine OGo.step (fun _ kk => XS.aconstNull X0.here hx rfl (hb hby own_d_jdk_42_method_3_code_5) kk) ?_
  show OGo p e below (s₁.setTop (mkF m 6 #[.val (.ref a), .val (.ref ca)] [.null, (.int (2 : Int32)), (.int (0 : Int32)), (.ref ca), (.ref a)])) _
  refine own_special X0 hx hZ (y := (⟨"java/lang/String", "<init>", "([CIILjava/lang/Void;)V"⟩ : MethodName)) rfl hown (hw _ (List.mem_of_getElem? (i := 13) rfl)) (hw _ (List.mem_of_getElem? (i := 14) rfl)) (hw _ (List.mem_of_getElem? (i := 16) rfl)) (hw _ (List.mem_of_getElem? (i := 8) rfl)) (by decide) (a := a) (W := 0) (own_new4U2 l Z a0 hw [] a ca kc c0_ c1_ zc h0 n0 Z0 SC hzc SA SH SL E1 Fv Fc ga Vc hb0 hb1 hex) e0  (pc := 6) (Ls := #[.val (.ref a), .val (.ref ca)]) (argsL := [(.ref ca), (.int (0 : Int32)), (.int (2 : Int32)), .null]) (rest := []) (by rw [hml]; rfl) (lenOf own_pd9 rfl) rfl (hb hby own_d_jdk_42_method_3_code_6) (by decide) (by decide) (by decide) (by decide) ?_
  intro v378 T378 L378 X378 hQ378
  obtain ⟨rfl, N378, K378, O378⟩ := hQ378
  show OGo p e below (T378.setTop (mkF m 9 #[.val (.ref a), .val (.ref ca)] [])) _
  exact own_ret0 X378 hx hlk hret (hb hby own_d_jdk_42_method_3_code_9) ⟨rfl, Fr.app (Fr.nil n0) N378, K378, O378⟩ (by decide) (by decide)

set_option maxRecDepth 65536 in
set_option maxHeartbeats 40000000 in
theorem own_nbl3 (l : Launch) (Z : State) (a0 : Array Value) (hw : ∀ d ∈ tables_1, d.before a0 Z = true) (ws : List Jvm.Cond)  (h0 : Heap) (n0 : Nat) (Z0 : n0 ≤ h0.size)  :
    OMet l Z (⟨"java/lang/StringUTF16", "newBytesLength", "(I)I"⟩ : MethodName) jdk_52_method_3_code 1 (some .int) ws ({ frames := 0, cells := 0, slots := 0, locals := 0 } : Room) #[(.int (3 : Int32))] h0 (fun v h L => v = some (.int (6 : Int32)) ∧ Fr n0 L ∧ h = h0) := by
  refine OMet.body (plainFor_of_name own_pn4) ?_
  intro p e s m below meth c s₁ hx hby hml hown hnm hret hlk hZ X0 e0
  refine OGo.step (fun _ kk => castTop (show entryFrame m #[(.int (3 : Int32))] 1 = (mkF m 0 #[.val (.int (3 : Int32))] []) from by first | (simp [entryFrame, mkF, argsToLocals, Value.category]; done) | rfl) kk) ?_
  show OGo p e below (s₁.setTop (mkF m 0 #[.val (.int (3 : Int32))] [])) _
  refine OGo.step (fun _ kk => XS.iloadN X0.here hx rfl (hb hby own_d_jdk_52_method_3_code_0) rfl kk) ?_
  show OGo p e below (s₁.setTop (mkF m 1 #[.val (.int (3 : Int32))] [(.int (3 : Int32))])) _
  refine OGo.step (fun _ kk => XS.ifYes X0.here hx rfl (pc0 := 1) (pc' := 12) rfl (hb hby own_d_jdk_52_method_3_code_1) rfl ((if0 _ _).trans (flt (by decide)).2.1) (by decide) (by decide) kk) ?_
  show OGo p e below (s₁.setTop (mkF m 12 #[.val (.int (3 : Int32))] [])) _
  refine OGo.step (fun _ kk => XS.iloadN X0.here hx rfl (hb hby own_d_jdk_52_method_3_code_12) rfl kk) ?_
  show OGo p e below (s₁.setTop (mkF m 13 #[.val (.int (3 : Int32))] [(.int (3 : Int32))])) _
  refine OGo.step (fun _ kk => X0.ldcInt hx hown (mvT hZ (hw _ (List.mem_of_getElem? (i := 99) rfl))) (g := (mkF m 13 #[.val (.int (3 : Int32))] [(.int (3 : Int32))])) rfl (hb hby own_d_jdk_52_method_3_code_13) _ kk) ?_
  show OGo p e below (s₁.setTop (mkF m 15 #[.val (.int (3 : Int32))] [(.int (1073741823 : Int32)), (.int (3 : Int32))])) _
  refine OGo.step (fun _ kk => XS.icmpYes X0.here hx rfl (pc0 := 15) (pc' := 55) rfl (hb hby own_d_jdk_52_method_3_code_15) rfl (tlt (by decide)).1 (by decide) (by decide) kk) ?_
  show OGo p e below (s₁.setTop (mkF m 55 #[.val (.int (3 : Int32))] [])) _
  refine OGo.step (fun _ kk => XS.iloadN X0.here hx rfl (hb hby own_d_jdk_52_method_3_code_55) rfl kk) ?_
  show OGo p e below (s₁.setTop (mkF m 56 #[.val (.int (3 : Int32))] [(.int (3 : Int32))])) _
  refine OGo.step (fun _ kk => XS.iconst X0.here hx rfl (hb hby own_d_jdk_52_method_3_code_56) kk) ?_
  show OGo p e below (s₁.setTop (mkF m 57 #[.val (.int (3 : Int32))] [(.int (1 : Int32)), (.int (3 : Int32))])) _
  refine OGo.step (fun _ kk => XS.ishl X0.here hx rfl (hb hby own_d_jdk_52_method_3_code_57) rfl kk) ?_
  show OGo p e below (s₁.setTop (mkF m 58 #[.val (.int (3 : Int32))] [(.int ((3 : Int32) <<< ((1 : Int32) &&& 31)))])) _
  exact own_ret X0 hx hlk hret rfl (Or.inl ⟨rfl, Or.inl rfl, _, rfl⟩) (hb hby own_d_jdk_52_method_3_code_58) ⟨rfl, Fr.nil n0, e0⟩ (by decide) (by decide)

set_option maxRecDepth 65536 in
set_option maxHeartbeats 40000000 in
theorem own_nbf3 (l : Launch) (Z : State) (a0 : Array Value) (hw : ∀ d ∈ tables_1, d.before a0 Z = true) (ws : List Jvm.Cond)  (h0 : Heap) (n0 : Nat) (Z0 : n0 ≤ h0.size)  :
    OMet l Z (⟨"java/lang/StringUTF16", "newBytesFor", "(I)[B"⟩ : MethodName) jdk_52_method_2_code 1 (some (.array .byte)) ws ({ frames := 1, cells := 1, slots := 6, locals := 12 } : Room) #[(.int (3 : Int32))] h0 (fun v h L => ∃ (u : Addr) (kb : ClassId), v = some (.ref u) ∧ Fr n0 L ∧ Ext h0 h ∧ h0.size ≤ u ∧ Arv Z h u kb .byte (6 : Int32) [(.int (0 : Int32)), (.int (0 : Int32)), (.int (0 : Int32)), (.int (0 : Int32)), (.int (0 : Int32)), (.int (0 : Int32))] (.int (0 : Int32))) := by
  refine OMet.body (plainFor_of_name own_pn4) ?_
  intro p e s m below meth c s₁ hx hby hml hown hnm hret hlk hZ X0 e0
  refine OGo.step (fun _ kk => castTop (show entryFrame m #[(.int (3 : Int32))] 1 = (mkF m 0 #[.val (.int (3 : Int32))] []) from by first | (simp [entryFrame, mkF, argsToLocals, Value.category]; done) | rfl) kk) ?_
  show OGo p e below (s₁.setTop (mkF m 0 #[.val (.int (3 : Int32))] [])) _
  refine OGo.step (fun _ kk => XS.iloadN X0.here hx rfl (hb hby own_d_jdk_52_method_2_code_0) rfl kk) ?_
  show OGo p e below (s₁.setTop (mkF m 1 #[.val (.int (3 : Int32))] [(.int (3 : Int32))])) _
  refine own_callS X0 hx hZ (y := (⟨"java/lang/StringUTF16", "newBytesLength", "(I)I"⟩ : MethodName)) hown (hw _ (List.mem_of_getElem? (i := 96) rfl)) (hw _ (List.mem_of_getElem? (i := 97) rfl)) (hw _ (List.mem_of_getElem? (i := 23) rfl)) (hw _ (List.mem_of_getElem? (i := 98) rfl)) (by decide) (W := 0) (own_nbl3 l Z a0 hw [] h0 n0 Z0) e0  (pc := 1) (Ls := #[.val (.int (3 : Int32))]) (argsL := [(.int (3 : Int32))]) (rest := []) (by rw [hml]; rfl) (lenOf own_pd10 rfl) rfl (hb hby own_d_jdk_52_method_2_code_1) (by decide) (by decide) (by decide) (by decide) ?_
  intro v379 T379 L379 X379 hQ379
  obtain ⟨rfl, N379, e379⟩ := hQ379
  show OGo p e below (T379.setTop (mkF m 4 #[.val (.int (3 : Int32))] [(.int (6 : Int32))])) _
  have Nc379 := Fr.app (Fr.nil n0) N379
  obtain ⟨T380, h380, k380, X380, e380, E380, A380, st380⟩ := newP X379 hx hZ (hw _ (List.mem_of_getElem? (i := 25) rfl)) e379 (g := (mkF m 4 #[.val (.int (3 : Int32))] [(.int (6 : Int32))])) rfl (hb hby own_d_jdk_52_method_2_code_4) rfl (by decide) (cap := 6) (by decide) (by decide) (by decide) (by decide)
  obtain ⟨u, g380⟩ : ∃ z, z = h0.size := ⟨_, rfl⟩
  rw [← g380] at A380 st380
  refine OGo.step st380 ?_
  show OGo p e below (T380.setTop (mkF m 6 #[.val (.int (3 : Int32))] [(.ref u)])) _
  have gf_u : n0 ≤ u := Nat.le_trans Z0 (Nat.le_of_eq g380.symm)
  have sz380 : n0 ≤ h380.size := Nat.le_trans Z0 E380.1
  have Va : Arv Z h380 u k380 .byte (6 : Int32) [(.int (0 : Int32)), (.int (0 : Int32)), (.int (0 : Int32)), (.int (0 : Int32)), (.int (0 : Int32)), (.int (0 : Int32))] (.int (0 : Int32)) := (Arv.new A380 (by decide)).pad (pad_rep [] (.int (0 : Int32)) 6)
  exact own_ret X380 hx hlk hret rfl (Or.inr (Or.inr (Or.inr (Or.inr ⟨rfl, rfl, rfl⟩)))) (hb hby own_d_jdk_52_method_2_code_6) (by rw [e380]; exact ⟨u, _, rfl, Nc379, E380, (Nat.le_of_eq g380.symm), Va⟩) (by decide) (by decide)

set_option maxRecDepth 65536 in
set_option maxHeartbeats 40000000 in
theorem own_toB3 (l : Launch) (Z : State) (a0 : Array Value) (hw : ∀ d ∈ tables_1, d.before a0 Z = true) (ws : List Jvm.Cond) (ca : Addr) (kc : ClassId) (c0_ c1_ c2_ : Int32) (h0 : Heap) (n0 : Nat) (Z0 : n0 ≤ h0.size) (SA : Sta Z h0 "java/lang/StringUTF16" "$assertionsDisabled" "Z" (.int (1 : Int32))) (SH : Sta Z h0 "java/lang/StringUTF16" "HI_BYTE_SHIFT" "I" (.int (0 : Int32))) (SL : Sta Z h0 "java/lang/StringUTF16" "LO_BYTE_SHIFT" "I" (.int (8 : Int32))) (Vc : Arv Z h0 ca kc .char (3 : Int32) [(.int c0_), (.int c1_), (.int c2_)] (.int (0 : Int32))) :
    OMet l Z (⟨"java/lang/StringUTF16", "toBytes", "([CII)[B"⟩ : MethodName) jdk_52_method_14_code 5 (some (.array .byte)) ws ({ frames := 2, cells := 1, slots := 6, locals := 24 } : Room) #[(.ref ca), (.int (0 : Int32)), (.int (3 : Int32))] h0 (fun v h L => ∃ (u : Addr) (kb : ClassId), v = some (.ref u) ∧ Fr n0 L ∧ Ext h0 h ∧ h0.size ≤ u ∧ Arv Z h u kb .byte (6 : Int32) (StrChars.Road.wideBytes [c0_, c1_, c2_]) (.int (0 : Int32))) := by
  refine OMet.body (plainFor_of_name own_pn4) ?_
  intro p e s m below meth c s₁ hx hby hml hown hnm hret hlk hZ X0 e0
  refine OGo.step (fun _ kk => castTop (show entryFrame m #[(.ref ca), (.int (0 : Int32)), (.int (3 : Int32))] 5 = (mkF m 0 #[.val (.ref ca), .val (.int (0 : Int32)), .val (.int (3 : Int32)), .unset, .unset] []) from by first | (simp [entryFrame, mkF, argsToLocals, Value.category]; done) | rfl) kk) ?_
  show OGo p e below (s₁.setTop (mkF m 0 #[.val (.ref ca), .val (.int (0 : Int32)), .val (.int (3 : Int32)), .unset, .unset] [])) _
  refine OGo.step (fun _ kk => XS.iloadN X0.here hx rfl (hb hby own_d_jdk_52_method_14_code_0) rfl kk) ?_
  show OGo p e below (s₁.setTop (mkF m 1 #[.val (.ref ca), .val (.int (0 : Int32)), .val (.int (3 : Int32)), .unset, .unset] [(.int (3 : Int32))])) _
  refine own_callS X0 hx hZ (y := (⟨"java/lang/StringUTF16", "newBytesFor", "(I)[B"⟩ : MethodName)) hown (hw _ (List.mem_of_getElem? (i := 93) rfl)) (hw _ (List.mem_of_getElem? (i := 94) rfl)) (hw _ (List.mem_of_getElem? (i := 23) rfl)) (hw _ (List.mem_of_getElem? (i := 95) rfl)) (by decide) (W := 0) (own_nbf3 l Z a0 hw [] h0 n0 Z0) e0  (pc := 1) (Ls := #[.val (.ref ca), .val (.int (0 : Int32)), .val (.int (3 : Int32)), .unset, .unset]) (argsL := [(.int (3 : Int32))]) (rest := []) (by rw [hml]; rfl) (lenOf own_pd11 rfl) rfl (hb hby own_d_jdk_52_method_14_code_1) (by decide) (by decide) (by decide) (by decide) ?_
  intro v381 T381 L381 X381 hQ381
  obtain ⟨u, kb, rfl, N381, Xe381, gu, Vu⟩ := hQ381
  show OGo p e below (T381.setTop (mkF m 4 #[.val (.ref ca), .val (.int (0 : Int32)), .val (.int (3 : Int32)), .unset, .unset] [(.ref u)])) _
  have ncu : ca ≠ u := Nat.ne_of_lt (Nat.lt_of_lt_of_le Vc.lt gu)
  have Nc381 := Fr.app (Fr.nil n0) N381
  have sz381 : n0 ≤ T381.heap.size := Nat.le_trans Z0 Xe381.1
  have gfu : n0 ≤ u := Nat.le_trans Z0 gu
  refine OGo.step (fun _ kk => XS.astoreN X381.here hx rfl (hb hby own_d_jdk_52_method_14_code_4) rfl rfl (l' := #[.val (.ref ca), .val (.int (0 : Int32)), .val (.int (3 : Int32)), .val (.ref u), .unset]) rfl kk) ?_
  show OGo p e below (T381.setTop (mkF m 5 #[.val (.ref ca), .val (.int (0 : Int32)), .val (.int (3 : Int32)), .val (.ref u), .unset] [])) _
  refine OGo.step (fun _ kk => XS.iconst X381.here hx rfl (hb hby own_d_jdk_52_method_14_code_5) kk) ?_
  show OGo p e below (T381.setTop (mkF m 6 #[.val (.ref ca), .val (.int (0 : Int32)), .val (.int (3 : Int32)), .val (.ref u), .unset] [(.int (0 : Int32))])) _
  refine OGo.step (fun _ kk => XS.istore X381.here hx rfl (hb hby own_d_jdk_52_method_14_code_6) rfl (l' := #[.val (.ref ca), .val (.int (0 : Int32)), .val (.int (3 : Int32)), .val (.ref u), .val (.int (0 : Int32))]) rfl kk) ?_
  show OGo p e below (T381.setTop (mkF m 8 #[.val (.ref ca), .val (.int (0 : Int32)), .val (.int (3 : Int32)), .val (.ref u), .val (.int (0 : Int32))] [])) _
  show OGo p e below (T381.setTop (mkF m 8 #[.val (.ref ca), .val (.int (0 : Int32)), .val (.int (3 : Int32)), .val (.ref u), .val (.int (0 : Int32))] [])) _
  refine OGo.step (fun _ kk => XS.iload X381.here hx rfl (hb hby own_d_jdk_52_method_14_code_8) rfl kk) ?_
  show OGo p e below (T381.setTop (mkF m 10 #[.val (.ref ca), .val (.int (0 : Int32)), .val (.int (3 : Int32)), .val (.ref u), .val (.int (0 : Int32))] [(.int (0 : Int32))])) _
  refine OGo.step (fun _ kk => XS.iloadN X381.here hx rfl (hb hby own_d_jdk_52_method_14_code_10) rfl kk) ?_
  show OGo p e below (T381.setTop (mkF m 11 #[.val (.ref ca), .val (.int (0 : Int32)), .val (.int (3 : Int32)), .val (.ref u), .val (.int (0 : Int32))] [(.int (3 : Int32)), (.int (0 : Int32))])) _
  refine OGo.step (fun _ kk => XS.icmpNo X381.here hx rfl (hb hby own_d_jdk_52_method_14_code_11) rfl (tlt (by decide)).2.1 kk) ?_
  show OGo p e below (T381.setTop (mkF m 14 #[.val (.ref ca), .val (.int (0 : Int32)), .val (.int (3 : Int32)), .val (.ref u), .val (.int (0 : Int32))] [])) _
  refine OGo.step (fun _ kk => XS.aloadN X381.here hx rfl (hb hby own_d_jdk_52_method_14_code_14) rfl rfl kk) ?_
  show OGo p e below (T381.setTop (mkF m 15 #[.val (.ref ca), .val (.int (0 : Int32)), .val (.int (3 : Int32)), .val (.ref u), .val (.int (0 : Int32))] [(.ref u)])) _
  refine OGo.step (fun _ kk => XS.iload X381.here hx rfl (hb hby own_d_jdk_52_method_14_code_15) rfl kk) ?_
  show OGo p e below (T381.setTop (mkF m 17 #[.val (.ref ca), .val (.int (0 : Int32)), .val (.int (3 : Int32)), .val (.ref u), .val (.int (0 : Int32))] [(.int (0 : Int32)), (.ref u)])) _
  refine OGo.step (fun _ kk => XS.aloadN X381.here hx rfl (hb hby own_d_jdk_52_method_14_code_17) rfl rfl kk) ?_
  show OGo p e below (T381.setTop (mkF m 18 #[.val (.ref ca), .val (.int (0 : Int32)), .val (.int (3 : Int32)), .val (.ref u), .val (.int (0 : Int32))] [(.ref ca), (.int (0 : Int32)), (.ref u)])) _
  refine OGo.step (fun _ kk => XS.iloadN X381.here hx rfl (hb hby own_d_jdk_52_method_14_code_18) rfl kk) ?_
  show OGo p e below (T381.setTop (mkF m 19 #[.val (.ref ca), .val (.int (0 : Int32)), .val (.int (3 : Int32)), .val (.ref u), .val (.int (0 : Int32))] [(.int (0 : Int32)), (.ref ca), (.int (0 : Int32)), (.ref u)])) _
  have fc382 := (Vc.ext Xe381)
  obtain ⟨cA383, A383, q383, S383, M383, H383, G383⟩ := id fc382
  refine OGo.step (fun _ kk => X381.caload hx (j := (0 : Int32)) (v := (.int c0_)) (A383).1 (State.isArrayOf_alike hZ.alike (A383).2.1) (A383).2.2 (inb_of S383 ⟨by decide, by decide⟩) (H383 0 (by rw [S383]; decide)) (g := (mkF m 19 #[.val (.ref ca), .val (.int (0 : Int32)), .val (.int (3 : Int32)), .val (.ref u), .val (.int (0 : Int32))] [(.int (0 : Int32)), (.ref ca), (.int (0 : Int32)), (.ref u)])) rfl rfl (hb hby own_d_jdk_52_method_14_code_19) _ kk) ?_
  show OGo p e below (T381.setTop (mkF m 20 #[.val (.ref ca), .val (.int (0 : Int32)), .val (.int (3 : Int32)), .val (.ref u), .val (.int (0 : Int32))] [(.int c0_), (.int (0 : Int32)), (.ref u)])) _
  have fx384 := SA.ext Xe381
  have fx385 := SH.ext Xe381
  have fx386 := SL.ext Xe381
  refine own_callS X381 hx hZ (y := (⟨"java/lang/StringUTF16", "putChar", "([BII)V"⟩ : MethodName)) hown (hw _ (List.mem_of_getElem? (i := 100) rfl)) (hw _ (List.mem_of_getElem? (i := 101) rfl)) (hw _ (List.mem_of_getElem? (i := 23) rfl)) (hw _ (List.mem_of_getElem? (i := 102) rfl)) (by decide) (W := 0) (own_putc0 l Z a0 hw [] u kb _ [(.int (0 : Int32)), (.int (0 : Int32)), (.int (0 : Int32)), (.int (0 : Int32)), (.int (0 : Int32)), (.int (0 : Int32))] c0_ T381.heap n0 sz381 fx384 fx385 fx386 gfu Vu (Nat.le_of_ble_eq_true rfl) (by decide) (by decide)) rfl  (pc := 20) (Ls := #[.val (.ref ca), .val (.int (0 : Int32)), .val (.int (3 : Int32)), .val (.ref u), .val (.int (0 : Int32))]) (argsL := [(.ref u), (.int (0 : Int32)), (.int c0_)]) (rest := []) (by rw [hml]; rfl) (lenOf own_pd12 rfl) rfl (hb hby own_d_jdk_52_method_14_code_20) (by decide) (by decide) (by decide) (by decide) ?_
  intro v387 T387 L387 X387 hQ387
  obtain ⟨rfl, N387, K387, Va387⟩ := hQ387
  show OGo p e below (T387.setTop (mkF m 23 #[.val (.ref ca), .val (.int (0 : Int32)), .val (.int (3 : Int32)), .val (.ref u), .val (.int (0 : Int32))] [])) _
  have Nc387 := Fr.app Nc381 N387
  have sz387 : n0 ≤ T387.heap.size := Nat.le_trans sz381 K387.1
  refine OGo.step (fun _ kk => XS.iinc X387.here hx rfl (hb hby own_d_jdk_52_method_14_code_23) rfl (l' := #[.val (.ref ca), .val (.int ((0 : Int32) + (1 : Int32))), .val (.int (3 : Int32)), .val (.ref u), .val (.int (0 : Int32))]) rfl kk) ?_
  show OGo p e below (T387.setTop (mkF m 26 #[.val (.ref ca), .val (.int ((0 : Int32) + (1 : Int32))), .val (.int (3 : Int32)), .val (.ref u), .val (.int (0 : Int32))] [])) _
  refine OGo.step (fun _ kk => XS.iinc X387.here hx rfl (hb hby own_d_jdk_52_method_14_code_26) rfl (l' := #[.val (.ref ca), .val (.int ((0 : Int32) + (1 : Int32))), .val (.int (3 : Int32)), .val (.ref u), .val (.int ((0 : Int32) + (1 : Int32)))]) rfl kk) ?_
  show OGo p e below (T387.setTop (mkF m 29 #[.val (.ref ca), .val (.int ((0 : Int32) + (1 : Int32))), .val (.int (3 : Int32)), .val (.ref u), .val (.int ((0 : Int32) + (1 : Int32)))] [])) _
  refine OGo.step (fun _ kk => XS.goto X387.here hx rfl (pc0 := 29) (pc' := 8) rfl (hb hby own_d_jdk_52_method_14_code_29) (by decide) (by decide) kk) ?_
  show OGo p e below (T387.setTop (mkF m 8 #[.val (.ref ca), .val (.int ((0 : Int32) + (1 : Int32))), .val (.int (3 : Int32)), .val (.ref u), .val (.int ((0 : Int32) + (1 : Int32)))] [])) _
  show OGo p e below (T387.setTop (mkF m 8 #[.val (.ref ca), .val (.int (1 : Int32)), .val (.int (3 : Int32)), .val (.ref u), .val (.int (1 : Int32))] [])) _
  refine OGo.step (fun _ kk => XS.iload X387.here hx rfl (hb hby own_d_jdk_52_method_14_code_8) rfl kk) ?_
  show OGo p e below (T387.setTop (mkF m 10 #[.val (.ref ca), .val (.int (1 : Int32)), .val (.int (3 : Int32)), .val (.ref u), .val (.int (1 : Int32))] [(.int (1 : Int32))])) _
  refine OGo.step (fun _ kk => XS.iloadN X387.here hx rfl (hb hby own_d_jdk_52_method_14_code_10) rfl kk) ?_
  show OGo p e below (T387.setTop (mkF m 11 #[.val (.ref ca), .val (.int (1 : Int32)), .val (.int (3 : Int32)), .val (.ref u), .val (.int (1 : Int32))] [(.int (3 : Int32)), (.int (1 : Int32))])) _
  refine OGo.step (fun _ kk => XS.icmpNo X387.here hx rfl (hb hby own_d_jdk_52_method_14_code_11) rfl (tlt (by decide)).2.1 kk) ?_
  show OGo p e below (T387.setTop (mkF m 14 #[.val (.ref ca), .val (.int (1 : Int32)), .val (.int (3 : Int32)), .val (.ref u), .val (.int (1 : Int32))] [])) _
  refine OGo.step (fun _ kk => XS.aloadN X387.here hx rfl (hb hby own_d_jdk_52_method_14_code_14) rfl rfl kk) ?_
  show OGo p e below (T387.setTop (mkF m 15 #[.val (.ref ca), .val (.int (1 : Int32)), .val (.int (3 : Int32)), .val (.ref u), .val (.int (1 : Int32))] [(.ref u)])) _
  refine OGo.step (fun _ kk => XS.iload X387.here hx rfl (hb hby own_d_jdk_52_method_14_code_15) rfl kk) ?_
  show OGo p e below (T387.setTop (mkF m 17 #[.val (.ref ca), .val (.int (1 : Int32)), .val (.int (3 : Int32)), .val (.ref u), .val (.int (1 : Int32))] [(.int (1 : Int32)), (.ref u)])) _
  refine OGo.step (fun _ kk => XS.aloadN X387.here hx rfl (hb hby own_d_jdk_52_method_14_code_17) rfl rfl kk) ?_
  show OGo p e below (T387.setTop (mkF m 18 #[.val (.ref ca), .val (.int (1 : Int32)), .val (.int (3 : Int32)), .val (.ref u), .val (.int (1 : Int32))] [(.ref ca), (.int (1 : Int32)), (.ref u)])) _
  refine OGo.step (fun _ kk => XS.iloadN X387.here hx rfl (hb hby own_d_jdk_52_method_14_code_18) rfl kk) ?_
  show OGo p e below (T387.setTop (mkF m 19 #[.val (.ref ca), .val (.int (1 : Int32)), .val (.int (3 : Int32)), .val (.ref u), .val (.int (1 : Int32))] [(.int (1 : Int32)), (.ref ca), (.int (1 : Int32)), (.ref u)])) _
  have fc388 := (fc382.keep K387 (ninS ncu nin0))
  obtain ⟨cA389, A389, q389, S389, M389, H389, G389⟩ := id fc388
  refine OGo.step (fun _ kk => X387.caload hx (j := (1 : Int32)) (v := (.int c1_)) (A389).1 (State.isArrayOf_alike hZ.alike (A389).2.1) (A389).2.2 (inb_of S389 ⟨by decide, by decide⟩) (H389 1 (by rw [S389]; decide)) (g := (mkF m 19 #[.val (.ref ca), .val (.int (1 : Int32)), .val (.int (3 : Int32)), .val (.ref u), .val (.int (1 : Int32))] [(.int (1 : Int32)), (.ref ca), (.int (1 : Int32)), (.ref u)])) rfl rfl (hb hby own_d_jdk_52_method_14_code_19) _ kk) ?_
  show OGo p e below (T387.setTop (mkF m 20 #[.val (.ref ca), .val (.int (1 : Int32)), .val (.int (3 : Int32)), .val (.ref u), .val (.int (1 : Int32))] [(.int c1_), (.int (1 : Int32)), (.ref u)])) _
  have xt390 := (own_ext_keep Xe381 K387 (allS gu all0))
  have fx391 := SA.ext xt390
  have fx392 := SH.ext xt390
  have fx393 := SL.ext xt390
  refine own_callS X387 hx hZ (y := (⟨"java/lang/StringUTF16", "putChar", "([BII)V"⟩ : MethodName)) hown (hw _ (List.mem_of_getElem? (i := 100) rfl)) (hw _ (List.mem_of_getElem? (i := 101) rfl)) (hw _ (List.mem_of_getElem? (i := 23) rfl)) (hw _ (List.mem_of_getElem? (i := 102) rfl)) (by decide) (W := 0) (own_putc1 l Z a0 hw [] u kb _ (([(.int (0 : Int32)), (.int (0 : Int32)), (.int (0 : Int32)), (.int (0 : Int32)), (.int (0 : Int32)), (.int (0 : Int32))].set 0 (.int (StrChars.lo8 c0_))).set 1 (.int (StrChars.hi8 c0_))) c1_ T387.heap n0 sz387 fx391 fx392 fx393 gfu Va387 (Nat.le_of_ble_eq_true rfl) (by decide) (by decide)) rfl  (pc := 20) (Ls := #[.val (.ref ca), .val (.int (1 : Int32)), .val (.int (3 : Int32)), .val (.ref u), .val (.int (1 : Int32))]) (argsL := [(.ref u), (.int (1 : Int32)), (.int c1_)]) (rest := []) (by rw [hml]; rfl) (lenOf own_pd12 rfl) rfl (hb hby own_d_jdk_52_method_14_code_20) (by decide) (by decide) (by decide) (by decide) ?_
  intro v394 T394 L394 X394 hQ394
  obtain ⟨rfl, N394, K394, Va394⟩ := hQ394
  show OGo p e below (T394.setTop (mkF m 23 #[.val (.ref ca), .val (.int (1 : Int32)), .val (.int (3 : Int32)), .val (.ref u), .val (.int (1 : Int32))] [])) _
  have Nc394 := Fr.app Nc387 N394
  have sz394 : n0 ≤ T394.heap.size := Nat.le_trans sz387 K394.1
  refine OGo.step (fun _ kk => XS.iinc X394.here hx rfl (hb hby own_d_jdk_52_method_14_code_23) rfl (l' := #[.val (.ref ca), .val (.int ((1 : Int32) + (1 : Int32))), .val (.int (3 : Int32)), .val (.ref u), .val (.int (1 : Int32))]) rfl kk) ?_
  show OGo p e below (T394.setTop (mkF m 26 #[.val (.ref ca), .val (.int ((1 : Int32) + (1 : Int32))), .val (.int (3 : Int32)), .val (.ref u), .val (.int (1 : Int32))] [])) _
  refine OGo.step (fun _ kk => XS.iinc X394.here hx rfl (hb hby own_d_jdk_52_method_14_code_26) rfl (l' := #[.val (.ref ca), .val (.int ((1 : Int32) + (1 : Int32))), .val (.int (3 : Int32)), .val (.ref u), .val (.int ((1 : Int32) + (1 : Int32)))]) rfl kk) ?_
  show OGo p e below (T394.setTop (mkF m 29 #[.val (.ref ca), .val (.int ((1 : Int32) + (1 : Int32))), .val (.int (3 : Int32)), .val (.ref u), .val (.int ((1 : Int32) + (1 : Int32)))] [])) _
  refine OGo.step (fun _ kk => XS.goto X394.here hx rfl (pc0 := 29) (pc' := 8) rfl (hb hby own_d_jdk_52_method_14_code_29) (by decide) (by decide) kk) ?_
  show OGo p e below (T394.setTop (mkF m 8 #[.val (.ref ca), .val (.int ((1 : Int32) + (1 : Int32))), .val (.int (3 : Int32)), .val (.ref u), .val (.int ((1 : Int32) + (1 : Int32)))] [])) _
  show OGo p e below (T394.setTop (mkF m 8 #[.val (.ref ca), .val (.int (2 : Int32)), .val (.int (3 : Int32)), .val (.ref u), .val (.int (2 : Int32))] [])) _
  refine OGo.step (fun _ kk => XS.iload X394.here hx rfl (hb hby own_d_jdk_52_method_14_code_8) rfl kk) ?_
  show OGo p e below (T394.setTop (mkF m 10 #[.val (.ref ca), .val (.int (2 : Int32)), .val (.int (3 : Int32)), .val (.ref u), .val (.int (2 : Int32))] [(.int (2 : Int32))])) _
  refine OGo.step (fun _ kk => XS.iloadN X394.here hx rfl (hb hby own_d_jdk_52_method_14_code_10) rfl kk) ?_
  show OGo p e below (T394.setTop (mkF m 11 #[.val (.ref ca), .val (.int (2 : Int32)), .val (.int (3 : Int32)), .val (.ref u), .val (.int (2 : Int32))] [(.int (3 : Int32)), (.int (2 : Int32))])) _
  refine OGo.step (fun _ kk => XS.icmpNo X394.here hx rfl (hb hby own_d_jdk_52_method_14_code_11) rfl (tlt (by decide)).2.1 kk) ?_
  show OGo p e below (T394.setTop (mkF m 14 #[.val (.ref ca), .val (.int (2 : Int32)), .val (.int (3 : Int32)), .val (.ref u), .val (.int (2 : Int32))] [])) _
  refine OGo.step (fun _ kk => XS.aloadN X394.here hx rfl (hb hby own_d_jdk_52_method_14_code_14) rfl rfl kk) ?_
  show OGo p e below (T394.setTop (mkF m 15 #[.val (.ref ca), .val (.int (2 : Int32)), .val (.int (3 : Int32)), .val (.ref u), .val (.int (2 : Int32))] [(.ref u)])) _
  refine OGo.step (fun _ kk => XS.iload X394.here hx rfl (hb hby own_d_jdk_52_method_14_code_15) rfl kk) ?_
  show OGo p e below (T394.setTop (mkF m 17 #[.val (.ref ca), .val (.int (2 : Int32)), .val (.int (3 : Int32)), .val (.ref u), .val (.int (2 : Int32))] [(.int (2 : Int32)), (.ref u)])) _
  refine OGo.step (fun _ kk => XS.aloadN X394.here hx rfl (hb hby own_d_jdk_52_method_14_code_17) rfl rfl kk) ?_
  show OGo p e below (T394.setTop (mkF m 18 #[.val (.ref ca), .val (.int (2 : Int32)), .val (.int (3 : Int32)), .val (.ref u), .val (.int (2 : Int32))] [(.ref ca), (.int (2 : Int32)), (.ref u)])) _
  refine OGo.step (fun _ kk => XS.iloadN X394.here hx rfl (hb hby own_d_jdk_52_method_14_code_18) rfl kk) ?_
  show OGo p e below (T394.setTop (mkF m 19 #[.val (.ref ca), .val (.int (2 : Int32)), .val (.int (3 : Int32)), .val (.ref u), .val (.int (2 : Int32))] [(.int (2 : Int32)), (.ref ca), (.int (2 : Int32)), (.ref u)])) _
  have fc395 := (fc388.keep K394 (ninS ncu nin0))
  obtain ⟨cA396, A396, q396, S396, M396, H396, G396⟩ := id fc395
  refine OGo.step (fun _ kk => X394.caload hx (j := (2 : Int32)) (v := (.int c2_)) (A396).1 (State.isArrayOf_alike hZ.alike (A396).2.1) (A396).2.2 (inb_of S396 ⟨by decide, by decide⟩) (H396 2 (by rw [S396]; decide)) (g := (mkF m 19 #[.val (.ref ca), .val (.int (2 : Int32)), .val (.int (3 : Int32)), .val (.ref u), .val (.int (2 : Int32))] [(.int (2 : Int32)), (.ref ca), (.int (2 : Int32)), (.ref u)])) rfl rfl (hb hby own_d_jdk_52_method_14_code_19) _ kk) ?_
  show OGo p e below (T394.setTop (mkF m 20 #[.val (.ref ca), .val (.int (2 : Int32)), .val (.int (3 : Int32)), .val (.ref u), .val (.int (2 : Int32))] [(.int c2_), (.int (2 : Int32)), (.ref u)])) _
  have xt397 := (own_ext_keep xt390 K394 (allS gu all0))
  have fx398 := SA.ext xt397
  have fx399 := SH.ext xt397
  have fx400 := SL.ext xt397
  refine own_callS X394 hx hZ (y := (⟨"java/lang/StringUTF16", "putChar", "([BII)V"⟩ : MethodName)) hown (hw _ (List.mem_of_getElem? (i := 100) rfl)) (hw _ (List.mem_of_getElem? (i := 101) rfl)) (hw _ (List.mem_of_getElem? (i := 23) rfl)) (hw _ (List.mem_of_getElem? (i := 102) rfl)) (by decide) (W := 0) (own_putc2 l Z a0 hw [] u kb _ (((([(.int (0 : Int32)), (.int (0 : Int32)), (.int (0 : Int32)), (.int (0 : Int32)), (.int (0 : Int32)), (.int (0 : Int32))].set 0 (.int (StrChars.lo8 c0_))).set 1 (.int (StrChars.hi8 c0_))).set 2 (.int (StrChars.lo8 c1_))).set 3 (.int (StrChars.hi8 c1_))) c2_ T394.heap n0 sz394 fx398 fx399 fx400 gfu Va394 (Nat.le_of_ble_eq_true rfl) (by decide) (by decide)) rfl  (pc := 20) (Ls := #[.val (.ref ca), .val (.int (2 : Int32)), .val (.int (3 : Int32)), .val (.ref u), .val (.int (2 : Int32))]) (argsL := [(.ref u), (.int (2 : Int32)), (.int c2_)]) (rest := []) (by rw [hml]; rfl) (lenOf own_pd12 rfl) rfl (hb hby own_d_jdk_52_method_14_code_20) (by decide) (by decide) (by decide) (by decide) ?_
  intro v401 T401 L401 X401 hQ401
  obtain ⟨rfl, N401, K401, Va401⟩ := hQ401
  show OGo p e below (T401.setTop (mkF m 23 #[.val (.ref ca), .val (.int (2 : Int32)), .val (.int (3 : Int32)), .val (.ref u), .val (.int (2 : Int32))] [])) _
  have Nc401 := Fr.app Nc394 N401
  have sz401 : n0 ≤ T401.heap.size := Nat.le_trans sz394 K401.1
  refine OGo.step (fun _ kk => XS.iinc X401.here hx rfl (hb hby own_d_jdk_52_method_14_code_23) rfl (l' := #[.val (.ref ca), .val (.int ((2 : Int32) + (1 : Int32))), .val (.int (3 : Int32)), .val (.ref u), .val (.int (2 : Int32))]) rfl kk) ?_
  show OGo p e below (T401.setTop (mkF m 26 #[.val (.ref ca), .val (.int ((2 : Int32) + (1 : Int32))), .val (.int (3 : Int32)), .val (.ref u), .val (.int (2 : Int32))] [])) _
  refine OGo.step (fun _ kk => XS.iinc X401.here hx rfl (hb hby own_d_jdk_52_method_14_code_26) rfl (l' := #[.val (.ref ca), .val (.int ((2 : Int32) + (1 : Int32))), .val (.int (3 : Int32)), .val (.ref u), .val (.int ((2 : Int32) + (1 : Int32)))]) rfl kk) ?_
  show OGo p e below (T401.setTop (mkF m 29 #[.val (.ref ca), .val (.int ((2 : Int32) + (1 : Int32))), .val (.int (3 : Int32)), .val (.ref u), .val (.int ((2 : Int32) + (1 : Int32)))] [])) _
  refine OGo.step (fun _ kk => XS.goto X401.here hx rfl (pc0 := 29) (pc' := 8) rfl (hb hby own_d_jdk_52_method_14_code_29) (by decide) (by decide) kk) ?_
  show OGo p e below (T401.setTop (mkF m 8 #[.val (.ref ca), .val (.int ((2 : Int32) + (1 : Int32))), .val (.int (3 : Int32)), .val (.ref u), .val (.int ((2 : Int32) + (1 : Int32)))] [])) _
  show OGo p e below (T401.setTop (mkF m 8 #[.val (.ref ca), .val (.int (3 : Int32)), .val (.int (3 : Int32)), .val (.ref u), .val (.int (3 : Int32))] [])) _
  refine OGo.step (fun _ kk => XS.iload X401.here hx rfl (hb hby own_d_jdk_52_method_14_code_8) rfl kk) ?_
  show OGo p e below (T401.setTop (mkF m 10 #[.val (.ref ca), .val (.int (3 : Int32)), .val (.int (3 : Int32)), .val (.ref u), .val (.int (3 : Int32))] [(.int (3 : Int32))])) _
  refine OGo.step (fun _ kk => XS.iloadN X401.here hx rfl (hb hby own_d_jdk_52_method_14_code_10) rfl kk) ?_
  show OGo p e below (T401.setTop (mkF m 11 #[.val (.ref ca), .val (.int (3 : Int32)), .val (.int (3 : Int32)), .val (.ref u), .val (.int (3 : Int32))] [(.int (3 : Int32)), (.int (3 : Int32))])) _
  refine OGo.step (fun _ kk => XS.icmpYes X401.here hx rfl (pc0 := 11) (pc' := 32) rfl (hb hby own_d_jdk_52_method_14_code_11) rfl (flt (by decide)).2.1 (by decide) (by decide) kk) ?_
  show OGo p e below (T401.setTop (mkF m 32 #[.val (.ref ca), .val (.int (3 : Int32)), .val (.int (3 : Int32)), .val (.ref u), .val (.int (3 : Int32))] [])) _
  refine OGo.step (fun _ kk => XS.aloadN X401.here hx rfl (hb hby own_d_jdk_52_method_14_code_32) rfl rfl kk) ?_
  show OGo p e below (T401.setTop (mkF m 33 #[.val (.ref ca), .val (.int (3 : Int32)), .val (.int (3 : Int32)), .val (.ref u), .val (.int (3 : Int32))] [(.ref u)])) _
  have xt402 := (own_ext_keep xt397 K401 (allS gu all0))
  exact own_ret X401 hx hlk hret rfl (Or.inr (Or.inr (Or.inr (Or.inr ⟨rfl, rfl, rfl⟩)))) (hb hby own_d_jdk_52_method_14_code_33) ⟨u, kb, rfl, Nc401, xt402, gu, Va401⟩ (by decide) (by decide)

set_option maxRecDepth 65536 in
set_option maxHeartbeats 40000000 in
theorem own_cmp5_3 (l : Launch) (Z : State) (a0 : Array Value) (hw : ∀ d ∈ tables_1, d.before a0 Z = true) (ws : List Jvm.Cond) (ca ba : Addr) (kc kb : ClassId) (c0_ c1_ c2_ : Int32) (h0 : Heap) (n0 : Nat) (Z0 : n0 ≤ h0.size) (Vc : Arv Z h0 ca kc .char (3 : Int32) [(.int c0_), (.int c1_), (.int c2_)] (.int (0 : Int32))) (Vb : Arv Z h0 ba kb .byte (3 : Int32) [(.int (0 : Int32)), (.int (0 : Int32)), (.int (0 : Int32))] (.int (0 : Int32))) (gb : n0 ≤ ba) (ncb : ca ≠ ba) (hex : (255 : Int32) < c0_ ∨ (255 : Int32) < c1_ ∨ (255 : Int32) < c2_) :
    OMet l Z (⟨"java/lang/StringUTF16", "compress", "([CI[BII)I"⟩ : MethodName) jdk_52_method_21_code 7 (some .int) ws ({ frames := 0, cells := 0, slots := 0, locals := 0 } : Room) #[(.ref ca), (.int (0 : Int32)), (.ref ba), (.int (0 : Int32)), (.int (3 : Int32))] h0 (fun v h L => ∃ k : Nat, v = some (.int (Int32.ofNat k)) ∧ k < 3 ∧ (255 : Int32) < ([c0_, c1_, c2_] : List Int32).getD k 0 ∧ Fr n0 L ∧ Keep h0 h [ba]) := by
  refine OMet.body (plainFor_of_name own_pn4) ?_
  intro p e s m below meth c s₁ hx hby hml hown hnm hret hlk hZ X0 e0
  refine OGo.step (fun _ kk => castTop (show entryFrame m #[(.ref ca), (.int (0 : Int32)), (.ref ba), (.int (0 : Int32)), (.int (3 : Int32))] 7 = (mkF m 0 #[.val (.ref ca), .val (.int (0 : Int32)), .val (.ref ba), .val (.int (0 : Int32)), .val (.int (3 : Int32)), .unset, .unset] []) from by first | (simp [entryFrame, mkF, argsToLocals, Value.category]; done) | rfl) kk) ?_
  show OGo p e below (s₁.setTop (mkF m 0 #[.val (.ref ca), .val (.int (0 : Int32)), .val (.ref ba), .val (.int (0 : Int32)), .val (.int (3 : Int32)), .unset, .unset] [])) _
  refine OGo.step (fun _ kk => XS.iconst X0.here hx rfl (hb hby own_d_jdk_52_method_21_code_0) kk) ?_
  show OGo p e below (s₁.setTop (mkF m 1 #[.val (.ref ca), .val (.int (0 : Int32)), .val (.ref ba), .val (.int (0 : Int32)), .val (.int (3 : Int32)), .unset, .unset] [(.int (0 : Int32))])) _
  refine OGo.step (fun _ kk => XS.istore X0.here hx rfl (hb hby own_d_jdk_52_method_21_code_1) rfl (l' := #[.val (.ref ca), .val (.int (0 : Int32)), .val (.ref ba), .val (.int (0 : Int32)), .val (.int (3 : Int32)), .val (.int (0 : Int32)), .unset]) rfl kk) ?_
  show OGo p e below (s₁.setTop (mkF m 3 #[.val (.ref ca), .val (.int (0 : Int32)), .val (.ref ba), .val (.int (0 : Int32)), .val (.int (3 : Int32)), .val (.int (0 : Int32)), .unset] [])) _
  refine OGo.step (fun _ kk => XS.iload X0.here hx rfl (hb hby own_d_jdk_52_method_21_code_3) rfl kk) ?_
  show OGo p e below (s₁.setTop (mkF m 5 #[.val (.ref ca), .val (.int (0 : Int32)), .val (.ref ba), .val (.int (0 : Int32)), .val (.int (3 : Int32)), .val (.int (0 : Int32)), .unset] [(.int (0 : Int32))])) _
  refine OGo.step (fun _ kk => XS.iload X0.here hx rfl (hb hby own_d_jdk_52_method_21_code_5) rfl kk) ?_
  show OGo p e below (s₁.setTop (mkF m 7 #[.val (.ref ca), .val (.int (0 : Int32)), .val (.ref ba), .val (.int (0 : Int32)), .val (.int (3 : Int32)), .val (.int (0 : Int32)), .unset] [(.int (3 : Int32)), (.int (0 : Int32))])) _
  refine OGo.step (fun _ kk => XS.icmpNo X0.here hx rfl (hb hby own_d_jdk_52_method_21_code_7) rfl (tlt (by decide)).2.1 kk) ?_
  show OGo p e below (s₁.setTop (mkF m 10 #[.val (.ref ca), .val (.int (0 : Int32)), .val (.ref ba), .val (.int (0 : Int32)), .val (.int (3 : Int32)), .val (.int (0 : Int32)), .unset] [])) _
  refine OGo.step (fun _ kk => XS.aloadN X0.here hx rfl (hb hby own_d_jdk_52_method_21_code_10) rfl rfl kk) ?_
  show OGo p e below (s₁.setTop (mkF m 11 #[.val (.ref ca), .val (.int (0 : Int32)), .val (.ref ba), .val (.int (0 : Int32)), .val (.int (3 : Int32)), .val (.int (0 : Int32)), .unset] [(.ref ca)])) _
  refine OGo.step (fun _ kk => XS.iloadN X0.here hx rfl (hb hby own_d_jdk_52_method_21_code_11) rfl kk) ?_
  show OGo p e below (s₁.setTop (mkF m 12 #[.val (.ref ca), .val (.int (0 : Int32)), .val (.ref ba), .val (.int (0 : Int32)), .val (.int (3 : Int32)), .val (.int (0 : Int32)), .unset] [(.int (0 : Int32)), (.ref ca)])) _
  obtain ⟨cA403, A403, q403, S403, M403, H403, G403⟩ := id Vc
  refine OGo.step (fun _ kk => X0.caload hx (j := (0 : Int32)) (v := (.int c0_)) (by rw [e0]; exact (A403).1) (State.isArrayOf_alike hZ.alike (A403).2.1) (A403).2.2 (inb_of S403 ⟨by decide, by decide⟩) (H403 0 (by rw [S403]; decide)) (g := (mkF m 12 #[.val (.ref ca), .val (.int (0 : Int32)), .val (.ref ba), .val (.int (0 : Int32)), .val (.int (3 : Int32)), .val (.int (0 : Int32)), .unset] [(.int (0 : Int32)), (.ref ca)])) rfl rfl (hb hby own_d_jdk_52_method_21_code_12) _ kk) ?_
  show OGo p e below (s₁.setTop (mkF m 13 #[.val (.ref ca), .val (.int (0 : Int32)), .val (.ref ba), .val (.int (0 : Int32)), .val (.int (3 : Int32)), .val (.int (0 : Int32)), .unset] [(.int c0_)])) _
  refine OGo.step (fun _ kk => XS.istore X0.here hx rfl (hb hby own_d_jdk_52_method_21_code_13) rfl (l' := #[.val (.ref ca), .val (.int (0 : Int32)), .val (.ref ba), .val (.int (0 : Int32)), .val (.int (3 : Int32)), .val (.int (0 : Int32)), .val (.int c0_)]) rfl kk) ?_
  show OGo p e below (s₁.setTop (mkF m 15 #[.val (.ref ca), .val (.int (0 : Int32)), .val (.ref ba), .val (.int (0 : Int32)), .val (.int (3 : Int32)), .val (.int (0 : Int32)), .val (.int c0_)] [])) _
  refine OGo.step (fun _ kk => XS.iload X0.here hx rfl (hb hby own_d_jdk_52_method_21_code_15) rfl kk) ?_
  show OGo p e below (s₁.setTop (mkF m 17 #[.val (.ref ca), .val (.int (0 : Int32)), .val (.ref ba), .val (.int (0 : Int32)), .val (.int (3 : Int32)), .val (.int (0 : Int32)), .val (.int c0_)] [(.int c0_)])) _
  refine OGo.step (fun _ kk => XS.sipush X0.here hx rfl (hb hby own_d_jdk_52_method_21_code_17) kk) ?_
  show OGo p e below (s₁.setTop (mkF m 20 #[.val (.ref ca), .val (.int (0 : Int32)), .val (.ref ba), .val (.int (0 : Int32)), .val (.int (3 : Int32)), .val (.int (0 : Int32)), .val (.int c0_)] [(.int (255 : Int32)), (.int c0_)])) _
  by_cases hq0 : (255 : Int32) < c0_
  · refine OGo.step (fun _ kk => XS.icmpNo X0.here hx rfl (hb hby own_d_jdk_52_method_21_code_20) rfl (tlt hq0).2.2.2 kk) ?_
    show OGo p e below (s₁.setTop (mkF m 23 #[.val (.ref ca), .val (.int (0 : Int32)), .val (.ref ba), .val (.int (0 : Int32)), .val (.int (3 : Int32)), .val (.int (0 : Int32)), .val (.int c0_)] [])) _
    refine OGo.step (fun _ kk => XS.iload X0.here hx rfl (hb hby own_d_jdk_52_method_21_code_23) rfl kk) ?_
    show OGo p e below (s₁.setTop (mkF m 25 #[.val (.ref ca), .val (.int (0 : Int32)), .val (.ref ba), .val (.int (0 : Int32)), .val (.int (3 : Int32)), .val (.int (0 : Int32)), .val (.int c0_)] [(.int (0 : Int32))])) _
    have HK := (Keep.refl h0 [ba])
    exact own_ret X0 hx hlk hret rfl (Or.inl ⟨rfl, Or.inl rfl, _, rfl⟩) (hb hby own_d_jdk_52_method_21_code_25) (by rw [e0]; exact ⟨0, rfl, by decide, hq0, (Fr.nil n0), HK⟩) (by decide) (by decide)
  · skip
    refine OGo.step (fun _ kk => XS.icmpYes X0.here hx rfl (pc0 := 20) (pc' := 26) rfl (hb hby own_d_jdk_52_method_21_code_20) rfl (flt hq0).2.2.2 (by decide) (by decide) kk) ?_
    show OGo p e below (s₁.setTop (mkF m 26 #[.val (.ref ca), .val (.int (0 : Int32)), .val (.ref ba), .val (.int (0 : Int32)), .val (.int (3 : Int32)), .val (.int (0 : Int32)), .val (.int c0_)] [])) _
    refine OGo.step (fun _ kk => XS.aloadN X0.here hx rfl (hb hby own_d_jdk_52_method_21_code_26) rfl rfl kk) ?_
    show OGo p e below (s₁.setTop (mkF m 27 #[.val (.ref ca), .val (.int (0 : Int32)), .val (.ref ba), .val (.int (0 : Int32)), .val (.int (3 : Int32)), .val (.int (0 : Int32)), .val (.int c0_)] [(.ref ba)])) _
    refine OGo.step (fun _ kk => XS.iloadN X0.here hx rfl (hb hby own_d_jdk_52_method_21_code_27) rfl kk) ?_
    show OGo p e below (s₁.setTop (mkF m 28 #[.val (.ref ca), .val (.int (0 : Int32)), .val (.ref ba), .val (.int (0 : Int32)), .val (.int (3 : Int32)), .val (.int (0 : Int32)), .val (.int c0_)] [(.int (0 : Int32)), (.ref ba)])) _
    refine OGo.step (fun _ kk => XS.iload X0.here hx rfl (hb hby own_d_jdk_52_method_21_code_28) rfl kk) ?_
    show OGo p e below (s₁.setTop (mkF m 30 #[.val (.ref ca), .val (.int (0 : Int32)), .val (.ref ba), .val (.int (0 : Int32)), .val (.int (3 : Int32)), .val (.int (0 : Int32)), .val (.int c0_)] [(.int c0_), (.int (0 : Int32)), (.ref ba)])) _
    refine OGo.step (fun _ kk => XS.i2b X0.here hx rfl (hb hby own_d_jdk_52_method_21_code_30) rfl kk) ?_
    show OGo p e below (s₁.setTop (mkF m 31 #[.val (.ref ca), .val (.int (0 : Int32)), .val (.ref ba), .val (.int (0 : Int32)), .val (.int (3 : Int32)), .val (.int (0 : Int32)), .val (.int c0_)] [(.int (c0_.toInt8.toInt32)), (.int (0 : Int32)), (.ref ba)])) _
    obtain ⟨cA404, A404, q404, S404, M404, H404, G404⟩ := id Vb
    obtain ⟨T405, h405, X405, e405, W405, st405⟩ := stB X0 hx hZ e0 A404 (j := (0 : Int32)) (inb_of S404 ⟨by decide, by decide⟩) (g := (mkF m 31 #[.val (.ref ca), .val (.int (0 : Int32)), .val (.ref ba), .val (.int (0 : Int32)), .val (.int (3 : Int32)), .val (.int (0 : Int32)), .val (.int c0_)] [(.int (c0_.toInt8.toInt32)), (.int (0 : Int32)), (.ref ba)])) rfl rfl (hb hby own_d_jdk_52_method_21_code_31)
    refine OGo.step st405 ?_
    show OGo p e below (T405.setTop (mkF m 32 #[.val (.ref ca), .val (.int (0 : Int32)), .val (.ref ba), .val (.int (0 : Int32)), .val (.int (3 : Int32)), .val (.int (0 : Int32)), .val (.int c0_)] [])) _
    have Va404 : Arv Z h405 ba kb .byte (3 : Int32) [(.int (nar .byte (c0_.toInt8.toInt32))), (.int (0 : Int32)), (.int (0 : Int32))] (.int (0 : Int32)) := Arv.set A404 q404 S404 M404 H404 G404 (fits_nar_byte _) W405 0 rfl (Nat.le_of_ble_eq_true rfl)
    have Nf405 := Fr.snoc X405 (Fr.nil n0) gb
    have sz405 : n0 ≤ h405.size := by rw [W405.size]; exact Z0
    refine OGo.step (fun _ kk => XS.iinc X405.here hx rfl (hb hby own_d_jdk_52_method_21_code_32) rfl (l' := #[.val (.ref ca), .val (.int ((0 : Int32) + (1 : Int32))), .val (.ref ba), .val (.int (0 : Int32)), .val (.int (3 : Int32)), .val (.int (0 : Int32)), .val (.int c0_)]) rfl kk) ?_
    show OGo p e below (T405.setTop (mkF m 35 #[.val (.ref ca), .val (.int ((0 : Int32) + (1 : Int32))), .val (.ref ba), .val (.int (0 : Int32)), .val (.int (3 : Int32)), .val (.int (0 : Int32)), .val (.int c0_)] [])) _
    refine OGo.step (fun _ kk => XS.iinc X405.here hx rfl (hb hby own_d_jdk_52_method_21_code_35) rfl (l' := #[.val (.ref ca), .val (.int ((0 : Int32) + (1 : Int32))), .val (.ref ba), .val (.int ((0 : Int32) + (1 : Int32))), .val (.int (3 : Int32)), .val (.int (0 : Int32)), .val (.int c0_)]) rfl kk) ?_
    show OGo p e below (T405.setTop (mkF m 38 #[.val (.ref ca), .val (.int ((0 : Int32) + (1 : Int32))), .val (.ref ba), .val (.int ((0 : Int32) + (1 : Int32))), .val (.int (3 : Int32)), .val (.int (0 : Int32)), .val (.int c0_)] [])) _
    refine OGo.step (fun _ kk => XS.iinc X405.here hx rfl (hb hby own_d_jdk_52_method_21_code_38) rfl (l' := #[.val (.ref ca), .val (.int ((0 : Int32) + (1 : Int32))), .val (.ref ba), .val (.int ((0 : Int32) + (1 : Int32))), .val (.int (3 : Int32)), .val (.int ((0 : Int32) + (1 : Int32))), .val (.int c0_)]) rfl kk) ?_
    show OGo p e below (T405.setTop (mkF m 41 #[.val (.ref ca), .val (.int ((0 : Int32) + (1 : Int32))), .val (.ref ba), .val (.int ((0 : Int32) + (1 : Int32))), .val (.int (3 : Int32)), .val (.int ((0 : Int32) + (1 : Int32))), .val (.int c0_)] [])) _
    refine OGo.step (fun _ kk => XS.goto X405.here hx rfl (pc0 := 41) (pc' := 3) rfl (hb hby own_d_jdk_52_method_21_code_41) (by decide) (by decide) kk) ?_
    show OGo p e below (T405.setTop (mkF m 3 #[.val (.ref ca), .val (.int ((0 : Int32) + (1 : Int32))), .val (.ref ba), .val (.int ((0 : Int32) + (1 : Int32))), .val (.int (3 : Int32)), .val (.int ((0 : Int32) + (1 : Int32))), .val (.int c0_)] [])) _
    show OGo p e below (T405.setTop (mkF m 3 #[.val (.ref ca), .val (.int (1 : Int32)), .val (.ref ba), .val (.int (1 : Int32)), .val (.int (3 : Int32)), .val (.int (1 : Int32)), .val (.int c0_)] [])) _
    refine OGo.step (fun _ kk => XS.iload X405.here hx rfl (hb hby own_d_jdk_52_method_21_code_3) rfl kk) ?_
    show OGo p e below (T405.setTop (mkF m 5 #[.val (.ref ca), .val (.int (1 : Int32)), .val (.ref ba), .val (.int (1 : Int32)), .val (.int (3 : Int32)), .val (.int (1 : Int32)), .val (.int c0_)] [(.int (1 : Int32))])) _
    refine OGo.step (fun _ kk => XS.iload X405.here hx rfl (hb hby own_d_jdk_52_method_21_code_5) rfl kk) ?_
    show OGo p e below (T405.setTop (mkF m 7 #[.val (.ref ca), .val (.int (1 : Int32)), .val (.ref ba), .val (.int (1 : Int32)), .val (.int (3 : Int32)), .val (.int (1 : Int32)), .val (.int c0_)] [(.int (3 : Int32)), (.int (1 : Int32))])) _
    refine OGo.step (fun _ kk => XS.icmpNo X405.here hx rfl (hb hby own_d_jdk_52_method_21_code_7) rfl (tlt (by decide)).2.1 kk) ?_
    show OGo p e below (T405.setTop (mkF m 10 #[.val (.ref ca), .val (.int (1 : Int32)), .val (.ref ba), .val (.int (1 : Int32)), .val (.int (3 : Int32)), .val (.int (1 : Int32)), .val (.int c0_)] [])) _
    refine OGo.step (fun _ kk => XS.aloadN X405.here hx rfl (hb hby own_d_jdk_52_method_21_code_10) rfl rfl kk) ?_
    show OGo p e below (T405.setTop (mkF m 11 #[.val (.ref ca), .val (.int (1 : Int32)), .val (.ref ba), .val (.int (1 : Int32)), .val (.int (3 : Int32)), .val (.int (1 : Int32)), .val (.int c0_)] [(.ref ca)])) _
    refine OGo.step (fun _ kk => XS.iloadN X405.here hx rfl (hb hby own_d_jdk_52_method_21_code_11) rfl kk) ?_
    show OGo p e below (T405.setTop (mkF m 12 #[.val (.ref ca), .val (.int (1 : Int32)), .val (.ref ba), .val (.int (1 : Int32)), .val (.int (3 : Int32)), .val (.int (1 : Int32)), .val (.int c0_)] [(.int (1 : Int32)), (.ref ca)])) _
    have fc406 := (Vc.other W405 ncb)
    obtain ⟨cA407, A407, q407, S407, M407, H407, G407⟩ := id fc406
    refine OGo.step (fun _ kk => X405.caload hx (j := (1 : Int32)) (v := (.int c1_)) (by rw [e405]; exact (A407).1) (State.isArrayOf_alike hZ.alike (A407).2.1) (A407).2.2 (inb_of S407 ⟨by decide, by decide⟩) (H407 1 (by rw [S407]; decide)) (g := (mkF m 12 #[.val (.ref ca), .val (.int (1 : Int32)), .val (.ref ba), .val (.int (1 : Int32)), .val (.int (3 : Int32)), .val (.int (1 : Int32)), .val (.int c0_)] [(.int (1 : Int32)), (.ref ca)])) rfl rfl (hb hby own_d_jdk_52_method_21_code_12) _ kk) ?_
    show OGo p e below (T405.setTop (mkF m 13 #[.val (.ref ca), .val (.int (1 : Int32)), .val (.ref ba), .val (.int (1 : Int32)), .val (.int (3 : Int32)), .val (.int (1 : Int32)), .val (.int c0_)] [(.int c1_)])) _
    refine OGo.step (fun _ kk => XS.istore X405.here hx rfl (hb hby own_d_jdk_52_method_21_code_13) rfl (l' := #[.val (.ref ca), .val (.int (1 : Int32)), .val (.ref ba), .val (.int (1 : Int32)), .val (.int (3 : Int32)), .val (.int (1 : Int32)), .val (.int c1_)]) rfl kk) ?_
    show OGo p e below (T405.setTop (mkF m 15 #[.val (.ref ca), .val (.int (1 : Int32)), .val (.ref ba), .val (.int (1 : Int32)), .val (.int (3 : Int32)), .val (.int (1 : Int32)), .val (.int c1_)] [])) _
    refine OGo.step (fun _ kk => XS.iload X405.here hx rfl (hb hby own_d_jdk_52_method_21_code_15) rfl kk) ?_
    show OGo p e below (T405.setTop (mkF m 17 #[.val (.ref ca), .val (.int (1 : Int32)), .val (.ref ba), .val (.int (1 : Int32)), .val (.int (3 : Int32)), .val (.int (1 : Int32)), .val (.int c1_)] [(.int c1_)])) _
    refine OGo.step (fun _ kk => XS.sipush X405.here hx rfl (hb hby own_d_jdk_52_method_21_code_17) kk) ?_
    show OGo p e below (T405.setTop (mkF m 20 #[.val (.ref ca), .val (.int (1 : Int32)), .val (.ref ba), .val (.int (1 : Int32)), .val (.int (3 : Int32)), .val (.int (1 : Int32)), .val (.int c1_)] [(.int (255 : Int32)), (.int c1_)])) _
    by_cases hq1 : (255 : Int32) < c1_
    · refine OGo.step (fun _ kk => XS.icmpNo X405.here hx rfl (hb hby own_d_jdk_52_method_21_code_20) rfl (tlt hq1).2.2.2 kk) ?_
      show OGo p e below (T405.setTop (mkF m 23 #[.val (.ref ca), .val (.int (1 : Int32)), .val (.ref ba), .val (.int (1 : Int32)), .val (.int (3 : Int32)), .val (.int (1 : Int32)), .val (.int c1_)] [])) _
      refine OGo.step (fun _ kk => XS.iload X405.here hx rfl (hb hby own_d_jdk_52_method_21_code_23) rfl kk) ?_
      show OGo p e below (T405.setTop (mkF m 25 #[.val (.ref ca), .val (.int (1 : Int32)), .val (.ref ba), .val (.int (1 : Int32)), .val (.int (3 : Int32)), .val (.int (1 : Int32)), .val (.int c1_)] [(.int (1 : Int32))])) _
      have HK := ((Keep.refl h0 [ba]).wr W405 (Or.inl (List.mem_of_getElem? (i := 0) rfl)))
      exact own_ret X405 hx hlk hret rfl (Or.inl ⟨rfl, Or.inl rfl, _, rfl⟩) (hb hby own_d_jdk_52_method_21_code_25) (by rw [e405]; exact ⟨1, rfl, by decide, hq1, Nf405, HK⟩) (by decide) (by decide)
    · skip
      refine OGo.step (fun _ kk => XS.icmpYes X405.here hx rfl (pc0 := 20) (pc' := 26) rfl (hb hby own_d_jdk_52_method_21_code_20) rfl (flt hq1).2.2.2 (by decide) (by decide) kk) ?_
      show OGo p e below (T405.setTop (mkF m 26 #[.val (.ref ca), .val (.int (1 : Int32)), .val (.ref ba), .val (.int (1 : Int32)), .val (.int (3 : Int32)), .val (.int (1 : Int32)), .val (.int c1_)] [])) _
      refine OGo.step (fun _ kk => XS.aloadN X405.here hx rfl (hb hby own_d_jdk_52_method_21_code_26) rfl rfl kk) ?_
      show OGo p e below (T405.setTop (mkF m 27 #[.val (.ref ca), .val (.int (1 : Int32)), .val (.ref ba), .val (.int (1 : Int32)), .val (.int (3 : Int32)), .val (.int (1 : Int32)), .val (.int c1_)] [(.ref ba)])) _
      refine OGo.step (fun _ kk => XS.iloadN X405.here hx rfl (hb hby own_d_jdk_52_method_21_code_27) rfl kk) ?_
      show OGo p e below (T405.setTop (mkF m 28 #[.val (.ref ca), .val (.int (1 : Int32)), .val (.ref ba), .val (.int (1 : Int32)), .val (.int (3 : Int32)), .val (.int (1 : Int32)), .val (.int c1_)] [(.int (1 : Int32)), (.ref ba)])) _
      refine OGo.step (fun _ kk => XS.iload X405.here hx rfl (hb hby own_d_jdk_52_method_21_code_28) rfl kk) ?_
      show OGo p e below (T405.setTop (mkF m 30 #[.val (.ref ca), .val (.int (1 : Int32)), .val (.ref ba), .val (.int (1 : Int32)), .val (.int (3 : Int32)), .val (.int (1 : Int32)), .val (.int c1_)] [(.int c1_), (.int (1 : Int32)), (.ref ba)])) _
      refine OGo.step (fun _ kk => XS.i2b X405.here hx rfl (hb hby own_d_jdk_52_method_21_code_30) rfl kk) ?_
      show OGo p e below (T405.setTop (mkF m 31 #[.val (.ref ca), .val (.int (1 : Int32)), .val (.ref ba), .val (.int (1 : Int32)), .val (.int (3 : Int32)), .val (.int (1 : Int32)), .val (.int c1_)] [(.int (c1_.toInt8.toInt32)), (.int (1 : Int32)), (.ref ba)])) _
      obtain ⟨cA408, A408, q408, S408, M408, H408, G408⟩ := id Va404
      obtain ⟨T409, h409, X409, e409, W409, st409⟩ := stB X405 hx hZ e405 A408 (j := (1 : Int32)) (inb_of S408 ⟨by decide, by decide⟩) (g := (mkF m 31 #[.val (.ref ca), .val (.int (1 : Int32)), .val (.ref ba), .val (.int (1 : Int32)), .val (.int (3 : Int32)), .val (.int (1 : Int32)), .val (.int c1_)] [(.int (c1_.toInt8.toInt32)), (.int (1 : Int32)), (.ref ba)])) rfl rfl (hb hby own_d_jdk_52_method_21_code_31)
      refine OGo.step st409 ?_
      show OGo p e below (T409.setTop (mkF m 32 #[.val (.ref ca), .val (.int (1 : Int32)), .val (.ref ba), .val (.int (1 : Int32)), .val (.int (3 : Int32)), .val (.int (1 : Int32)), .val (.int c1_)] [])) _
      have Va408 : Arv Z h409 ba kb .byte (3 : Int32) [(.int (nar .byte (c0_.toInt8.toInt32))), (.int (nar .byte (c1_.toInt8.toInt32))), (.int (0 : Int32))] (.int (0 : Int32)) := Arv.set A408 q408 S408 M408 H408 G408 (fits_nar_byte _) W409 1 rfl (Nat.le_of_ble_eq_true rfl)
      have Nf409 := Fr.snoc X409 Nf405 gb
      have sz409 : n0 ≤ h409.size := by rw [W409.size]; exact sz405
      refine OGo.step (fun _ kk => XS.iinc X409.here hx rfl (hb hby own_d_jdk_52_method_21_code_32) rfl (l' := #[.val (.ref ca), .val (.int ((1 : Int32) + (1 : Int32))), .val (.ref ba), .val (.int (1 : Int32)), .val (.int (3 : Int32)), .val (.int (1 : Int32)), .val (.int c1_)]) rfl kk) ?_
      show OGo p e below (T409.setTop (mkF m 35 #[.val (.ref ca), .val (.int ((1 : Int32) + (1 : Int32))), .val (.ref ba), .val (.int (1 : Int32)), .val (.int (3 : Int32)), .val (.int (1 : Int32)), .val (.int c1_)] [])) _
      refine OGo.step (fun _ kk => XS.iinc X409.here hx rfl (hb hby own_d_jdk_52_method_21_code_35) rfl (l' := #[.val (.ref ca), .val (.int ((1 : Int32) + (1 : Int32))), .val (.ref ba), .val (.int ((1 : Int32) + (1 : Int32))), .val (.int (3 : Int32)), .val (.int (1 : Int32)), .val (.int c1_)]) rfl kk) ?_
      show OGo p e below (T409.setTop (mkF m 38 #[.val (.ref ca), .val (.int ((1 : Int32) + (1 : Int32))), .val (.ref ba), .val (.int ((1 : Int32) + (1 : Int32))), .val (.int (3 : Int32)), .val (.int (1 : Int32)), .val (.int c1_)] [])) _
      refine OGo.step (fun _ kk => XS.iinc X409.here hx rfl (hb hby own_d_jdk_52_method_21_code_38) rfl (l' := #[.val (.ref ca), .val (.int ((1 : Int32) + (1 : Int32))), .val (.ref ba), .val (.int ((1 : Int32) + (1 : Int32))), .val (.int (3 : Int32)), .val (.int ((1 : Int32) + (1 : Int32))), .val (.int c1_)]) rfl kk) ?_
      show OGo p e below (T409.setTop (mkF m 41 #[.val (.ref ca), .val (.int ((1 : Int32) + (1 : Int32))), .val (.ref ba), .val (.int ((1 : Int32) + (1 : Int32))), .val (.int (3 : Int32)), .val (.int ((1 : Int32) + (1 : Int32))), .val (.int c1_)] [])) _
      refine OGo.step (fun _ kk => XS.goto X409.here hx rfl (pc0 := 41) (pc' := 3) rfl (hb hby own_d_jdk_52_method_21_code_41) (by decide) (by decide) kk) ?_
      show OGo p e below (T409.setTop (mkF m 3 #[.val (.ref ca), .val (.int ((1 : Int32) + (1 : Int32))), .val (.ref ba), .val (.int ((1 : Int32) + (1 : Int32))), .val (.int (3 : Int32)), .val (.int ((1 : Int32) + (1 : Int32))), .val (.int c1_)] [])) _
      show OGo p e below (T409.setTop (mkF m 3 #[.val (.ref ca), .val (.int (2 : Int32)), .val (.ref ba), .val (.int (2 : Int32)), .val (.int (3 : Int32)), .val (.int (2 : Int32)), .val (.int c1_)] [])) _
      refine OGo.step (fun _ kk => XS.iload X409.here hx rfl (hb hby own_d_jdk_52_method_21_code_3) rfl kk) ?_
      show OGo p e below (T409.setTop (mkF m 5 #[.val (.ref ca), .val (.int (2 : Int32)), .val (.ref ba), .val (.int (2 : Int32)), .val (.int (3 : Int32)), .val (.int (2 : Int32)), .val (.int c1_)] [(.int (2 : Int32))])) _
      refine OGo.step (fun _ kk => XS.iload X409.here hx rfl (hb hby own_d_jdk_52_method_21_code_5) rfl kk) ?_
      show OGo p e below (T409.setTop (mkF m 7 #[.val (.ref ca), .val (.int (2 : Int32)), .val (.ref ba), .val (.int (2 : Int32)), .val (.int (3 : Int32)), .val (.int (2 : Int32)), .val (.int c1_)] [(.int (3 : Int32)), (.int (2 : Int32))])) _
      refine OGo.step (fun _ kk => XS.icmpNo X409.here hx rfl (hb hby own_d_jdk_52_method_21_code_7) rfl (tlt (by decide)).2.1 kk) ?_
      show OGo p e below (T409.setTop (mkF m 10 #[.val (.ref ca), .val (.int (2 : Int32)), .val (.ref ba), .val (.int (2 : Int32)), .val (.int (3 : Int32)), .val (.int (2 : Int32)), .val (.int c1_)] [])) _
      refine OGo.step (fun _ kk => XS.aloadN X409.here hx rfl (hb hby own_d_jdk_52_method_21_code_10) rfl rfl kk) ?_
      show OGo p e below (T409.setTop (mkF m 11 #[.val (.ref ca), .val (.int (2 : Int32)), .val (.ref ba), .val (.int (2 : Int32)), .val (.int (3 : Int32)), .val (.int (2 : Int32)), .val (.int c1_)] [(.ref ca)])) _
      refine OGo.step (fun _ kk => XS.iloadN X409.here hx rfl (hb hby own_d_jdk_52_method_21_code_11) rfl kk) ?_
      show OGo p e below (T409.setTop (mkF m 12 #[.val (.ref ca), .val (.int (2 : Int32)), .val (.ref ba), .val (.int (2 : Int32)), .val (.int (3 : Int32)), .val (.int (2 : Int32)), .val (.int c1_)] [(.int (2 : Int32)), (.ref ca)])) _
      have fc410 := (fc406.other W409 ncb)
      obtain ⟨cA411, A411, q411, S411, M411, H411, G411⟩ := id fc410
      refine OGo.step (fun _ kk => X409.caload hx (j := (2 : Int32)) (v := (.int c2_)) (by rw [e409]; exact (A411).1) (State.isArrayOf_alike hZ.alike (A411).2.1) (A411).2.2 (inb_of S411 ⟨by decide, by decide⟩) (H411 2 (by rw [S411]; decide)) (g := (mkF m 12 #[.val (.ref ca), .val (.int (2 : Int32)), .val (.ref ba), .val (.int (2 : Int32)), .val (.int (3 : Int32)), .val (.int (2 : Int32)), .val (.int c1_)] [(.int (2 : Int32)), (.ref ca)])) rfl rfl (hb hby own_d_jdk_52_method_21_code_12) _ kk) ?_
      show OGo p e below (T409.setTop (mkF m 13 #[.val (.ref ca), .val (.int (2 : Int32)), .val (.ref ba), .val (.int (2 : Int32)), .val (.int (3 : Int32)), .val (.int (2 : Int32)), .val (.int c1_)] [(.int c2_)])) _
      refine OGo.step (fun _ kk => XS.istore X409.here hx rfl (hb hby own_d_jdk_52_method_21_code_13) rfl (l' := #[.val (.ref ca), .val (.int (2 : Int32)), .val (.ref ba), .val (.int (2 : Int32)), .val (.int (3 : Int32)), .val (.int (2 : Int32)), .val (.int c2_)]) rfl kk) ?_
      show OGo p e below (T409.setTop (mkF m 15 #[.val (.ref ca), .val (.int (2 : Int32)), .val (.ref ba), .val (.int (2 : Int32)), .val (.int (3 : Int32)), .val (.int (2 : Int32)), .val (.int c2_)] [])) _
      refine OGo.step (fun _ kk => XS.iload X409.here hx rfl (hb hby own_d_jdk_52_method_21_code_15) rfl kk) ?_
      show OGo p e below (T409.setTop (mkF m 17 #[.val (.ref ca), .val (.int (2 : Int32)), .val (.ref ba), .val (.int (2 : Int32)), .val (.int (3 : Int32)), .val (.int (2 : Int32)), .val (.int c2_)] [(.int c2_)])) _
      refine OGo.step (fun _ kk => XS.sipush X409.here hx rfl (hb hby own_d_jdk_52_method_21_code_17) kk) ?_
      show OGo p e below (T409.setTop (mkF m 20 #[.val (.ref ca), .val (.int (2 : Int32)), .val (.ref ba), .val (.int (2 : Int32)), .val (.int (3 : Int32)), .val (.int (2 : Int32)), .val (.int c2_)] [(.int (255 : Int32)), (.int c2_)])) _
      by_cases hq2 : (255 : Int32) < c2_
      · refine OGo.step (fun _ kk => XS.icmpNo X409.here hx rfl (hb hby own_d_jdk_52_method_21_code_20) rfl (tlt hq2).2.2.2 kk) ?_
        show OGo p e below (T409.setTop (mkF m 23 #[.val (.ref ca), .val (.int (2 : Int32)), .val (.ref ba), .val (.int (2 : Int32)), .val (.int (3 : Int32)), .val (.int (2 : Int32)), .val (.int c2_)] [])) _
        refine OGo.step (fun _ kk => XS.iload X409.here hx rfl (hb hby own_d_jdk_52_method_21_code_23) rfl kk) ?_
        show OGo p e below (T409.setTop (mkF m 25 #[.val (.ref ca), .val (.int (2 : Int32)), .val (.ref ba), .val (.int (2 : Int32)), .val (.int (3 : Int32)), .val (.int (2 : Int32)), .val (.int c2_)] [(.int (2 : Int32))])) _
        have HK := (((Keep.refl h0 [ba]).wr W405 (Or.inl (List.mem_of_getElem? (i := 0) rfl))).wr W409 (Or.inl (List.mem_of_getElem? (i := 0) rfl)))
        exact own_ret X409 hx hlk hret rfl (Or.inl ⟨rfl, Or.inl rfl, _, rfl⟩) (hb hby own_d_jdk_52_method_21_code_25) (by rw [e409]; exact ⟨2, rfl, by decide, hq2, Nf409, HK⟩) (by decide) (by decide)
      · skip
        refine OGo.step (fun _ kk => XS.icmpYes X409.here hx rfl (pc0 := 20) (pc' := 26) rfl (hb hby own_d_jdk_52_method_21_code_20) rfl (flt hq2).2.2.2 (by decide) (by decide) kk) ?_
        show OGo p e below (T409.setTop (mkF m 26 #[.val (.ref ca), .val (.int (2 : Int32)), .val (.ref ba), .val (.int (2 : Int32)), .val (.int (3 : Int32)), .val (.int (2 : Int32)), .val (.int c2_)] [])) _
        refine OGo.step (fun _ kk => XS.aloadN X409.here hx rfl (hb hby own_d_jdk_52_method_21_code_26) rfl rfl kk) ?_
        show OGo p e below (T409.setTop (mkF m 27 #[.val (.ref ca), .val (.int (2 : Int32)), .val (.ref ba), .val (.int (2 : Int32)), .val (.int (3 : Int32)), .val (.int (2 : Int32)), .val (.int c2_)] [(.ref ba)])) _
        refine OGo.step (fun _ kk => XS.iloadN X409.here hx rfl (hb hby own_d_jdk_52_method_21_code_27) rfl kk) ?_
        show OGo p e below (T409.setTop (mkF m 28 #[.val (.ref ca), .val (.int (2 : Int32)), .val (.ref ba), .val (.int (2 : Int32)), .val (.int (3 : Int32)), .val (.int (2 : Int32)), .val (.int c2_)] [(.int (2 : Int32)), (.ref ba)])) _
        refine OGo.step (fun _ kk => XS.iload X409.here hx rfl (hb hby own_d_jdk_52_method_21_code_28) rfl kk) ?_
        show OGo p e below (T409.setTop (mkF m 30 #[.val (.ref ca), .val (.int (2 : Int32)), .val (.ref ba), .val (.int (2 : Int32)), .val (.int (3 : Int32)), .val (.int (2 : Int32)), .val (.int c2_)] [(.int c2_), (.int (2 : Int32)), (.ref ba)])) _
        refine OGo.step (fun _ kk => XS.i2b X409.here hx rfl (hb hby own_d_jdk_52_method_21_code_30) rfl kk) ?_
        show OGo p e below (T409.setTop (mkF m 31 #[.val (.ref ca), .val (.int (2 : Int32)), .val (.ref ba), .val (.int (2 : Int32)), .val (.int (3 : Int32)), .val (.int (2 : Int32)), .val (.int c2_)] [(.int (c2_.toInt8.toInt32)), (.int (2 : Int32)), (.ref ba)])) _
        obtain ⟨cA412, A412, q412, S412, M412, H412, G412⟩ := id Va408
        obtain ⟨T413, h413, X413, e413, W413, st413⟩ := stB X409 hx hZ e409 A412 (j := (2 : Int32)) (inb_of S412 ⟨by decide, by decide⟩) (g := (mkF m 31 #[.val (.ref ca), .val (.int (2 : Int32)), .val (.ref ba), .val (.int (2 : Int32)), .val (.int (3 : Int32)), .val (.int (2 : Int32)), .val (.int c2_)] [(.int (c2_.toInt8.toInt32)), (.int (2 : Int32)), (.ref ba)])) rfl rfl (hb hby own_d_jdk_52_method_21_code_31)
        refine OGo.step st413 ?_
        show OGo p e below (T413.setTop (mkF m 32 #[.val (.ref ca), .val (.int (2 : Int32)), .val (.ref ba), .val (.int (2 : Int32)), .val (.int (3 : Int32)), .val (.int (2 : Int32)), .val (.int c2_)] [])) _
        have Va412 : Arv Z h413 ba kb .byte (3 : Int32) [(.int (nar .byte (c0_.toInt8.toInt32))), (.int (nar .byte (c1_.toInt8.toInt32))), (.int (nar .byte (c2_.toInt8.toInt32)))] (.int (0 : Int32)) := Arv.set A412 q412 S412 M412 H412 G412 (fits_nar_byte _) W413 2 rfl (Nat.le_of_ble_eq_true rfl)
        have Nf413 := Fr.snoc X413 Nf409 gb
        have sz413 : n0 ≤ h413.size := by rw [W413.size]; exact sz409
        refine OGo.step (fun _ kk => XS.iinc X413.here hx rfl (hb hby own_d_jdk_52_method_21_code_32) rfl (l' := #[.val (.ref ca), .val (.int ((2 : Int32) + (1 : Int32))), .val (.ref ba), .val (.int (2 : Int32)), .val (.int (3 : Int32)), .val (.int (2 : Int32)), .val (.int c2_)]) rfl kk) ?_
        show OGo p e below (T413.setTop (mkF m 35 #[.val (.ref ca), .val (.int ((2 : Int32) + (1 : Int32))), .val (.ref ba), .val (.int (2 : Int32)), .val (.int (3 : Int32)), .val (.int (2 : Int32)), .val (.int c2_)] [])) _
        refine OGo.step (fun _ kk => XS.iinc X413.here hx rfl (hb hby own_d_jdk_52_method_21_code_35) rfl (l' := #[.val (.ref ca), .val (.int ((2 : Int32) + (1 : Int32))), .val (.ref ba), .val (.int ((2 : Int32) + (1 : Int32))), .val (.int (3 : Int32)), .val (.int (2 : Int32)), .val (.int c2_)]) rfl kk) ?_
        show OGo p e below (T413.setTop (mkF m 38 #[.val (.ref ca), .val (.int ((2 : Int32) + (1 : Int32))), .val (.ref ba), .val (.int ((2 : Int32) + (1 : Int32))), .val (.int (3 : Int32)), .val (.int (2 : Int32)), .val (.int c2_)] [])) _
        refine OGo.step (fun _ kk => XS.iinc X413.here hx rfl (hb hby own_d_jdk_52_method_21_code_38) rfl (l' := #[.val (.ref ca), .val (.int ((2 : Int32) + (1 : Int32))), .val (.ref ba), .val (.int ((2 : Int32) + (1 : Int32))), .val (.int (3 : Int32)), .val (.int ((2 : Int32) + (1 : Int32))), .val (.int c2_)]) rfl kk) ?_
        show OGo p e below (T413.setTop (mkF m 41 #[.val (.ref ca), .val (.int ((2 : Int32) + (1 : Int32))), .val (.ref ba), .val (.int ((2 : Int32) + (1 : Int32))), .val (.int (3 : Int32)), .val (.int ((2 : Int32) + (1 : Int32))), .val (.int c2_)] [])) _
        refine OGo.step (fun _ kk => XS.goto X413.here hx rfl (pc0 := 41) (pc' := 3) rfl (hb hby own_d_jdk_52_method_21_code_41) (by decide) (by decide) kk) ?_
        show OGo p e below (T413.setTop (mkF m 3 #[.val (.ref ca), .val (.int ((2 : Int32) + (1 : Int32))), .val (.ref ba), .val (.int ((2 : Int32) + (1 : Int32))), .val (.int (3 : Int32)), .val (.int ((2 : Int32) + (1 : Int32))), .val (.int c2_)] [])) _
        show OGo p e below (T413.setTop (mkF m 3 #[.val (.ref ca), .val (.int (3 : Int32)), .val (.ref ba), .val (.int (3 : Int32)), .val (.int (3 : Int32)), .val (.int (3 : Int32)), .val (.int c2_)] [])) _
        refine OGo.step (fun _ kk => XS.iload X413.here hx rfl (hb hby own_d_jdk_52_method_21_code_3) rfl kk) ?_
        show OGo p e below (T413.setTop (mkF m 5 #[.val (.ref ca), .val (.int (3 : Int32)), .val (.ref ba), .val (.int (3 : Int32)), .val (.int (3 : Int32)), .val (.int (3 : Int32)), .val (.int c2_)] [(.int (3 : Int32))])) _
        refine OGo.step (fun _ kk => XS.iload X413.here hx rfl (hb hby own_d_jdk_52_method_21_code_5) rfl kk) ?_
        show OGo p e below (T413.setTop (mkF m 7 #[.val (.ref ca), .val (.int (3 : Int32)), .val (.ref ba), .val (.int (3 : Int32)), .val (.int (3 : Int32)), .val (.int (3 : Int32)), .val (.int c2_)] [(.int (3 : Int32)), (.int (3 : Int32))])) _
        exact False.elim ((fun z => Or.elim z hq0 (fun z => Or.elim z hq1 hq2)) hex)

theorem own_kne3 : ∀ k : Nat, k < 3 → ¬ Int32.ofNat k = (3 : Int32) := by decide
set_option maxRecDepth 65536 in
set_option maxHeartbeats 40000000 in
theorem own_cmp3_3 (l : Launch) (Z : State) (a0 : Array Value) (hw : ∀ d ∈ tables_1, d.before a0 Z = true) (ws : List Jvm.Cond) (ca : Addr) (kc : ClassId) (c0_ c1_ c2_ : Int32) (h0 : Heap) (n0 : Nat) (Z0 : n0 ≤ h0.size) (SA : Sta Z h0 "java/lang/StringUTF16" "$assertionsDisabled" "Z" (.int (1 : Int32))) (SH : Sta Z h0 "java/lang/StringUTF16" "HI_BYTE_SHIFT" "I" (.int (0 : Int32))) (SL : Sta Z h0 "java/lang/StringUTF16" "LO_BYTE_SHIFT" "I" (.int (8 : Int32))) (Vc : Arv Z h0 ca kc .char (3 : Int32) [(.int c0_), (.int c1_), (.int c2_)] (.int (0 : Int32))) (hb0 : ¬ c0_ < 0 ∧ ¬ (65535 : Int32) < c0_) (hb1 : ¬ c1_ < 0 ∧ ¬ (65535 : Int32) < c1_) (hb2 : ¬ c2_ < 0 ∧ ¬ (65535 : Int32) < c2_) (hex : (255 : Int32) < c0_ ∨ (255 : Int32) < c1_ ∨ (255 : Int32) < c2_) :
    OMet l Z (⟨"java/lang/StringUTF16", "compress", "([CII)[B"⟩ : MethodName) jdk_52_method_16_code 6 (some (.array .byte)) ws ({ frames := 3, cells := 2, slots := 9, locals := 40 } : Room) #[(.ref ca), (.int (0 : Int32)), (.int (3 : Int32))] h0 (fun v h L => ∃ (u : Addr) (kb : ClassId), v = some (.ref u) ∧ Fr n0 L ∧ Ext h0 h ∧ h0.size ≤ u ∧ Arv Z h u kb .byte (6 : Int32) (StrChars.Road.wideBytes [c0_, c1_, c2_]) (.int (0 : Int32))) := by
  refine OMet.body (plainFor_of_name own_pn4) ?_
  intro p e s m below meth c s₁ hx hby hml hown hnm hret hlk hZ X0 e0
  refine OGo.step (fun _ kk => castTop (show entryFrame m #[(.ref ca), (.int (0 : Int32)), (.int (3 : Int32))] 6 = (mkF m 0 #[.val (.ref ca), .val (.int (0 : Int32)), .val (.int (3 : Int32)), .unset, .unset, .unset] []) from by first | (simp [entryFrame, mkF, argsToLocals, Value.category]; done) | rfl) kk) ?_
  show OGo p e below (s₁.setTop (mkF m 0 #[.val (.ref ca), .val (.int (0 : Int32)), .val (.int (3 : Int32)), .unset, .unset, .unset] [])) _
  refine OGo.step (fun _ kk => XS.iloadN X0.here hx rfl (hb hby own_d_jdk_52_method_16_code_0) rfl kk) ?_
  show OGo p e below (s₁.setTop (mkF m 1 #[.val (.ref ca), .val (.int (0 : Int32)), .val (.int (3 : Int32)), .unset, .unset, .unset] [(.int (3 : Int32))])) _
  obtain ⟨T414, h414, k414, X414, e414, E414, A414, st414⟩ := newP X0 hx hZ (hw _ (List.mem_of_getElem? (i := 25) rfl)) e0 (g := (mkF m 1 #[.val (.ref ca), .val (.int (0 : Int32)), .val (.int (3 : Int32)), .unset, .unset, .unset] [(.int (3 : Int32))])) rfl (hb hby own_d_jdk_52_method_16_code_1) rfl (by decide) (cap := 3) (by decide) (by decide) (by decide) (by decide)
  obtain ⟨ba, g414⟩ : ∃ z, z = h0.size := ⟨_, rfl⟩
  rw [← g414] at A414 st414
  refine OGo.step st414 ?_
  show OGo p e below (T414.setTop (mkF m 3 #[.val (.ref ca), .val (.int (0 : Int32)), .val (.int (3 : Int32)), .unset, .unset, .unset] [(.ref ba)])) _
  have ne_ca_ba : ca ≠ ba := Nat.ne_of_lt (Nat.lt_of_lt_of_le Vc.lt (Nat.le_of_eq g414.symm))
  have gf_ba : n0 ≤ ba := Nat.le_trans Z0 (Nat.le_of_eq g414.symm)
  have sz414 : n0 ≤ h414.size := Nat.le_trans Z0 E414.1
  have Va : Arv Z h414 ba k414 .byte (3 : Int32) [(.int (0 : Int32)), (.int (0 : Int32)), (.int (0 : Int32))] (.int (0 : Int32)) := (Arv.new A414 (by decide)).pad (pad_rep [] (.int (0 : Int32)) 3)
  refine OGo.step (fun _ kk => XS.astoreN X414.here hx rfl (hb hby own_d_jdk_52_method_16_code_3) rfl rfl (l' := #[.val (.ref ca), .val (.int (0 : Int32)), .val (.int (3 : Int32)), .val (.ref ba), .unset, .unset]) rfl kk) ?_
  show OGo p e below (T414.setTop (mkF m 4 #[.val (.ref ca), .val (.int (0 : Int32)), .val (.int (3 : Int32)), .val (.ref ba), .unset, .unset] [])) _
  refine OGo.step (fun _ kk => XS.aloadN X414.here hx rfl (hb hby own_d_jdk_52_method_16_code_4) rfl rfl kk) ?_
  show OGo p e below (T414.setTop (mkF m 5 #[.val (.ref ca), .val (.int (0 : Int32)), .val (.int (3 : Int32)), .val (.ref ba), .unset, .unset] [(.ref ca)])) _
  refine OGo.step (fun _ kk => XS.iloadN X414.here hx rfl (hb hby own_d_jdk_52_method_16_code_5) rfl kk) ?_
  show OGo p e below (T414.setTop (mkF m 6 #[.val (.ref ca), .val (.int (0 : Int32)), .val (.int (3 : Int32)), .val (.ref ba), .unset, .unset] [(.int (0 : Int32)), (.ref ca)])) _
  refine OGo.step (fun _ kk => XS.aloadN X414.here hx rfl (hb hby own_d_jdk_52_method_16_code_6) rfl rfl kk) ?_
  show OGo p e below (T414.setTop (mkF m 7 #[.val (.ref ca), .val (.int (0 : Int32)), .val (.int (3 : Int32)), .val (.ref ba), .unset, .unset] [(.ref ba), (.int (0 : Int32)), (.ref ca)])) _
  refine OGo.step (fun _ kk => XS.iconst X414.here hx rfl (hb hby own_d_jdk_52_method_16_code_7) kk) ?_
  show OGo p e below (T414.setTop (mkF m 8 #[.val (.ref ca), .val (.int (0 : Int32)), .val (.int (3 : Int32)), .val (.ref ba), .unset, .unset] [(.int (0 : Int32)), (.ref ba), (.int (0 : Int32)), (.ref ca)])) _
  refine OGo.step (fun _ kk => XS.iloadN X414.here hx rfl (hb hby own_d_jdk_52_method_16_code_8) rfl kk) ?_
  show OGo p e below (T414.setTop (mkF m 9 #[.val (.ref ca), .val (.int (0 : Int32)), .val (.int (3 : Int32)), .val (.ref ba), .unset, .unset] [(.int (3 : Int32)), (.int (0 : Int32)), (.ref ba), (.int (0 : Int32)), (.ref ca)])) _
  have fc415 := (Vc.ext E414)
  refine own_callS X414 hx hZ (y := (⟨"java/lang/StringUTF16", "compress", "([CI[BII)I"⟩ : MethodName)) hown (hw _ (List.mem_of_getElem? (i := 26) rfl)) (hw _ (List.mem_of_getElem? (i := 27) rfl)) (hw _ (List.mem_of_getElem? (i := 23) rfl)) (hw _ (List.mem_of_getElem? (i := 28) rfl)) (by decide) (W := 0) (own_cmp5_3 l Z a0 hw [] ca ba kc _ c0_ c1_ c2_ h414 n0 sz414 fc415 Va gf_ba ne_ca_ba hex) e414  (pc := 9) (Ls := #[.val (.ref ca), .val (.int (0 : Int32)), .val (.int (3 : Int32)), .val (.ref ba), .unset, .unset]) (argsL := [(.ref ca), (.int (0 : Int32)), (.ref ba), (.int (0 : Int32)), (.int (3 : Int32))]) (rest := []) (by rw [hml]; rfl) (lenOf own_pd13 rfl) rfl (hb hby own_d_jdk_52_method_16_code_9) (by decide) (by decide) (by decide) (by decide) ?_
  intro v416 T416 L416 X416 hQ416
  obtain ⟨kq_, rfl, hk, hk2, N416, K416⟩ := hQ416
  show OGo p e below (T416.setTop (mkF m 12 #[.val (.ref ca), .val (.int (0 : Int32)), .val (.int (3 : Int32)), .val (.ref ba), .unset, .unset] [(.int (Int32.ofNat kq_))])) _
  have Nc416 := Fr.app (Fr.nil n0) N416
  have sz416 : n0 ≤ T416.heap.size := Nat.le_trans sz414 K416.1
  refine OGo.step (fun _ kk => XS.istore X416.here hx rfl (hb hby own_d_jdk_52_method_16_code_12) rfl (l' := #[.val (.ref ca), .val (.int (0 : Int32)), .val (.int (3 : Int32)), .val (.ref ba), .val (.int (Int32.ofNat kq_)), .unset]) rfl kk) ?_
  show OGo p e below (T416.setTop (mkF m 14 #[.val (.ref ca), .val (.int (0 : Int32)), .val (.int (3 : Int32)), .val (.ref ba), .val (.int (Int32.ofNat kq_)), .unset] [])) _
  refine OGo.step (fun _ kk => XS.iload X416.here hx rfl (hb hby own_d_jdk_52_method_16_code_14) rfl kk) ?_
  show OGo p e below (T416.setTop (mkF m 16 #[.val (.ref ca), .val (.int (0 : Int32)), .val (.int (3 : Int32)), .val (.ref ba), .val (.int (Int32.ofNat kq_)), .unset] [(.int (Int32.ofNat kq_))])) _
  refine OGo.step (fun _ kk => XS.iloadN X416.here hx rfl (hb hby own_d_jdk_52_method_16_code_16) rfl kk) ?_
  show OGo p e below (T416.setTop (mkF m 17 #[.val (.ref ca), .val (.int (0 : Int32)), .val (.int (3 : Int32)), .val (.ref ba), .val (.int (Int32.ofNat kq_)), .unset] [(.int (3 : Int32)), (.int (Int32.ofNat kq_))])) _
  refine OGo.step (fun _ kk => XS.icmpNo X416.here hx rfl (hb hby own_d_jdk_52_method_16_code_17) rfl (feq (own_kne3 kq_ hk)).1 kk) ?_
  show OGo p e below (T416.setTop (mkF m 20 #[.val (.ref ca), .val (.int (0 : Int32)), .val (.int (3 : Int32)), .val (.ref ba), .val (.int (Int32.ofNat kq_)), .unset] [])) _
  refine OGo.step (fun _ kk => XS.aloadN X416.here hx rfl (hb hby own_d_jdk_52_method_16_code_20) rfl rfl kk) ?_
  show OGo p e below (T416.setTop (mkF m 21 #[.val (.ref ca), .val (.int (0 : Int32)), .val (.int (3 : Int32)), .val (.ref ba), .val (.int (Int32.ofNat kq_)), .unset] [(.ref ca)])) _
  refine OGo.step (fun _ kk => XS.iloadN X416.here hx rfl (hb hby own_d_jdk_52_method_16_code_21) rfl kk) ?_
  show OGo p e below (T416.setTop (mkF m 22 #[.val (.ref ca), .val (.int (0 : Int32)), .val (.int (3 : Int32)), .val (.ref ba), .val (.int (Int32.ofNat kq_)), .unset] [(.int (0 : Int32)), (.ref ca)])) _
  refine OGo.step (fun _ kk => XS.iloadN X416.here hx rfl (hb hby own_d_jdk_52_method_16_code_22) rfl kk) ?_
  show OGo p e below (T416.setTop (mkF m 23 #[.val (.ref ca), .val (.int (0 : Int32)), .val (.int (3 : Int32)), .val (.ref ba), .val (.int (Int32.ofNat kq_)), .unset] [(.int (3 : Int32)), (.int (0 : Int32)), (.ref ca)])) _
  have xt417 := (own_ext_keep E414 K416 (allS (Nat.le_of_eq g414.symm) all0))
  have fx418 := SA.ext xt417
  have fx419 := SH.ext xt417
  have fx420 := SL.ext xt417
  have fc421 := (fc415.keep K416 (ninS ne_ca_ba nin0))
  refine own_callS X416 hx hZ (y := (⟨"java/lang/StringUTF16", "toBytes", "([CII)[B"⟩ : MethodName)) hown (hw _ (List.mem_of_getElem? (i := 90) rfl)) (hw _ (List.mem_of_getElem? (i := 91) rfl)) (hw _ (List.mem_of_getElem? (i := 23) rfl)) (hw _ (List.mem_of_getElem? (i := 92) rfl)) (by decide) (W := 0) (own_toB3 l Z a0 hw [] ca kc c0_ c1_ c2_ T416.heap n0 sz416 fx418 fx419 fx420 fc421) rfl  (pc := 23) (Ls := #[.val (.ref ca), .val (.int (0 : Int32)), .val (.int (3 : Int32)), .val (.ref ba), .val (.int (Int32.ofNat kq_)), .unset]) (argsL := [(.ref ca), (.int (0 : Int32)), (.int (3 : Int32))]) (rest := []) (by rw [hml]; rfl) (lenOf own_pd14 rfl) rfl (hb hby own_d_jdk_52_method_16_code_23) (by decide) (by decide) (by decide) (by decide) ?_
  intro v422 T422 L422 X422 hQ422
  obtain ⟨u, kb, rfl, N422, Xe422, gu422, Vu⟩ := hQ422
  show OGo p e below (T422.setTop (mkF m 26 #[.val (.ref ca), .val (.int (0 : Int32)), .val (.int (3 : Int32)), .val (.ref ba), .val (.int (Int32.ofNat kq_)), .unset] [(.ref u)])) _
  have gu0 := Nat.le_trans (xt417).1 gu422
  have Nc422 := Fr.app Nc416 N422
  have sz422 : n0 ≤ T422.heap.size := Nat.le_trans sz416 Xe422.1
  refine OGo.step (fun _ kk => XS.astore X422.here hx rfl (hb hby own_d_jdk_52_method_16_code_26) rfl rfl (l' := #[.val (.ref ca), .val (.int (0 : Int32)), .val (.int (3 : Int32)), .val (.ref ba), .val (.int (Int32.ofNat kq_)), .val (.ref u)]) rfl kk) ?_
  show OGo p e below (T422.setTop (mkF m 28 #[.val (.ref ca), .val (.int (0 : Int32)), .val (.int (3 : Int32)), .val (.ref ba), .val (.int (Int32.ofNat kq_)), .val (.ref u)] [])) _
  refine OGo.step (fun _ kk => XS.aload X422.here hx rfl (hb hby own_d_jdk_52_method_16_code_28) rfl rfl kk) ?_
  show OGo p e below (T422.setTop (mkF m 30 #[.val (.ref ca), .val (.int (0 : Int32)), .val (.int (3 : Int32)), .val (.ref ba), .val (.int (Int32.ofNat kq_)), .val (.ref u)] [(.ref u)])) _
  refine OGo.step (fun _ kk => XS.iload X422.here hx rfl (hb hby own_d_jdk_52_method_16_code_30) rfl kk) ?_
  show OGo p e below (T422.setTop (mkF m 32 #[.val (.ref ca), .val (.int (0 : Int32)), .val (.int (3 : Int32)), .val (.ref ba), .val (.int (Int32.ofNat kq_)), .val (.ref u)] [(.int (Int32.ofNat kq_)), (.ref u)])) _
  obtain rfl | rfl | rfl : kq_ = 0 ∨ kq_ = 1 ∨ kq_ = 2 := by omega
  · show OGo p e below (T422.setTop (mkF m 32 #[.val (.ref ca), .val (.int (0 : Int32)), .val (.int (3 : Int32)), .val (.ref ba), .val (.int (0 : Int32)), .val (.ref u)] [(.int (0 : Int32)), (.ref u)])) _
    have xt423 := (own_ext_trans xt417 Xe422)
    have fx424 := SA.ext xt423
    have fx425 := SH.ext xt423
    have fx426 := SL.ext xt423
    refine own_callS X422 hx hZ (y := (⟨"java/lang/StringUTF16", "getChar", "([BI)C"⟩ : MethodName)) hown (hw _ (List.mem_of_getElem? (i := 106) rfl)) (hw _ (List.mem_of_getElem? (i := 107) rfl)) (hw _ (List.mem_of_getElem? (i := 23) rfl)) (hw _ (List.mem_of_getElem? (i := 108) rfl)) (by decide) (W := 0) (own_getc0 l Z a0 hw [] u kb _ (StrChars.Road.wideBytes [c0_, c1_, c2_]) (StrChars.lo8 c0_) (StrChars.hi8 c0_) T422.heap n0 sz422 fx424 fx425 fx426 Vu (by decide) (by decide) (by decide) (by decide) rfl rfl) rfl  (pc := 32) (Ls := #[.val (.ref ca), .val (.int (0 : Int32)), .val (.int (3 : Int32)), .val (.ref ba), .val (.int (0 : Int32)), .val (.ref u)]) (argsL := [(.ref u), (.int (0 : Int32))]) (rest := []) (by rw [hml]; rfl) (lenOf own_pd15 rfl) rfl (hb hby own_d_jdk_52_method_16_code_32) (by decide) (by decide) (by decide) (by decide) ?_
    intro v427 T427 L427 X427 hQ427
    obtain ⟨rfl, N427, e427⟩ := hQ427
    show OGo p e below (T427.setTop (mkF m 35 #[.val (.ref ca), .val (.int (0 : Int32)), .val (.int (3 : Int32)), .val (.ref ba), .val (.int (0 : Int32)), .val (.ref u)] [(.int (StrChars.pairCh (StrChars.lo8 c0_) (StrChars.hi8 c0_)))])) _
    have Nc427 := Fr.app Nc422 N427
    rw [StrChars.pair_says hb0.1 hb0.2]
    show OGo p e below (T427.setTop (mkF m 35 #[.val (.ref ca), .val (.int (0 : Int32)), .val (.int (3 : Int32)), .val (.ref ba), .val (.int (0 : Int32)), .val (.ref u)] [(.int c0_)])) _
    refine OGo.step (fun _ kk => XS.sipush X427.here hx rfl (hb hby own_d_jdk_52_method_16_code_35) kk) ?_
    show OGo p e below (T427.setTop (mkF m 38 #[.val (.ref ca), .val (.int (0 : Int32)), .val (.int (3 : Int32)), .val (.ref ba), .val (.int (0 : Int32)), .val (.ref u)] [(.int (255 : Int32)), (.int c0_)])) _
    refine OGo.step (fun _ kk => XS.icmpYes X427.here hx rfl (pc0 := 38) (pc' := 54) rfl (hb hby own_d_jdk_52_method_16_code_38) rfl (tlt hk2).2.2.1 (by decide) (by decide) kk) ?_
    show OGo p e below (T427.setTop (mkF m 54 #[.val (.ref ca), .val (.int (0 : Int32)), .val (.int (3 : Int32)), .val (.ref ba), .val (.int (0 : Int32)), .val (.ref u)] [])) _
    refine OGo.step (fun _ kk => XS.aload X427.here hx rfl (hb hby own_d_jdk_52_method_16_code_54) rfl rfl kk) ?_
    show OGo p e below (T427.setTop (mkF m 56 #[.val (.ref ca), .val (.int (0 : Int32)), .val (.int (3 : Int32)), .val (.ref ba), .val (.int (0 : Int32)), .val (.ref u)] [(.ref u)])) _
    exact own_ret X427 hx hlk hret rfl (Or.inr (Or.inr (Or.inr (Or.inr ⟨rfl, rfl, rfl⟩)))) (hb hby own_d_jdk_52_method_16_code_56) (by rw [e427]; exact ⟨u, kb, rfl, Nc427, xt423, gu0, Vu⟩) (by decide) (by decide)
  · show OGo p e below (T422.setTop (mkF m 32 #[.val (.ref ca), .val (.int (0 : Int32)), .val (.int (3 : Int32)), .val (.ref ba), .val (.int (1 : Int32)), .val (.ref u)] [(.int (1 : Int32)), (.ref u)])) _
    have xt428 := (own_ext_trans xt417 Xe422)
    have fx429 := SA.ext xt428
    have fx430 := SH.ext xt428
    have fx431 := SL.ext xt428
    refine own_callS X422 hx hZ (y := (⟨"java/lang/StringUTF16", "getChar", "([BI)C"⟩ : MethodName)) hown (hw _ (List.mem_of_getElem? (i := 106) rfl)) (hw _ (List.mem_of_getElem? (i := 107) rfl)) (hw _ (List.mem_of_getElem? (i := 23) rfl)) (hw _ (List.mem_of_getElem? (i := 108) rfl)) (by decide) (W := 0) (own_getc1 l Z a0 hw [] u kb _ (StrChars.Road.wideBytes [c0_, c1_, c2_]) (StrChars.lo8 c1_) (StrChars.hi8 c1_) T422.heap n0 sz422 fx429 fx430 fx431 Vu (by decide) (by decide) (by decide) (by decide) rfl rfl) rfl  (pc := 32) (Ls := #[.val (.ref ca), .val (.int (0 : Int32)), .val (.int (3 : Int32)), .val (.ref ba), .val (.int (1 : Int32)), .val (.ref u)]) (argsL := [(.ref u), (.int (1 : Int32))]) (rest := []) (by rw [hml]; rfl) (lenOf own_pd15 rfl) rfl (hb hby own_d_jdk_52_method_16_code_32) (by decide) (by decide) (by decide) (by decide) ?_
    intro v432 T432 L432 X432 hQ432
    obtain ⟨rfl, N432, e432⟩ := hQ432
    show OGo p e below (T432.setTop (mkF m 35 #[.val (.ref ca), .val (.int (0 : Int32)), .val (.int (3 : Int32)), .val (.ref ba), .val (.int (1 : Int32)), .val (.ref u)] [(.int (StrChars.pairCh (StrChars.lo8 c1_) (StrChars.hi8 c1_)))])) _
    have Nc432 := Fr.app Nc422 N432
    rw [StrChars.pair_says hb1.1 hb1.2]
    show OGo p e below (T432.setTop (mkF m 35 #[.val (.ref ca), .val (.int (0 : Int32)), .val (.int (3 : Int32)), .val (.ref ba), .val (.int (1 : Int32)), .val (.ref u)] [(.int c1_)])) _
    refine OGo.step (fun _ kk => XS.sipush X432.here hx rfl (hb hby own_d_jdk_52_method_16_code_35) kk) ?_
    show OGo p e below (T432.setTop (mkF m 38 #[.val (.ref ca), .val (.int (0 : Int32)), .val (.int (3 : Int32)), .val (.ref ba), .val (.int (1 : Int32)), .val (.ref u)] [(.int (255 : Int32)), (.int c1_)])) _
    refine OGo.step (fun _ kk => XS.icmpYes X432.here hx rfl (pc0 := 38) (pc' := 54) rfl (hb hby own_d_jdk_52_method_16_code_38) rfl (tlt hk2).2.2.1 (by decide) (by decide) kk) ?_
    show OGo p e below (T432.setTop (mkF m 54 #[.val (.ref ca), .val (.int (0 : Int32)), .val (.int (3 : Int32)), .val (.ref ba), .val (.int (1 : Int32)), .val (.ref u)] [])) _
    refine OGo.step (fun _ kk => XS.aload X432.here hx rfl (hb hby own_d_jdk_52_method_16_code_54) rfl rfl kk) ?_
    show OGo p e below (T432.setTop (mkF m 56 #[.val (.ref ca), .val (.int (0 : Int32)), .val (.int (3 : Int32)), .val (.ref ba), .val (.int (1 : Int32)), .val (.ref u)] [(.ref u)])) _
    exact own_ret X432 hx hlk hret rfl (Or.inr (Or.inr (Or.inr (Or.inr ⟨rfl, rfl, rfl⟩)))) (hb hby own_d_jdk_52_method_16_code_56) (by rw [e432]; exact ⟨u, kb, rfl, Nc432, xt428, gu0, Vu⟩) (by decide) (by decide)
  · show OGo p e below (T422.setTop (mkF m 32 #[.val (.ref ca), .val (.int (0 : Int32)), .val (.int (3 : Int32)), .val (.ref ba), .val (.int (2 : Int32)), .val (.ref u)] [(.int (2 : Int32)), (.ref u)])) _
    have xt433 := (own_ext_trans xt417 Xe422)
    have fx434 := SA.ext xt433
    have fx435 := SH.ext xt433
    have fx436 := SL.ext xt433
    refine own_callS X422 hx hZ (y := (⟨"java/lang/StringUTF16", "getChar", "([BI)C"⟩ : MethodName)) hown (hw _ (List.mem_of_getElem? (i := 106) rfl)) (hw _ (List.mem_of_getElem? (i := 107) rfl)) (hw _ (List.mem_of_getElem? (i := 23) rfl)) (hw _ (List.mem_of_getElem? (i := 108) rfl)) (by decide) (W := 0) (own_getc2 l Z a0 hw [] u kb _ (StrChars.Road.wideBytes [c0_, c1_, c2_]) (StrChars.lo8 c2_) (StrChars.hi8 c2_) T422.heap n0 sz422 fx434 fx435 fx436 Vu (by decide) (by decide) (by decide) (by decide) rfl rfl) rfl  (pc := 32) (Ls := #[.val (.ref ca), .val (.int (0 : Int32)), .val (.int (3 : Int32)), .val (.ref ba), .val (.int (2 : Int32)), .val (.ref u)]) (argsL := [(.ref u), (.int (2 : Int32))]) (rest := []) (by rw [hml]; rfl) (lenOf own_pd15 rfl) rfl (hb hby own_d_jdk_52_method_16_code_32) (by decide) (by decide) (by decide) (by decide) ?_
    intro v437 T437 L437 X437 hQ437
    obtain ⟨rfl, N437, e437⟩ := hQ437
    show OGo p e below (T437.setTop (mkF m 35 #[.val (.ref ca), .val (.int (0 : Int32)), .val (.int (3 : Int32)), .val (.ref ba), .val (.int (2 : Int32)), .val (.ref u)] [(.int (StrChars.pairCh (StrChars.lo8 c2_) (StrChars.hi8 c2_)))])) _
    have Nc437 := Fr.app Nc422 N437
    rw [StrChars.pair_says hb2.1 hb2.2]
    show OGo p e below (T437.setTop (mkF m 35 #[.val (.ref ca), .val (.int (0 : Int32)), .val (.int (3 : Int32)), .val (.ref ba), .val (.int (2 : Int32)), .val (.ref u)] [(.int c2_)])) _
    refine OGo.step (fun _ kk => XS.sipush X437.here hx rfl (hb hby own_d_jdk_52_method_16_code_35) kk) ?_
    show OGo p e below (T437.setTop (mkF m 38 #[.val (.ref ca), .val (.int (0 : Int32)), .val (.int (3 : Int32)), .val (.ref ba), .val (.int (2 : Int32)), .val (.ref u)] [(.int (255 : Int32)), (.int c2_)])) _
    refine OGo.step (fun _ kk => XS.icmpYes X437.here hx rfl (pc0 := 38) (pc' := 54) rfl (hb hby own_d_jdk_52_method_16_code_38) rfl (tlt hk2).2.2.1 (by decide) (by decide) kk) ?_
    show OGo p e below (T437.setTop (mkF m 54 #[.val (.ref ca), .val (.int (0 : Int32)), .val (.int (3 : Int32)), .val (.ref ba), .val (.int (2 : Int32)), .val (.ref u)] [])) _
    refine OGo.step (fun _ kk => XS.aload X437.here hx rfl (hb hby own_d_jdk_52_method_16_code_54) rfl rfl kk) ?_
    show OGo p e below (T437.setTop (mkF m 56 #[.val (.ref ca), .val (.int (0 : Int32)), .val (.int (3 : Int32)), .val (.ref ba), .val (.int (2 : Int32)), .val (.ref u)] [(.ref u)])) _
    exact own_ret X437 hx hlk hret rfl (Or.inr (Or.inr (Or.inr (Or.inr ⟨rfl, rfl, rfl⟩)))) (hb hby own_d_jdk_52_method_16_code_56) (by rw [e437]; exact ⟨u, kb, rfl, Nc437, xt433, gu0, Vu⟩) (by decide) (by decide)

set_option maxRecDepth 65536 in
set_option maxHeartbeats 40000000 in
theorem own_codl3 (l : Launch) (Z : State) (a0 : Array Value) (hw : ∀ d ∈ tables_1, d.before a0 Z = true) (ws : List Jvm.Cond) (u : Addr) (kb : ClassId) (vs : List Value) (h0 : Heap) (n0 : Nat) (Z0 : n0 ≤ h0.size) (Vu : Arv Z h0 u kb .byte (6 : Int32) vs (.int (0 : Int32))) :
    OMet l Z (⟨"java/lang/StringUTF16", "coderFromArrayLen", "([BI)B"⟩ : MethodName) jdk_52_method_15_code 2 (some .byte) ws ({ frames := 0, cells := 0, slots := 0, locals := 0 } : Room) #[(.ref u), (.int (3 : Int32))] h0 (fun v h L => v = some (.int (1 : Int32)) ∧ Fr n0 L ∧ h = h0) := by
  refine OMet.body (plainFor_of_name own_pn4) ?_
  intro p e s m below meth c s₁ hx hby hml hown hnm hret hlk hZ X0 e0
  refine OGo.step (fun _ kk => castTop (show entryFrame m #[(.ref u), (.int (3 : Int32))] 2 = (mkF m 0 #[.val (.ref u), .val (.int (3 : Int32))] []) from by first | (simp [entryFrame, mkF, argsToLocals, Value.category]; done) | rfl) kk) ?_
  show OGo p e below (s₁.setTop (mkF m 0 #[.val (.ref u), .val (.int (3 : Int32))] [])) _
  obtain ⟨cu, Au, qu, Su, Mu, Hu, Gu⟩ := id Vu
  refine OGo.step (fun _ kk => XS.iloadN X0.here hx rfl (hb hby own_d_jdk_52_method_15_code_0) rfl kk) ?_
  show OGo p e below (s₁.setTop (mkF m 1 #[.val (.ref u), .val (.int (3 : Int32))] [(.int (3 : Int32))])) _
  refine OGo.step (fun _ kk => XS.aloadN X0.here hx rfl (hb hby own_d_jdk_52_method_15_code_1) rfl rfl kk) ?_
  show OGo p e below (s₁.setTop (mkF m 2 #[.val (.ref u), .val (.int (3 : Int32))] [(.ref u), (.int (3 : Int32))])) _
  refine OGo.step (fun _ kk => X0.arraylength hx (by rw [e0]; exact (Au).1) (State.isArrayOf_alike hZ.alike (Au).2.1) (g := (mkF m 2 #[.val (.ref u), .val (.int (3 : Int32))] [(.ref u), (.int (3 : Int32))])) rfl rfl (hb hby own_d_jdk_52_method_15_code_2) _ kk) ?_
  rw [len_of Su Mu]
  show OGo p e below (s₁.setTop (mkF m 3 #[.val (.ref u), .val (.int (3 : Int32))] [(.int (6 : Int32)), (.int (3 : Int32))])) _
  refine OGo.step (fun _ kk => XS.isub X0.here hx rfl (hb hby own_d_jdk_52_method_15_code_3) rfl kk) ?_
  show OGo p e below (s₁.setTop (mkF m 4 #[.val (.ref u), .val (.int (3 : Int32))] [(.int ((3 : Int32) - (6 : Int32)))])) _
  refine OGo.step (fun _ kk => XS.bipush X0.here hx rfl (hb hby own_d_jdk_52_method_15_code_4) kk) ?_
  show OGo p e below (s₁.setTop (mkF m 6 #[.val (.ref u), .val (.int (3 : Int32))] [(.int (31 : Int32)), (.int ((3 : Int32) - (6 : Int32)))])) _
  refine OGo.step (fun _ kk => XS.iushr X0.here hx rfl (hb hby own_d_jdk_52_method_15_code_6) rfl kk) ?_
  show OGo p e below (s₁.setTop (mkF m 7 #[.val (.ref u), .val (.int (3 : Int32))] [(.int ((((3 : Int32) - (6 : Int32)).toUInt32 >>> ((31 : Int32) &&& 31).toUInt32).toInt32))])) _
  refine OGo.step (fun _ kk => XS.i2b X0.here hx rfl (hb hby own_d_jdk_52_method_15_code_7) rfl kk) ?_
  show OGo p e below (s₁.setTop (mkF m 8 #[.val (.ref u), .val (.int (3 : Int32))] [(.int (((((3 : Int32) - (6 : Int32)).toUInt32 >>> ((31 : Int32) &&& 31).toUInt32).toInt32).toInt8.toInt32))])) _
  exact own_retN X0 hx hlk hret (by simp) (hb hby own_d_jdk_52_method_15_code_8) ⟨rfl, Fr.nil n0, e0⟩ (by decide) (by decide)

theorem own_ex3 {c0_ c1_ c2_ : Int32} (hex : (255 : Int32) < c0_ ∨ (255 : Int32) < c1_ ∨ (255 : Int32) < c2_) : ∃ c ∈ ([c0_, c1_, c2_] : List Int32), (255 : Int32) < c := by
  rcases hex with h | h | h
  · exact ⟨_, List.mem_of_getElem? (i := 0) rfl, h⟩
  · exact ⟨_, List.mem_of_getElem? (i := 1) rfl, h⟩
  · exact ⟨_, List.mem_of_getElem? (i := 2) rfl, h⟩
set_option maxRecDepth 65536 in
set_option maxHeartbeats 40000000 in
theorem own_new4U3 (l : Launch) (Z : State) (a0 : Array Value) (hw : ∀ d ∈ tables_1, d.before a0 Z = true) (ws : List Jvm.Cond) (a ca : Addr) (kc : ClassId) (c0_ c1_ c2_ : Int32) (zc : Int32) (h0 : Heap) (n0 : Nat) (Z0 : n0 ≤ h0.size) (SC : Sta Z h0 "java/lang/String" "COMPACT_STRINGS" "Z" (.int zc)) (hzc : ¬ zc = 0) (SA : Sta Z h0 "java/lang/StringUTF16" "$assertionsDisabled" "Z" (.int (1 : Int32))) (SH : Sta Z h0 "java/lang/StringUTF16" "HI_BYTE_SHIFT" "I" (.int (0 : Int32))) (SL : Sta Z h0 "java/lang/StringUTF16" "LO_BYTE_SHIFT" "I" (.int (8 : Int32))) (E1 : Exa Z h0 a "java/lang/String") (Fv : Fld Z h0 a "java/lang/String" "value" "[B" .null) (Fc : Fld Z h0 a "java/lang/String" "coder" "B" (.int (0 : Int32))) (ga : n0 ≤ a) (Vc : Arv Z h0 ca kc .char (3 : Int32) [(.int c0_), (.int c1_), (.int c2_)] (.int (0 : Int32))) (hb0 : ¬ c0_ < 0 ∧ ¬ (65535 : Int32) < c0_) (hb1 : ¬ c1_ < 0 ∧ ¬ (65535 : Int32) < c1_) (hb2 : ¬ c2_ < 0 ∧ ¬ (65535 : Int32) < c2_) (hex : (255 : Int32) < c0_ ∨ (255 : Int32) < c1_ ∨ (255 : Int32) < c2_) :
    OMet l Z (⟨"java/lang/String", "<init>", "([CIILjava/lang/Void;)V"⟩ : MethodName) jdk_42_method_149_code 6 none ws ({ frames := 4, cells := 2, slots := 9, locals := 57 } : Room) #[(.ref a), (.ref ca), (.int (0 : Int32)), (.int (3 : Int32)), .null] h0 (fun v h L => v = none ∧ Fr n0 L ∧ Keep h0 h [a] ∧ OStr Z h a [c0_, c1_, c2_]) := by
  refine OMet.body (plainFor_of_name own_pn3) ?_
  intro p e s m below meth c s₁ hx hby hml hown hnm hret hlk hZ X0 e0
  refine OGo.step (fun _ kk => castTop (show entryFrame m #[(.ref a), (.ref ca), (.int (0 : Int32)), (.int (3 : Int32)), .null] 6 = (mkF m 0 #[.val (.ref a), .val (.ref ca), .val (.int (0 : Int32)), .val (.int (3 : Int32)), .val .null, .unset] []) from by first | (simp [entryFrame, mkF, argsToLocals, Value.category]; done) | rfl) kk) ?_
  show OGo p e below (s₁.setTop (mkF m 0 #[.val (.ref a), .val (.ref ca), .val (.int (0 : Int32)), .val (.int (3 : Int32)), .val .null, .unset] [])) _
  refine OGo.step (fun _ kk => XS.aloadN X0.here hx rfl (hb hby own_d_jdk_42_method_149_code_0) rfl rfl kk) ?_
  show OGo p e below (s₁.setTop (mkF m 1 #[.val (.ref a), .val (.ref ca), .val (.int (0 : Int32)), .val (.int (3 : Int32)), .val .null, .unset] [(.ref a)])) _
  obtain ⟨T438, X438, e438, st438⟩ := initO X0 hx hZ hown (hw _ (List.mem_of_getElem? (i := 17) rfl)) (hw _ (List.mem_of_getElem? (i := 18) rfl)) (hw _ (List.mem_of_getElem? (i := 19) rfl)) e0 (g := (mkF m 1 #[.val (.ref a), .val (.ref ca), .val (.int (0 : Int32)), .val (.int (3 : Int32)), .val .null, .unset] [(.ref a)])) rfl (by rw [hml]; rfl) rfl (hb hby own_d_jdk_42_method_149_code_1) (by decide) (W := 0) (by show 2 * 0 + _ ≤ _; exact Nat.le_of_eq rfl) (by decide)
  refine OGo.step st438 ?_
  show OGo p e below (T438.setTop (mkF m 4 #[.val (.ref a), .val (.ref ca), .val (.int (0 : Int32)), .val (.int (3 : Int32)), .val .null, .unset] [])) _
  refine OGo.step (fun _ kk => XS.iloadN X438.here hx rfl (hb hby own_d_jdk_42_method_149_code_4) rfl kk) ?_
  show OGo p e below (T438.setTop (mkF m 5 #[.val (.ref a), .val (.ref ca), .val (.int (0 : Int32)), .val (.int (3 : Int32)), .val .null, .unset] [(.int (3 : Int32))])) _
  refine OGo.step (fun _ kk => XS.ifYes X438.here hx rfl (pc0 := 5) (pc' := 27) rfl (hb hby own_d_jdk_42_method_149_code_5) rfl ((if0 _ _).trans (feq (by decide)).2) (by decide) (by decide) kk) ?_
  show OGo p e below (T438.setTop (mkF m 27 #[.val (.ref a), .val (.ref ca), .val (.int (0 : Int32)), .val (.int (3 : Int32)), .val .null, .unset] [])) _
  obtain ⟨T439, X439, e439, st439⟩ := getS2 X438 hx hZ hown (host := "") (Or.inl (hw _ (List.mem_of_getElem? (i := 20) rfl))) Via.refl e438 SC (g := (mkF m 27 #[.val (.ref a), .val (.ref ca), .val (.int (0 : Int32)), .val (.int (3 : Int32)), .val .null, .unset] [])) rfl (hb hby own_d_jdk_42_method_149_code_27)
  refine OGo.step st439 ?_
  show OGo p e below (T439.setTop (mkF m 30 #[.val (.ref a), .val (.ref ca), .val (.int (0 : Int32)), .val (.int (3 : Int32)), .val .null, .unset] [(.int zc)])) _
  refine OGo.step (fun _ kk => XS.ifNo X439.here hx rfl (hb hby own_d_jdk_42_method_149_code_30) rfl ((if0 _ _).trans (feq hzc).1) kk) ?_
  show OGo p e below (T439.setTop (mkF m 33 #[.val (.ref a), .val (.ref ca), .val (.int (0 : Int32)), .val (.int (3 : Int32)), .val .null, .unset] [])) _
  refine OGo.step (fun _ kk => XS.aloadN X439.here hx rfl (hb hby own_d_jdk_42_method_149_code_33) rfl rfl kk) ?_
  show OGo p e below (T439.setTop (mkF m 34 #[.val (.ref a), .val (.ref ca), .val (.int (0 : Int32)), .val (.int (3 : Int32)), .val .null, .unset] [(.ref ca)])) _
  refine OGo.step (fun _ kk => XS.iloadN X439.here hx rfl (hb hby own_d_jdk_42_method_149_code_34) rfl kk) ?_
  show OGo p e below (T439.setTop (mkF m 35 #[.val (.ref a), .val (.ref ca), .val (.int (0 : Int32)), .val (.int (3 : Int32)), .val .null, .unset] [(.int (0 : Int32)), (.ref ca)])) _
  refine OGo.step (fun _ kk => XS.iloadN X439.here hx rfl (hb hby own_d_jdk_42_method_149_code_35) rfl kk) ?_
  show OGo p e below (T439.setTop (mkF m 36 #[.val (.ref a), .val (.ref ca), .val (.int (0 : Int32)), .val (.int (3 : Int32)), .val .null, .unset] [(.int (3 : Int32)), (.int (0 : Int32)), (.ref ca)])) _
  refine own_callS X439 hx hZ (y := (⟨"java/lang/StringUTF16", "compress", "([CII)[B"⟩ : MethodName)) hown (hw _ (List.mem_of_getElem? (i := 21) rfl)) (hw _ (List.mem_of_getElem? (i := 22) rfl)) (hw _ (List.mem_of_getElem? (i := 23) rfl)) (hw _ (List.mem_of_getElem? (i := 24) rfl)) (by decide) (W := 0) (own_cmp3_3 l Z a0 hw [] ca kc c0_ c1_ c2_ h0 n0 Z0 SA SH SL Vc hb0 hb1 hb2 hex) e439  (pc := 36) (Ls := #[.val (.ref a), .val (.ref ca), .val (.int (0 : Int32)), .val (.int (3 : Int32)), .val .null, .unset]) (argsL := [(.ref ca), (.int (0 : Int32)), (.int (3 : Int32))]) (rest := []) (by rw [hml]; rfl) (lenOf own_pd14 rfl) rfl (hb hby own_d_jdk_42_method_149_code_36) (by decide) (by decide) (by decide) (by decide) ?_
  intro v440 T440 L440 X440 hQ440
  obtain ⟨u, kb, rfl, N440, Xe440, gu, Vu⟩ := hQ440
  show OGo p e below (T440.setTop (mkF m 39 #[.val (.ref a), .val (.ref ca), .val (.int (0 : Int32)), .val (.int (3 : Int32)), .val .null, .unset] [(.ref u)])) _
  have nau : a ≠ u := Nat.ne_of_lt (Nat.lt_of_lt_of_le E1.lt gu)
  have Nc440 := Fr.app (Fr.nil n0) N440
  have sz440 : n0 ≤ T440.heap.size := Nat.le_trans Z0 Xe440.1
  refine OGo.step (fun _ kk => XS.astore X440.here hx rfl (hb hby own_d_jdk_42_method_149_code_39) rfl rfl (l' := #[.val (.ref a), .val (.ref ca), .val (.int (0 : Int32)), .val (.int (3 : Int32)), .val .null, .val (.ref u)]) rfl kk) ?_
  show OGo p e below (T440.setTop (mkF m 41 #[.val (.ref a), .val (.ref ca), .val (.int (0 : Int32)), .val (.int (3 : Int32)), .val .null, .val (.ref u)] [])) _
  refine OGo.step (fun _ kk => XS.aloadN X440.here hx rfl (hb hby own_d_jdk_42_method_149_code_41) rfl rfl kk) ?_
  show OGo p e below (T440.setTop (mkF m 42 #[.val (.ref a), .val (.ref ca), .val (.int (0 : Int32)), .val (.int (3 : Int32)), .val .null, .val (.ref u)] [(.ref a)])) _
  refine OGo.step (fun _ kk => XS.aload X440.here hx rfl (hb hby own_d_jdk_42_method_149_code_42) rfl rfl kk) ?_
  show OGo p e below (T440.setTop (mkF m 44 #[.val (.ref a), .val (.ref ca), .val (.int (0 : Int32)), .val (.int (3 : Int32)), .val .null, .val (.ref u)] [(.ref u), (.ref a)])) _
  refine OGo.step (fun _ kk => XS.iloadN X440.here hx rfl (hb hby own_d_jdk_42_method_149_code_44) rfl kk) ?_
  show OGo p e below (T440.setTop (mkF m 45 #[.val (.ref a), .val (.ref ca), .val (.int (0 : Int32)), .val (.int (3 : Int32)), .val .null, .val (.ref u)] [(.int (3 : Int32)), (.ref u), (.ref a)])) _
  refine own_callS X440 hx hZ (y := (⟨"java/lang/StringUTF16", "coderFromArrayLen", "([BI)B"⟩ : MethodName)) hown (hw _ (List.mem_of_getElem? (i := 29) rfl)) (hw _ (List.mem_of_getElem? (i := 30) rfl)) (hw _ (List.mem_of_getElem? (i := 23) rfl)) (hw _ (List.mem_of_getElem? (i := 31) rfl)) (by decide) (W := 1) (own_codl3 l Z a0 hw [] u kb _ T440.heap n0 sz440 Vu) rfl  (pc := 45) (Ls := #[.val (.ref a), .val (.ref ca), .val (.int (0 : Int32)), .val (.int (3 : Int32)), .val .null, .val (.ref u)]) (argsL := [(.ref u), (.int (3 : Int32))]) (rest := [(.ref a)]) (by rw [hml]; rfl) (lenOf own_pd16 rfl) rfl (hb hby own_d_jdk_42_method_149_code_45) (by decide) (by decide) (by decide) (by decide) ?_
  intro v441 T441 L441 X441 hQ441
  obtain ⟨rfl, N441, e441⟩ := hQ441
  show OGo p e below (T441.setTop (mkF m 48 #[.val (.ref a), .val (.ref ca), .val (.int (0 : Int32)), .val (.int (3 : Int32)), .val .null, .val (.ref u)] [(.int (1 : Int32)), (.ref a)])) _
  have Nc441 := Fr.app Nc440 N441
  have fc442 := (Fc.ext Xe440)
  have fc443 := (E1.ext Xe440)
  obtain ⟨T444, h444, X444, e444, W444, st444⟩ := putFN X441 hx hZ hown (hw _ (List.mem_of_getElem? (i := 32) rfl)) Via.refl e441 fc442 fc443 (Or.inr ⟨(hw _ (List.mem_of_getElem? (i := 33) rfl)), rfl, hnm⟩) (hw _ (List.mem_of_getElem? (i := 7) rfl)) (ty := .byte) (v' := (.int (1 : Int32))) (by decide) rfl rfl (g := (mkF m 48 #[.val (.ref a), .val (.ref ca), .val (.int (0 : Int32)), .val (.int (3 : Int32)), .val .null, .val (.ref u)] [(.int (1 : Int32)), (.ref a)])) rfl rfl (hb hby own_d_jdk_42_method_149_code_48)
  refine OGo.step st444 ?_
  show OGo p e below (T444.setTop (mkF m 51 #[.val (.ref a), .val (.ref ca), .val (.int (0 : Int32)), .val (.int (3 : Int32)), .val .null, .val (.ref u)] [])) _
  have Fw444 := fc442.same W444
  have Nf444 := Fr.snoc X444 Nc441 ga
  have sz444 : n0 ≤ h444.size := by rw [W444.size]; exact sz440
  refine OGo.step (fun _ kk => XS.aloadN X444.here hx rfl (hb hby own_d_jdk_42_method_149_code_51) rfl rfl kk) ?_
  show OGo p e below (T444.setTop (mkF m 52 #[.val (.ref a), .val (.ref ca), .val (.int (0 : Int32)), .val (.int (3 : Int32)), .val .null, .val (.ref u)] [(.ref a)])) _
  refine OGo.step (fun _ kk => XS.aload X444.here hx rfl (hb hby own_d_jdk_42_method_149_code_52) rfl rfl kk) ?_
  show OGo p e below (T444.setTop (mkF m 54 #[.val (.ref a), .val (.ref ca), .val (.int (0 : Int32)), .val (.int (3 : Int32)), .val .null, .val (.ref u)] [(.ref u), (.ref a)])) _
  have fc445 := ((Fv.ext Xe440).other W444 (Or.inr (slot_ne (Or.inr (hw _ (List.mem_of_getElem? (i := 35) rfl))) (Or.inr (hw _ (List.mem_of_getElem? (i := 33) rfl))) (by decide) (t := (.array .byte)) (t' := .byte) (by decide) (by decide))))
  have fc446 := (fc443.wr W444)
  obtain ⟨T447, h447, X447, e447, W447, st447⟩ := putF X444 hx hZ hown (host := "") (Or.inl (hw _ (List.mem_of_getElem? (i := 34) rfl))) Via.refl e444 fc445 fc446 (Or.inr ⟨(hw _ (List.mem_of_getElem? (i := 35) rfl)), rfl, hnm⟩) (hw _ (List.mem_of_getElem? (i := 7) rfl)) (ty := (.array .byte)) (by decide) rfl rfl (g := (mkF m 54 #[.val (.ref a), .val (.ref ca), .val (.int (0 : Int32)), .val (.int (3 : Int32)), .val .null, .val (.ref u)] [(.ref u), (.ref a)])) rfl rfl (hb hby own_d_jdk_42_method_149_code_54)
  refine OGo.step st447 ?_
  show OGo p e below (T447.setTop (mkF m 57 #[.val (.ref a), .val (.ref ca), .val (.int (0 : Int32)), .val (.int (3 : Int32)), .val .null, .val (.ref u)] [])) _
  have Fw447 := fc445.same W447
  have Nf447 := Fr.snoc X447 Nf444 ga
  have sz447 : n0 ≤ h447.size := by rw [W447.size]; exact sz444
  have fc448 := (fc446.wr W447)
  have fc449 := (Fw444.other W447 (Or.inr (slot_ne (Or.inr (hw _ (List.mem_of_getElem? (i := 33) rfl))) (Or.inr (hw _ (List.mem_of_getElem? (i := 35) rfl))) (by decide) (t := .byte) (t' := (.array .byte)) (by decide) (by decide))))
  have fc450 := ((Vu.other W444 (Ne.symm nau)).other W447 (Ne.symm nau))
  have HO : OStr Z h447 a [c0_, c1_, c2_] := ⟨u, kb, 1, (6 : Int32), _, fc448, Fw447, fc449, fc450, Or.inr ⟨rfl, rfl, rfl, own_ex3 hex⟩, (own_allS hb0 (own_allS hb1 (own_allS hb2 own_all0))), Nat.le_of_ble_eq_true rfl⟩
  have HK := ((((Keep.refl h0 [a]).ext Xe440).wr W444 (Or.inl (List.mem_of_getElem? (i := 0) rfl))).wr W447 (Or.inl (List.mem_of_getElem? (i := 0) rfl)))
  exact own_ret0 X447 hx hlk hret (hb hby own_d_jdk_42_method_149_code_57) (by rw [e447]; exact ⟨rfl, Nf447, HK, HO⟩) (by decide) (by decide)

set_option maxRecDepth 65536 in
set_option maxHeartbeats 40000000 in
theorem own_new1U3 (l : Launch) (Z : State) (a0 : Array Value) (hw : ∀ d ∈ tables_1, d.before a0 Z = true) (ws : List Jvm.Cond) (a ca : Addr) (kc : ClassId) (c0_ c1_ c2_ : Int32) (zc : Int32) (h0 : Heap) (n0 : Nat) (Z0 : n0 ≤ h0.size) (SC : Sta Z h0 "java/lang/String" "COMPACT_STRINGS" "Z" (.int zc)) (hzc : ¬ zc = 0) (SA : Sta Z h0 "java/lang/StringUTF16" "$assertionsDisabled" "Z" (.int (1 : Int32))) (SH : Sta Z h0 "java/lang/StringUTF16" "HI_BYTE_SHIFT" "I" (.int (0 : Int32))) (SL : Sta Z h0 "java/lang/StringUTF16" "LO_BYTE_SHIFT" "I" (.int (8 : Int32))) (E1 : Exa Z h0 a "java/lang/String") (Fv : Fld Z h0 a "java/lang/String" "value" "[B" .null) (Fc : Fld Z h0 a "java/lang/String" "coder" "B" (.int (0 : Int32))) (ga : n0 ≤ a) (Vc : Arv Z h0 ca kc .char (3 : Int32) [(.int c0_), (.int c1_), (.int c2_)] (.int (0 : Int32))) (hb0 : ¬ c0_ < 0 ∧ ¬ (65535 : Int32) < c0_) (hb1 : ¬ c1_ < 0 ∧ ¬ (65535 : Int32) < c1_) (hb2 : ¬ c2_ < 0 ∧ ¬ (65535 : Int32) < c2_) (hex : (255 : Int32) < c0_ ∨ (255 : Int32) < c1_ ∨ (255 : Int32) < c2_) :
    OMet l Z (⟨"java/lang/String", "<init>", "([C)V"⟩ : MethodName) jdk_42_method_3_code 2 none ws ({ frames := 5, cells := 2, slots := 9, locals := 74 } : Room) #[(.ref a), (.ref ca)] h0 (fun v h L => v = none ∧ Fr n0 L ∧ Keep h0 h [a] ∧ OStr Z h a [c0_, c1_, c2_]) := by
  refine OMet.body (plainFor_of_name own_pn3) ?_
  intro p e s m below meth c s₁ hx hby hml hown hnm hret hlk hZ X0 e0
  refine OGo.step (fun _ kk => castTop (show entryFrame m #[(.ref a), (.ref ca)] 2 = (mkF m 0 #[.val (.ref a), .val (.ref ca)] []) from by first | (simp [entryFrame, mkF, argsToLocals, Value.category]; done) | rfl) kk) ?_
  show OGo p e below (s₁.setTop (mkF m 0 #[.val (.ref a), .val (.ref ca)] [])) _
  obtain ⟨cb, Ab, qb, Sb, Mb, Hb, Gb⟩ := id Vc
  refine OGo.step (fun _ kk => XS.aloadN X0.here hx rfl (hb hby own_d_jdk_42_method_3_code_0) rfl rfl kk) ?_
  show OGo p e below (s₁.setTop (mkF m 1 #[.val (.ref a), .val (.ref ca)] [(.ref a)])) _
  refine OGo.step (fun _ kk => XS.aloadN X0.here hx rfl (hb hby own_d_jdk_42_method_3_code_1) rfl rfl kk) ?_
  show OGo p e below (s₁.setTop (mkF m 2 #[.val (.ref a), .val (.ref ca)] [(.ref ca), (.ref a)])) _
  refine OGo.step (fun _ kk => XS.iconst X0.here hx rfl (hb hby own_d_jdk_42_method_3_code_2) kk) ?_
  show OGo p e below (s₁.setTop (mkF m 3 #[.val (.ref a), .val (.ref ca)] [(.int (0 : Int32)), (.ref ca), (.ref a)])) _
  refine OGo.step (fun _ kk => XS.aloadN X0.here hx rfl (hb hby own_d_jdk_42_method_3_code_3) rfl rfl kk) ?_
  show OGo p e below (s₁.setTop (mkF m 4 #[.val (.ref a), .val (.ref ca)] [(.ref ca), (.int (0 : Int32)), (.ref ca), (.ref a)])) _
  refine OGo.step (fun _ kk => X0.arraylength hx (by rw [e0]; exact (Ab).1) (State.isArrayOf_alike hZ.alike (Ab).2.1) (g := (mkF m 4 #[.val (.ref a), .val (.ref ca)] [(.ref ca), (.int (0 : Int32)), (.ref ca), (.ref a)])) rfl rfl (hb hby own_d_jdk_42_method_3_code_4) _ kk) ?_
  rw [len_of Sb Mb]
  show OGo p e below (s₁.setTop (mkF m 5 #[.val (.ref a), .val (.ref ca)] [(.int (3 : Int32)), (.int (0 : Int32)), (.ref ca), (.ref a)])) _
  refine OGo.step (fun _ kk => XS.aconstNull X0.here hx rfl (hb hby own_d_jdk_42_method_3_code_5) kk) ?_
  show OGo p e below (s₁.setTop (mkF m 6 #[.val (.ref a), .val (.ref ca)] [.null, (.int (3 : Int32)), (.int (0 : Int32)), (.ref ca), (.ref a)])) _
  refine own_special X0 hx hZ (y := (⟨"java/lang/String", "<init>", "([CIILjava/lang/Void;)V"⟩ : MethodName)) rfl hown (hw _ (List.mem_of_getElem? (i := 13) rfl)) (hw _ (List.mem_of_getElem? (i := 14) rfl)) (hw _ (List.mem_of_getElem? (i := 16) rfl)) (hw _ (List.mem_of_getElem? (i := 8) rfl)) (by decide) (a := a) (W := 0) (own_new4U3 l Z a0 hw [] a ca kc c0_ c1_ c2_ zc h0 n0 Z0 SC hzc SA SH SL E1 Fv Fc ga Vc hb0 hb1 hb2 hex) e0  (pc := 6) (Ls := #[.val (.ref a), .val (.ref ca)]) (argsL := [(.ref ca), (.int (0 : Int32)), (.int (3 : Int32)), .null]) (rest := []) (by rw [hml]; rfl) (lenOf own_pd9 rfl) rfl (hb hby own_d_jdk_42_method_3_code_6) (by decide) (by decide) (by decide) (by decide) ?_
  intro v451 T451 L451 X451 hQ451
  obtain ⟨rfl, N451, K451, O451⟩ := hQ451
  show OGo p e below (T451.setTop (mkF m 9 #[.val (.ref a), .val (.ref ca)] [])) _
  exact own_ret0 X451 hx hlk hret (hb hby own_d_jdk_42_method_3_code_9) ⟨rfl, Fr.app (Fr.nil n0) N451, K451, O451⟩ (by decide) (by decide)

set_option maxRecDepth 65536 in
set_option maxHeartbeats 40000000 in
theorem own_nbl4 (l : Launch) (Z : State) (a0 : Array Value) (hw : ∀ d ∈ tables_1, d.before a0 Z = true) (ws : List Jvm.Cond)  (h0 : Heap) (n0 : Nat) (Z0 : n0 ≤ h0.size)  :
    OMet l Z (⟨"java/lang/StringUTF16", "newBytesLength", "(I)I"⟩ : MethodName) jdk_52_method_3_code 1 (some .int) ws ({ frames := 0, cells := 0, slots := 0, locals := 0 } : Room) #[(.int (4 : Int32))] h0 (fun v h L => v = some (.int (8 : Int32)) ∧ Fr n0 L ∧ h = h0) := by
  refine OMet.body (plainFor_of_name own_pn4) ?_
  intro p e s m below meth c s₁ hx hby hml hown hnm hret hlk hZ X0 e0
  refine OGo.step (fun _ kk => castTop (show entryFrame m #[(.int (4 : Int32))] 1 = (mkF m 0 #[.val (.int (4 : Int32))] []) from by first | (simp [entryFrame, mkF, argsToLocals, Value.category]; done) | rfl) kk) ?_
  show OGo p e below (s₁.setTop (mkF m 0 #[.val (.int (4 : Int32))] [])) _
  refine OGo.step (fun _ kk => XS.iloadN X0.here hx rfl (hb hby own_d_jdk_52_method_3_code_0) rfl kk) ?_
  show OGo p e below (s₁.setTop (mkF m 1 #[.val (.int (4 : Int32))] [(.int (4 : Int32))])) _
  refine OGo.step (fun _ kk => XS.ifYes X0.here hx rfl (pc0 := 1) (pc' := 12) rfl (hb hby own_d_jdk_52_method_3_code_1) rfl ((if0 _ _).trans (flt (by decide)).2.1) (by decide) (by decide) kk) ?_
  show OGo p e below (s₁.setTop (mkF m 12 #[.val (.int (4 : Int32))] [])) _
  refine OGo.step (fun _ kk => XS.iloadN X0.here hx rfl (hb hby own_d_jdk_52_method_3_code_12) rfl kk) ?_
  show OGo p e below (s₁.setTop (mkF m 13 #[.val (.int (4 : Int32))] [(.int (4 : Int32))])) _
  refine OGo.step (fun _ kk => X0.ldcInt hx hown (mvT hZ (hw _ (List.mem_of_getElem? (i := 99) rfl))) (g := (mkF m 13 #[.val (.int (4 : Int32))] [(.int (4 : Int32))])) rfl (hb hby own_d_jdk_52_method_3_code_13) _ kk) ?_
  show OGo p e below (s₁.setTop (mkF m 15 #[.val (.int (4 : Int32))] [(.int (1073741823 : Int32)), (.int (4 : Int32))])) _
  refine OGo.step (fun _ kk => XS.icmpYes X0.here hx rfl (pc0 := 15) (pc' := 55) rfl (hb hby own_d_jdk_52_method_3_code_15) rfl (tlt (by decide)).1 (by decide) (by decide) kk) ?_
  show OGo p e below (s₁.setTop (mkF m 55 #[.val (.int (4 : Int32))] [])) _
  refine OGo.step (fun _ kk => XS.iloadN X0.here hx rfl (hb hby own_d_jdk_52_method_3_code_55) rfl kk) ?_
  show OGo p e below (s₁.setTop (mkF m 56 #[.val (.int (4 : Int32))] [(.int (4 : Int32))])) _
  refine OGo.step (fun _ kk => XS.iconst X0.here hx rfl (hb hby own_d_jdk_52_method_3_code_56) kk) ?_
  show OGo p e below (s₁.setTop (mkF m 57 #[.val (.int (4 : Int32))] [(.int (1 : Int32)), (.int (4 : Int32))])) _
  refine OGo.step (fun _ kk => XS.ishl X0.here hx rfl (hb hby own_d_jdk_52_method_3_code_57) rfl kk) ?_
  show OGo p e below (s₁.setTop (mkF m 58 #[.val (.int (4 : Int32))] [(.int ((4 : Int32) <<< ((1 : Int32) &&& 31)))])) _
  exact own_ret X0 hx hlk hret rfl (Or.inl ⟨rfl, Or.inl rfl, _, rfl⟩) (hb hby own_d_jdk_52_method_3_code_58) ⟨rfl, Fr.nil n0, e0⟩ (by decide) (by decide)

set_option maxRecDepth 65536 in
set_option maxHeartbeats 40000000 in
theorem own_nbf4 (l : Launch) (Z : State) (a0 : Array Value) (hw : ∀ d ∈ tables_1, d.before a0 Z = true) (ws : List Jvm.Cond)  (h0 : Heap) (n0 : Nat) (Z0 : n0 ≤ h0.size)  :
    OMet l Z (⟨"java/lang/StringUTF16", "newBytesFor", "(I)[B"⟩ : MethodName) jdk_52_method_2_code 1 (some (.array .byte)) ws ({ frames := 1, cells := 1, slots := 8, locals := 12 } : Room) #[(.int (4 : Int32))] h0 (fun v h L => ∃ (u : Addr) (kb : ClassId), v = some (.ref u) ∧ Fr n0 L ∧ Ext h0 h ∧ h0.size ≤ u ∧ Arv Z h u kb .byte (8 : Int32) [(.int (0 : Int32)), (.int (0 : Int32)), (.int (0 : Int32)), (.int (0 : Int32)), (.int (0 : Int32)), (.int (0 : Int32)), (.int (0 : Int32)), (.int (0 : Int32))] (.int (0 : Int32))) := by
  refine OMet.body (plainFor_of_name own_pn4) ?_
  intro p e s m below meth c s₁ hx hby hml hown hnm hret hlk hZ X0 e0
  refine OGo.step (fun _ kk => castTop (show entryFrame m #[(.int (4 : Int32))] 1 = (mkF m 0 #[.val (.int (4 : Int32))] []) from by first | (simp [entryFrame, mkF, argsToLocals, Value.category]; done) | rfl) kk) ?_
  show OGo p e below (s₁.setTop (mkF m 0 #[.val (.int (4 : Int32))] [])) _
  refine OGo.step (fun _ kk => XS.iloadN X0.here hx rfl (hb hby own_d_jdk_52_method_2_code_0) rfl kk) ?_
  show OGo p e below (s₁.setTop (mkF m 1 #[.val (.int (4 : Int32))] [(.int (4 : Int32))])) _
  refine own_callS X0 hx hZ (y := (⟨"java/lang/StringUTF16", "newBytesLength", "(I)I"⟩ : MethodName)) hown (hw _ (List.mem_of_getElem? (i := 96) rfl)) (hw _ (List.mem_of_getElem? (i := 97) rfl)) (hw _ (List.mem_of_getElem? (i := 23) rfl)) (hw _ (List.mem_of_getElem? (i := 98) rfl)) (by decide) (W := 0) (own_nbl4 l Z a0 hw [] h0 n0 Z0) e0  (pc := 1) (Ls := #[.val (.int (4 : Int32))]) (argsL := [(.int (4 : Int32))]) (rest := []) (by rw [hml]; rfl) (lenOf own_pd10 rfl) rfl (hb hby own_d_jdk_52_method_2_code_1) (by decide) (by decide) (by decide) (by decide) ?_
  intro v452 T452 L452 X452 hQ452
  obtain ⟨rfl, N452, e452⟩ := hQ452
  show OGo p e below (T452.setTop (mkF m 4 #[.val (.int (4 : Int32))] [(.int (8 : Int32))])) _
  have Nc452 := Fr.app (Fr.nil n0) N452
  obtain ⟨T453, h453, k453, X453, e453, E453, A453, st453⟩ := newP X452 hx hZ (hw _ (List.mem_of_getElem? (i := 25) rfl)) e452 (g := (mkF m 4 #[.val (.int (4 : Int32))] [(.int (8 : Int32))])) rfl (hb hby own_d_jdk_52_method_2_code_4) rfl (by decide) (cap := 8) (by decide) (by decide) (by decide) (by decide)
  obtain ⟨u, g453⟩ : ∃ z, z = h0.size := ⟨_, rfl⟩
  rw [← g453] at A453 st453
  refine OGo.step st453 ?_
  show OGo p e below (T453.setTop (mkF m 6 #[.val (.int (4 : Int32))] [(.ref u)])) _
  have gf_u : n0 ≤ u := Nat.le_trans Z0 (Nat.le_of_eq g453.symm)
  have sz453 : n0 ≤ h453.size := Nat.le_trans Z0 E453.1
  have Va : Arv Z h453 u k453 .byte (8 : Int32) [(.int (0 : Int32)), (.int (0 : Int32)), (.int (0 : Int32)), (.int (0 : Int32)), (.int (0 : Int32)), (.int (0 : Int32)), (.int (0 : Int32)), (.int (0 : Int32))] (.int (0 : Int32)) := (Arv.new A453 (by decide)).pad (pad_rep [] (.int (0 : Int32)) 8)
  exact own_ret X453 hx hlk hret rfl (Or.inr (Or.inr (Or.inr (Or.inr ⟨rfl, rfl, rfl⟩)))) (hb hby own_d_jdk_52_method_2_code_6) (by rw [e453]; exact ⟨u, _, rfl, Nc452, E453, (Nat.le_of_eq g453.symm), Va⟩) (by decide) (by decide)

set_option maxRecDepth 65536 in
set_option maxHeartbeats 40000000 in
theorem own_toB4 (l : Launch) (Z : State) (a0 : Array Value) (hw : ∀ d ∈ tables_1, d.before a0 Z = true) (ws : List Jvm.Cond) (ca : Addr) (kc : ClassId) (c0_ c1_ c2_ c3_ : Int32) (h0 : Heap) (n0 : Nat) (Z0 : n0 ≤ h0.size) (SA : Sta Z h0 "java/lang/StringUTF16" "$assertionsDisabled" "Z" (.int (1 : Int32))) (SH : Sta Z h0 "java/lang/StringUTF16" "HI_BYTE_SHIFT" "I" (.int (0 : Int32))) (SL : Sta Z h0 "java/lang/StringUTF16" "LO_BYTE_SHIFT" "I" (.int (8 : Int32))) (Vc : Arv Z h0 ca kc .char (4 : Int32) [(.int c0_), (.int c1_), (.int c2_), (.int c3_)] (.int (0 : Int32))) :
    OMet l Z (⟨"java/lang/StringUTF16", "toBytes", "([CII)[B"⟩ : MethodName) jdk_52_method_14_code 5 (some (.array .byte)) ws ({ frames := 2, cells := 1, slots := 8, locals := 24 } : Room) #[(.ref ca), (.int (0 : Int32)), (.int (4 : Int32))] h0 (fun v h L => ∃ (u : Addr) (kb : ClassId), v = some (.ref u) ∧ Fr n0 L ∧ Ext h0 h ∧ h0.size ≤ u ∧ Arv Z h u kb .byte (8 : Int32) (StrChars.Road.wideBytes [c0_, c1_, c2_, c3_]) (.int (0 : Int32))) := by
  refine OMet.body (plainFor_of_name own_pn4) ?_
  intro p e s m below meth c s₁ hx hby hml hown hnm hret hlk hZ X0 e0
  refine OGo.step (fun _ kk => castTop (show entryFrame m #[(.ref ca), (.int (0 : Int32)), (.int (4 : Int32))] 5 = (mkF m 0 #[.val (.ref ca), .val (.int (0 : Int32)), .val (.int (4 : Int32)), .unset, .unset] []) from by first | (simp [entryFrame, mkF, argsToLocals, Value.category]; done) | rfl) kk) ?_
  show OGo p e below (s₁.setTop (mkF m 0 #[.val (.ref ca), .val (.int (0 : Int32)), .val (.int (4 : Int32)), .unset, .unset] [])) _
  refine OGo.step (fun _ kk => XS.iloadN X0.here hx rfl (hb hby own_d_jdk_52_method_14_code_0) rfl kk) ?_
  show OGo p e below (s₁.setTop (mkF m 1 #[.val (.ref ca), .val (.int (0 : Int32)), .val (.int (4 : Int32)), .unset, .unset] [(.int (4 : Int32))])) _
  refine own_callS X0 hx hZ (y := (⟨"java/lang/StringUTF16", "newBytesFor", "(I)[B"⟩ : MethodName)) hown (hw _ (List.mem_of_getElem? (i := 93) rfl)) (hw _ (List.mem_of_getElem? (i := 94) rfl)) (hw _ (List.mem_of_getElem? (i := 23) rfl)) (hw _ (List.mem_of_getElem? (i := 95) rfl)) (by decide) (W := 0) (own_nbf4 l Z a0 hw [] h0 n0 Z0) e0  (pc := 1) (Ls := #[.val (.ref ca), .val (.int (0 : Int32)), .val (.int (4 : Int32)), .unset, .unset]) (argsL := [(.int (4 : Int32))]) (rest := []) (by rw [hml]; rfl) (lenOf own_pd11 rfl) rfl (hb hby own_d_jdk_52_method_14_code_1) (by decide) (by decide) (by decide) (by decide) ?_
  intro v454 T454 L454 X454 hQ454
  obtain ⟨u, kb, rfl, N454, Xe454, gu, Vu⟩ := hQ454
  show OGo p e below (T454.setTop (mkF m 4 #[.val (.ref ca), .val (.int (0 : Int32)), .val (.int (4 : Int32)), .unset, .unset] [(.ref u)])) _
  have ncu : ca ≠ u := Nat.ne_of_lt (Nat.lt_of_lt_of_le Vc.lt gu)
  have Nc454 := Fr.app (Fr.nil n0) N454
  have sz454 : n0 ≤ T454.heap.size := Nat.le_trans Z0 Xe454.1
  have gfu : n0 ≤ u := Nat.le_trans Z0 gu
  refine OGo.step (fun _ kk => XS.astoreN X454.here hx rfl (hb hby own_d_jdk_52_method_14_code_4) rfl rfl (l' := #[.val (.ref ca), .val (.int (0 : Int32)), .val (.int (4 : Int32)), .val (.ref u), .unset]) rfl kk) ?_
  show OGo p e below (T454.setTop (mkF m 5 #[.val (.ref ca), .val (.int (0 : Int32)), .val (.int (4 : Int32)), .val (.ref u), .unset] [])) _
  refine OGo.step (fun _ kk => XS.iconst X454.here hx rfl (hb hby own_d_jdk_52_method_14_code_5) kk) ?_
  show OGo p e below (T454.setTop (mkF m 6 #[.val (.ref ca), .val (.int (0 : Int32)), .val (.int (4 : Int32)), .val (.ref u), .unset] [(.int (0 : Int32))])) _
  refine OGo.step (fun _ kk => XS.istore X454.here hx rfl (hb hby own_d_jdk_52_method_14_code_6) rfl (l' := #[.val (.ref ca), .val (.int (0 : Int32)), .val (.int (4 : Int32)), .val (.ref u), .val (.int (0 : Int32))]) rfl kk) ?_
  show OGo p e below (T454.setTop (mkF m 8 #[.val (.ref ca), .val (.int (0 : Int32)), .val (.int (4 : Int32)), .val (.ref u), .val (.int (0 : Int32))] [])) _
  show OGo p e below (T454.setTop (mkF m 8 #[.val (.ref ca), .val (.int (0 : Int32)), .val (.int (4 : Int32)), .val (.ref u), .val (.int (0 : Int32))] [])) _
  refine OGo.step (fun _ kk => XS.iload X454.here hx rfl (hb hby own_d_jdk_52_method_14_code_8) rfl kk) ?_
  show OGo p e below (T454.setTop (mkF m 10 #[.val (.ref ca), .val (.int (0 : Int32)), .val (.int (4 : Int32)), .val (.ref u), .val (.int (0 : Int32))] [(.int (0 : Int32))])) _
  refine OGo.step (fun _ kk => XS.iloadN X454.here hx rfl (hb hby own_d_jdk_52_method_14_code_10) rfl kk) ?_
  show OGo p e below (T454.setTop (mkF m 11 #[.val (.ref ca), .val (.int (0 : Int32)), .val (.int (4 : Int32)), .val (.ref u), .val (.int (0 : Int32))] [(.int (4 : Int32)), (.int (0 : Int32))])) _
  refine OGo.step (fun _ kk => XS.icmpNo X454.here hx rfl (hb hby own_d_jdk_52_method_14_code_11) rfl (tlt (by decide)).2.1 kk) ?_
  show OGo p e below (T454.setTop (mkF m 14 #[.val (.ref ca), .val (.int (0 : Int32)), .val (.int (4 : Int32)), .val (.ref u), .val (.int (0 : Int32))] [])) _
  refine OGo.step (fun _ kk => XS.aloadN X454.here hx rfl (hb hby own_d_jdk_52_method_14_code_14) rfl rfl kk) ?_
  show OGo p e below (T454.setTop (mkF m 15 #[.val (.ref ca), .val (.int (0 : Int32)), .val (.int (4 : Int32)), .val (.ref u), .val (.int (0 : Int32))] [(.ref u)])) _
  refine OGo.step (fun _ kk => XS.iload X454.here hx rfl (hb hby own_d_jdk_52_method_14_code_15) rfl kk) ?_
  show OGo p e below (T454.setTop (mkF m 17 #[.val (.ref ca), .val (.int (0 : Int32)), .val (.int (4 : Int32)), .val (.ref u), .val (.int (0 : Int32))] [(.int (0 : Int32)), (.ref u)])) _
  refine OGo.step (fun _ kk => XS.aloadN X454.here hx rfl (hb hby own_d_jdk_52_method_14_code_17) rfl rfl kk) ?_
  show OGo p e below (T454.setTop (mkF m 18 #[.val (.ref ca), .val (.int (0 : Int32)), .val (.int (4 : Int32)), .val (.ref u), .val (.int (0 : Int32))] [(.ref ca), (.int (0 : Int32)), (.ref u)])) _
  refine OGo.step (fun _ kk => XS.iloadN X454.here hx rfl (hb hby own_d_jdk_52_method_14_code_18) rfl kk) ?_
  show OGo p e below (T454.setTop (mkF m 19 #[.val (.ref ca), .val (.int (0 : Int32)), .val (.int (4 : Int32)), .val (.ref u), .val (.int (0 : Int32))] [(.int (0 : Int32)), (.ref ca), (.int (0 : Int32)), (.ref u)])) _
  have fc455 := (Vc.ext Xe454)
  obtain ⟨cA456, A456, q456, S456, M456, H456, G456⟩ := id fc455
  refine OGo.step (fun _ kk => X454.caload hx (j := (0 : Int32)) (v := (.int c0_)) (A456).1 (State.isArrayOf_alike hZ.alike (A456).2.1) (A456).2.2 (inb_of S456 ⟨by decide, by decide⟩) (H456 0 (by rw [S456]; decide)) (g := (mkF m 19 #[.val (.ref ca), .val (.int (0 : Int32)), .val (.int (4 : Int32)), .val (.ref u), .val (.int (0 : Int32))] [(.int (0 : Int32)), (.ref ca), (.int (0 : Int32)), (.ref u)])) rfl rfl (hb hby own_d_jdk_52_method_14_code_19) _ kk) ?_
  show OGo p e below (T454.setTop (mkF m 20 #[.val (.ref ca), .val (.int (0 : Int32)), .val (.int (4 : Int32)), .val (.ref u), .val (.int (0 : Int32))] [(.int c0_), (.int (0 : Int32)), (.ref u)])) _
  have fx457 := SA.ext Xe454
  have fx458 := SH.ext Xe454
  have fx459 := SL.ext Xe454
  refine own_callS X454 hx hZ (y := (⟨"java/lang/StringUTF16", "putChar", "([BII)V"⟩ : MethodName)) hown (hw _ (List.mem_of_getElem? (i := 100) rfl)) (hw _ (List.mem_of_getElem? (i := 101) rfl)) (hw _ (List.mem_of_getElem? (i := 23) rfl)) (hw _ (List.mem_of_getElem? (i := 102) rfl)) (by decide) (W := 0) (own_putc0 l Z a0 hw [] u kb _ [(.int (0 : Int32)), (.int (0 : Int32)), (.int (0 : Int32)), (.int (0 : Int32)), (.int (0 : Int32)), (.int (0 : Int32)), (.int (0 : Int32)), (.int (0 : Int32))] c0_ T454.heap n0 sz454 fx457 fx458 fx459 gfu Vu (Nat.le_of_ble_eq_true rfl) (by decide) (by decide)) rfl  (pc := 20) (Ls := #[.val (.ref ca), .val (.int (0 : Int32)), .val (.int (4 : Int32)), .val (.ref u), .val (.int (0 : Int32))]) (argsL := [(.ref u), (.int (0 : Int32)), (.int c0_)]) (rest := []) (by rw [hml]; rfl) (lenOf own_pd12 rfl) rfl (hb hby own_d_jdk_52_method_14_code_20) (by decide) (by decide) (by decide) (by decide) ?_
  intro v460 T460 L460 X460 hQ460
  obtain ⟨rfl, N460, K460, Va460⟩ := hQ460
  show OGo p e below (T460.setTop (mkF m 23 #[.val (.ref ca), .val (.int (0 : Int32)), .val (.int (4 : Int32)), .val (.ref u), .val (.int (0 : Int32))] [])) _
  have Nc460 := Fr.app Nc454 N460
  have sz460 : n0 ≤ T460.heap.size := Nat.le_trans sz454 K460.1
  refine OGo.step (fun _ kk => XS.iinc X460.here hx rfl (hb hby own_d_jdk_52_method_14_code_23) rfl (l' := #[.val (.ref ca), .val (.int ((0 : Int32) + (1 : Int32))), .val (.int (4 : Int32)), .val (.ref u), .val (.int (0 : Int32))]) rfl kk) ?_
  show OGo p e below (T460.setTop (mkF m 26 #[.val (.ref ca), .val (.int ((0 : Int32) + (1 : Int32))), .val (.int (4 : Int32)), .val (.ref u), .val (.int (0 : Int32))] [])) _
  refine OGo.step (fun _ kk => XS.iinc X460.here hx rfl (hb hby own_d_jdk_52_method_14_code_26) rfl (l' := #[.val (.ref ca), .val (.int ((0 : Int32) + (1 : Int32))), .val (.int (4 : Int32)), .val (.ref u), .val (.int ((0 : Int32) + (1 : Int32)))]) rfl kk) ?_
  show OGo p e below (T460.setTop (mkF m 29 #[.val (.ref ca), .val (.int ((0 : Int32) + (1 : Int32))), .val (.int (4 : Int32)), .val (.ref u), .val (.int ((0 : Int32) + (1 : Int32)))] [])) _
  refine OGo.step (fun _ kk => XS.goto X460.here hx rfl (pc0 := 29) (pc' := 8) rfl (hb hby own_d_jdk_52_method_14_code_29) (by decide) (by decide) kk) ?_
  show OGo p e below (T460.setTop (mkF m 8 #[.val (.ref ca), .val (.int ((0 : Int32) + (1 : Int32))), .val (.int (4 : Int32)), .val (.ref u), .val (.int ((0 : Int32) + (1 : Int32)))] [])) _
  show OGo p e below (T460.setTop (mkF m 8 #[.val (.ref ca), .val (.int (1 : Int32)), .val (.int (4 : Int32)), .val (.ref u), .val (.int (1 : Int32))] [])) _
  refine OGo.step (fun _ kk => XS.iload X460.here hx rfl (hb hby own_d_jdk_52_method_14_code_8) rfl kk) ?_
  show OGo p e below (T460.setTop (mkF m 10 #[.val (.ref ca), .val (.int (1 : Int32)), .val (.int (4 : Int32)), .val (.ref u), .val (.int (1 : Int32))] [(.int (1 : Int32))])) _
  refine OGo.step (fun _ kk => XS.iloadN X460.here hx rfl (hb hby own_d_jdk_52_method_14_code_10) rfl kk) ?_
  show OGo p e below (T460.setTop (mkF m 11 #[.val (.ref ca), .val (.int (1 : Int32)), .val (.int (4 : Int32)), .val (.ref u), .val (.int (1 : Int32))] [(.int (4 : Int32)), (.int (1 : Int32))])) _
  refine OGo.step (fun _ kk => XS.icmpNo X460.here hx rfl (hb hby own_d_jdk_52_method_14_code_11) rfl (tlt (by decide)).2.1 kk) ?_
  show OGo p e below (T460.setTop (mkF m 14 #[.val (.ref ca), .val (.int (1 : Int32)), .val (.int (4 : Int32)), .val (.ref u), .val (.int (1 : Int32))] [])) _
  refine OGo.step (fun _ kk => XS.aloadN X460.here hx rfl (hb hby own_d_jdk_52_method_14_code_14) rfl rfl kk) ?_
  show OGo p e below (T460.setTop (mkF m 15 #[.val (.ref ca), .val (.int (1 : Int32)), .val (.int (4 : Int32)), .val (.ref u), .val (.int (1 : Int32))] [(.ref u)])) _
  refine OGo.step (fun _ kk => XS.iload X460.here hx rfl (hb hby own_d_jdk_52_method_14_code_15) rfl kk) ?_
  show OGo p e below (T460.setTop (mkF m 17 #[.val (.ref ca), .val (.int (1 : Int32)), .val (.int (4 : Int32)), .val (.ref u), .val (.int (1 : Int32))] [(.int (1 : Int32)), (.ref u)])) _
  refine OGo.step (fun _ kk => XS.aloadN X460.here hx rfl (hb hby own_d_jdk_52_method_14_code_17) rfl rfl kk) ?_
  show OGo p e below (T460.setTop (mkF m 18 #[.val (.ref ca), .val (.int (1 : Int32)), .val (.int (4 : Int32)), .val (.ref u), .val (.int (1 : Int32))] [(.ref ca), (.int (1 : Int32)), (.ref u)])) _
  refine OGo.step (fun _ kk => XS.iloadN X460.here hx rfl (hb hby own_d_jdk_52_method_14_code_18) rfl kk) ?_
  show OGo p e below (T460.setTop (mkF m 19 #[.val (.ref ca), .val (.int (1 : Int32)), .val (.int (4 : Int32)), .val (.ref u), .val (.int (1 : Int32))] [(.int (1 : Int32)), (.ref ca), (.int (1 : Int32)), (.ref u)])) _
  have fc461 := (fc455.keep K460 (ninS ncu nin0))
  obtain ⟨cA462, A462, q462, S462, M462, H462, G462⟩ := id fc461
  refine OGo.step (fun _ kk => X460.caload hx (j := (1 : Int32)) (v := (.int c1_)) (A462).1 (State.isArrayOf_alike hZ.alike (A462).2.1) (A462).2.2 (inb_of S462 ⟨by decide, by decide⟩) (H462 1 (by rw [S462]; decide)) (g := (mkF m 19 #[.val (.ref ca), .val (.int (1 : Int32)), .val (.int (4 : Int32)), .val (.ref u), .val (.int (1 : Int32))] [(.int (1 : Int32)), (.ref ca), (.int (1 : Int32)), (.ref u)])) rfl rfl (hb hby own_d_jdk_52_method_14_code_19) _ kk) ?_
  show OGo p e below (T460.setTop (mkF m 20 #[.val (.ref ca), .val (.int (1 : Int32)), .val (.int (4 : Int32)), .val (.ref u), .val (.int (1 : Int32))] [(.int c1_), (.int (1 : Int32)), (.ref u)])) _
  have xt463 := (own_ext_keep Xe454 K460 (allS gu all0))
  have fx464 := SA.ext xt463
  have fx465 := SH.ext xt463
  have fx466 := SL.ext xt463
  refine own_callS X460 hx hZ (y := (⟨"java/lang/StringUTF16", "putChar", "([BII)V"⟩ : MethodName)) hown (hw _ (List.mem_of_getElem? (i := 100) rfl)) (hw _ (List.mem_of_getElem? (i := 101) rfl)) (hw _ (List.mem_of_getElem? (i := 23) rfl)) (hw _ (List.mem_of_getElem? (i := 102) rfl)) (by decide) (W := 0) (own_putc1 l Z a0 hw [] u kb _ (([(.int (0 : Int32)), (.int (0 : Int32)), (.int (0 : Int32)), (.int (0 : Int32)), (.int (0 : Int32)), (.int (0 : Int32)), (.int (0 : Int32)), (.int (0 : Int32))].set 0 (.int (StrChars.lo8 c0_))).set 1 (.int (StrChars.hi8 c0_))) c1_ T460.heap n0 sz460 fx464 fx465 fx466 gfu Va460 (Nat.le_of_ble_eq_true rfl) (by decide) (by decide)) rfl  (pc := 20) (Ls := #[.val (.ref ca), .val (.int (1 : Int32)), .val (.int (4 : Int32)), .val (.ref u), .val (.int (1 : Int32))]) (argsL := [(.ref u), (.int (1 : Int32)), (.int c1_)]) (rest := []) (by rw [hml]; rfl) (lenOf own_pd12 rfl) rfl (hb hby own_d_jdk_52_method_14_code_20) (by decide) (by decide) (by decide) (by decide) ?_
  intro v467 T467 L467 X467 hQ467
  obtain ⟨rfl, N467, K467, Va467⟩ := hQ467
  show OGo p e below (T467.setTop (mkF m 23 #[.val (.ref ca), .val (.int (1 : Int32)), .val (.int (4 : Int32)), .val (.ref u), .val (.int (1 : Int32))] [])) _
  have Nc467 := Fr.app Nc460 N467
  have sz467 : n0 ≤ T467.heap.size := Nat.le_trans sz460 K467.1
  refine OGo.step (fun _ kk => XS.iinc X467.here hx rfl (hb hby own_d_jdk_52_method_14_code_23) rfl (l' := #[.val (.ref ca), .val (.int ((1 : Int32) + (1 : Int32))), .val (.int (4 : Int32)), .val (.ref u), .val (.int (1 : Int32))]) rfl kk) ?_
  show OGo p e below (T467.setTop (mkF m 26 #[.val (.ref ca), .val (.int ((1 : Int32) + (1 : Int32))), .val (.int (4 : Int32)), .val (.ref u), .val (.int (1 : Int32))] [])) _
  refine OGo.step (fun _ kk => XS.iinc X467.here hx rfl (hb hby own_d_jdk_52_method_14_code_26) rfl (l' := #[.val (.ref ca), .val (.int ((1 : Int32) + (1 : Int32))), .val (.int (4 : Int32)), .val (.ref u), .val (.int ((1 : Int32) + (1 : Int32)))]) rfl kk) ?_
  show OGo p e below (T467.setTop (mkF m 29 #[.val (.ref ca), .val (.int ((1 : Int32) + (1 : Int32))), .val (.int (4 : Int32)), .val (.ref u), .val (.int ((1 : Int32) + (1 : Int32)))] [])) _
  refine OGo.step (fun _ kk => XS.goto X467.here hx rfl (pc0 := 29) (pc' := 8) rfl (hb hby own_d_jdk_52_method_14_code_29) (by decide) (by decide) kk) ?_
  show OGo p e below (T467.setTop (mkF m 8 #[.val (.ref ca), .val (.int ((1 : Int32) + (1 : Int32))), .val (.int (4 : Int32)), .val (.ref u), .val (.int ((1 : Int32) + (1 : Int32)))] [])) _
  show OGo p e below (T467.setTop (mkF m 8 #[.val (.ref ca), .val (.int (2 : Int32)), .val (.int (4 : Int32)), .val (.ref u), .val (.int (2 : Int32))] [])) _
  refine OGo.step (fun _ kk => XS.iload X467.here hx rfl (hb hby own_d_jdk_52_method_14_code_8) rfl kk) ?_
  show OGo p e below (T467.setTop (mkF m 10 #[.val (.ref ca), .val (.int (2 : Int32)), .val (.int (4 : Int32)), .val (.ref u), .val (.int (2 : Int32))] [(.int (2 : Int32))])) _
  refine OGo.step (fun _ kk => XS.iloadN X467.here hx rfl (hb hby own_d_jdk_52_method_14_code_10) rfl kk) ?_
  show OGo p e below (T467.setTop (mkF m 11 #[.val (.ref ca), .val (.int (2 : Int32)), .val (.int (4 : Int32)), .val (.ref u), .val (.int (2 : Int32))] [(.int (4 : Int32)), (.int (2 : Int32))])) _
  refine OGo.step (fun _ kk => XS.icmpNo X467.here hx rfl (hb hby own_d_jdk_52_method_14_code_11) rfl (tlt (by decide)).2.1 kk) ?_
  show OGo p e below (T467.setTop (mkF m 14 #[.val (.ref ca), .val (.int (2 : Int32)), .val (.int (4 : Int32)), .val (.ref u), .val (.int (2 : Int32))] [])) _
  refine OGo.step (fun _ kk => XS.aloadN X467.here hx rfl (hb hby own_d_jdk_52_method_14_code_14) rfl rfl kk) ?_
  show OGo p e below (T467.setTop (mkF m 15 #[.val (.ref ca), .val (.int (2 : Int32)), .val (.int (4 : Int32)), .val (.ref u), .val (.int (2 : Int32))] [(.ref u)])) _
  refine OGo.step (fun _ kk => XS.iload X467.here hx rfl (hb hby own_d_jdk_52_method_14_code_15) rfl kk) ?_
  show OGo p e below (T467.setTop (mkF m 17 #[.val (.ref ca), .val (.int (2 : Int32)), .val (.int (4 : Int32)), .val (.ref u), .val (.int (2 : Int32))] [(.int (2 : Int32)), (.ref u)])) _
  refine OGo.step (fun _ kk => XS.aloadN X467.here hx rfl (hb hby own_d_jdk_52_method_14_code_17) rfl rfl kk) ?_
  show OGo p e below (T467.setTop (mkF m 18 #[.val (.ref ca), .val (.int (2 : Int32)), .val (.int (4 : Int32)), .val (.ref u), .val (.int (2 : Int32))] [(.ref ca), (.int (2 : Int32)), (.ref u)])) _
  refine OGo.step (fun _ kk => XS.iloadN X467.here hx rfl (hb hby own_d_jdk_52_method_14_code_18) rfl kk) ?_
  show OGo p e below (T467.setTop (mkF m 19 #[.val (.ref ca), .val (.int (2 : Int32)), .val (.int (4 : Int32)), .val (.ref u), .val (.int (2 : Int32))] [(.int (2 : Int32)), (.ref ca), (.int (2 : Int32)), (.ref u)])) _
  have fc468 := (fc461.keep K467 (ninS ncu nin0))
  obtain ⟨cA469, A469, q469, S469, M469, H469, G469⟩ := id fc468
  refine OGo.step (fun _ kk => X467.caload hx (j := (2 : Int32)) (v := (.int c2_)) (A469).1 (State.isArrayOf_alike hZ.alike (A469).2.1) (A469).2.2 (inb_of S469 ⟨by decide, by decide⟩) (H469 2 (by rw [S469]; decide)) (g := (mkF m 19 #[.val (.ref ca), .val (.int (2 : Int32)), .val (.int (4 : Int32)), .val (.ref u), .val (.int (2 : Int32))] [(.int (2 : Int32)), (.ref ca), (.int (2 : Int32)), (.ref u)])) rfl rfl (hb hby own_d_jdk_52_method_14_code_19) _ kk) ?_
  show OGo p e below (T467.setTop (mkF m 20 #[.val (.ref ca), .val (.int (2 : Int32)), .val (.int (4 : Int32)), .val (.ref u), .val (.int (2 : Int32))] [(.int c2_), (.int (2 : Int32)), (.ref u)])) _
  have xt470 := (own_ext_keep xt463 K467 (allS gu all0))
  have fx471 := SA.ext xt470
  have fx472 := SH.ext xt470
  have fx473 := SL.ext xt470
  refine own_callS X467 hx hZ (y := (⟨"java/lang/StringUTF16", "putChar", "([BII)V"⟩ : MethodName)) hown (hw _ (List.mem_of_getElem? (i := 100) rfl)) (hw _ (List.mem_of_getElem? (i := 101) rfl)) (hw _ (List.mem_of_getElem? (i := 23) rfl)) (hw _ (List.mem_of_getElem? (i := 102) rfl)) (by decide) (W := 0) (own_putc2 l Z a0 hw [] u kb _ (((([(.int (0 : Int32)), (.int (0 : Int32)), (.int (0 : Int32)), (.int (0 : Int32)), (.int (0 : Int32)), (.int (0 : Int32)), (.int (0 : Int32)), (.int (0 : Int32))].set 0 (.int (StrChars.lo8 c0_))).set 1 (.int (StrChars.hi8 c0_))).set 2 (.int (StrChars.lo8 c1_))).set 3 (.int (StrChars.hi8 c1_))) c2_ T467.heap n0 sz467 fx471 fx472 fx473 gfu Va467 (Nat.le_of_ble_eq_true rfl) (by decide) (by decide)) rfl  (pc := 20) (Ls := #[.val (.ref ca), .val (.int (2 : Int32)), .val (.int (4 : Int32)), .val (.ref u), .val (.int (2 : Int32))]) (argsL := [(.ref u), (.int (2 : Int32)), (.int c2_)]) (rest := []) (by rw [hml]; rfl) (lenOf own_pd12 rfl) rfl (hb hby own_d_jdk_52_method_14_code_20) (by decide) (by decide) (by decide) (by decide) ?_
  intro v474 T474 L474 X474 hQ474
  obtain ⟨rfl, N474, K474, Va474⟩ := hQ474
  show OGo p e below (T474.setTop (mkF m 23 #[.val (.ref ca), .val (.int (2 : Int32)), .val (.int (4 : Int32)), .val (.ref u), .val (.int (2 : Int32))] [])) _
  have Nc474 := Fr.app Nc467 N474
  have sz474 : n0 ≤ T474.heap.size := Nat.le_trans sz467 K474.1
  refine OGo.step (fun _ kk => XS.iinc X474.here hx rfl (hb hby own_d_jdk_52_method_14_code_23) rfl (l' := #[.val (.ref ca), .val (.int ((2 : Int32) + (1 : Int32))), .val (.int (4 : Int32)), .val (.ref u), .val (.int (2 : Int32))]) rfl kk) ?_
  show OGo p e below (T474.setTop (mkF m 26 #[.val (.ref ca), .val (.int ((2 : Int32) + (1 : Int32))), .val (.int (4 : Int32)), .val (.ref u), .val (.int (2 : Int32))] [])) _
  refine OGo.step (fun _ kk => XS.iinc X474.here hx rfl (hb hby own_d_jdk_52_method_14_code_26) rfl (l' := #[.val (.ref ca), .val (.int ((2 : Int32) + (1 : Int32))), .val (.int (4 : Int32)), .val (.ref u), .val (.int ((2 : Int32) + (1 : Int32)))]) rfl kk) ?_
  show OGo p e below (T474.setTop (mkF m 29 #[.val (.ref ca), .val (.int ((2 : Int32) + (1 : Int32))), .val (.int (4 : Int32)), .val (.ref u), .val (.int ((2 : Int32) + (1 : Int32)))] [])) _
  refine OGo.step (fun _ kk => XS.goto X474.here hx rfl (pc0 := 29) (pc' := 8) rfl (hb hby own_d_jdk_52_method_14_code_29) (by decide) (by decide) kk) ?_
  show OGo p e below (T474.setTop (mkF m 8 #[.val (.ref ca), .val (.int ((2 : Int32) + (1 : Int32))), .val (.int (4 : Int32)), .val (.ref u), .val (.int ((2 : Int32) + (1 : Int32)))] [])) _
  show OGo p e below (T474.setTop (mkF m 8 #[.val (.ref ca), .val (.int (3 : Int32)), .val (.int (4 : Int32)), .val (.ref u), .val (.int (3 : Int32))] [])) _
  refine OGo.step (fun _ kk => XS.iload X474.here hx rfl (hb hby own_d_jdk_52_method_14_code_8) rfl kk) ?_
  show OGo p e below (T474.setTop (mkF m 10 #[.val (.ref ca), .val (.int (3 : Int32)), .val (.int (4 : Int32)), .val (.ref u), .val (.int (3 : Int32))] [(.int (3 : Int32))])) _
  refine OGo.step (fun _ kk => XS.iloadN X474.here hx rfl (hb hby own_d_jdk_52_method_14_code_10) rfl kk) ?_
  show OGo p e below (T474.setTop (mkF m 11 #[.val (.ref ca), .val (.int (3 : Int32)), .val (.int (4 : Int32)), .val (.ref u), .val (.int (3 : Int32))] [(.int (4 : Int32)), (.int (3 : Int32))])) _
  refine OGo.step (fun _ kk => XS.icmpNo X474.here hx rfl (hb hby own_d_jdk_52_method_14_code_11) rfl (tlt (by decide)).2.1 kk) ?_
  show OGo p e below (T474.setTop (mkF m 14 #[.val (.ref ca), .val (.int (3 : Int32)), .val (.int (4 : Int32)), .val (.ref u), .val (.int (3 : Int32))] [])) _
  refine OGo.step (fun _ kk => XS.aloadN X474.here hx rfl (hb hby own_d_jdk_52_method_14_code_14) rfl rfl kk) ?_
  show OGo p e below (T474.setTop (mkF m 15 #[.val (.ref ca), .val (.int (3 : Int32)), .val (.int (4 : Int32)), .val (.ref u), .val (.int (3 : Int32))] [(.ref u)])) _
  refine OGo.step (fun _ kk => XS.iload X474.here hx rfl (hb hby own_d_jdk_52_method_14_code_15) rfl kk) ?_
  show OGo p e below (T474.setTop (mkF m 17 #[.val (.ref ca), .val (.int (3 : Int32)), .val (.int (4 : Int32)), .val (.ref u), .val (.int (3 : Int32))] [(.int (3 : Int32)), (.ref u)])) _
  refine OGo.step (fun _ kk => XS.aloadN X474.here hx rfl (hb hby own_d_jdk_52_method_14_code_17) rfl rfl kk) ?_
  show OGo p e below (T474.setTop (mkF m 18 #[.val (.ref ca), .val (.int (3 : Int32)), .val (.int (4 : Int32)), .val (.ref u), .val (.int (3 : Int32))] [(.ref ca), (.int (3 : Int32)), (.ref u)])) _
  refine OGo.step (fun _ kk => XS.iloadN X474.here hx rfl (hb hby own_d_jdk_52_method_14_code_18) rfl kk) ?_
  show OGo p e below (T474.setTop (mkF m 19 #[.val (.ref ca), .val (.int (3 : Int32)), .val (.int (4 : Int32)), .val (.ref u), .val (.int (3 : Int32))] [(.int (3 : Int32)), (.ref ca), (.int (3 : Int32)), (.ref u)])) _
  have fc475 := (fc468.keep K474 (ninS ncu nin0))
  obtain ⟨cA476, A476, q476, S476, M476, H476, G476⟩ := id fc475
  refine OGo.step (fun _ kk => X474.caload hx (j := (3 : Int32)) (v := (.int c3_)) (A476).1 (State.isArrayOf_alike hZ.alike (A476).2.1) (A476).2.2 (inb_of S476 ⟨by decide, by decide⟩) (H476 3 (by rw [S476]; decide)) (g := (mkF m 19 #[.val (.ref ca), .val (.int (3 : Int32)), .val (.int (4 : Int32)), .val (.ref u), .val (.int (3 : Int32))] [(.int (3 : Int32)), (.ref ca), (.int (3 : Int32)), (.ref u)])) rfl rfl (hb hby own_d_jdk_52_method_14_code_19) _ kk) ?_
  show OGo p e below (T474.setTop (mkF m 20 #[.val (.ref ca), .val (.int (3 : Int32)), .val (.int (4 : Int32)), .val (.ref u), .val (.int (3 : Int32))] [(.int c3_), (.int (3 : Int32)), (.ref u)])) _
  have xt477 := (own_ext_keep xt470 K474 (allS gu all0))
  have fx478 := SA.ext xt477
  have fx479 := SH.ext xt477
  have fx480 := SL.ext xt477
  refine own_callS X474 hx hZ (y := (⟨"java/lang/StringUTF16", "putChar", "([BII)V"⟩ : MethodName)) hown (hw _ (List.mem_of_getElem? (i := 100) rfl)) (hw _ (List.mem_of_getElem? (i := 101) rfl)) (hw _ (List.mem_of_getElem? (i := 23) rfl)) (hw _ (List.mem_of_getElem? (i := 102) rfl)) (by decide) (W := 0) (own_putc3 l Z a0 hw [] u kb _ (((((([(.int (0 : Int32)), (.int (0 : Int32)), (.int (0 : Int32)), (.int (0 : Int32)), (.int (0 : Int32)), (.int (0 : Int32)), (.int (0 : Int32)), (.int (0 : Int32))].set 0 (.int (StrChars.lo8 c0_))).set 1 (.int (StrChars.hi8 c0_))).set 2 (.int (StrChars.lo8 c1_))).set 3 (.int (StrChars.hi8 c1_))).set 4 (.int (StrChars.lo8 c2_))).set 5 (.int (StrChars.hi8 c2_))) c3_ T474.heap n0 sz474 fx478 fx479 fx480 gfu Va474 (Nat.le_of_ble_eq_true rfl) (by decide) (by decide)) rfl  (pc := 20) (Ls := #[.val (.ref ca), .val (.int (3 : Int32)), .val (.int (4 : Int32)), .val (.ref u), .val (.int (3 : Int32))]) (argsL := [(.ref u), (.int (3 : Int32)), (.int c3_)]) (rest := []) (by rw [hml]; rfl) (lenOf own_pd12 rfl) rfl (hb hby own_d_jdk_52_method_14_code_20) (by decide) (by decide) (by decide) (by decide) ?_
  intro v481 T481 L481 X481 hQ481
  obtain ⟨rfl, N481, K481, Va481⟩ := hQ481
  show OGo p e below (T481.setTop (mkF m 23 #[.val (.ref ca), .val (.int (3 : Int32)), .val (.int (4 : Int32)), .val (.ref u), .val (.int (3 : Int32))] [])) _
  have Nc481 := Fr.app Nc474 N481
  have sz481 : n0 ≤ T481.heap.size := Nat.le_trans sz474 K481.1
  refine OGo.step (fun _ kk => XS.iinc X481.here hx rfl (hb hby own_d_jdk_52_method_14_code_23) rfl (l' := #[.val (.ref ca), .val (.int ((3 : Int32) + (1 : Int32))), .val (.int (4 : Int32)), .val (.ref u), .val (.int (3 : Int32))]) rfl kk) ?_
  show OGo p e below (T481.setTop (mkF m 26 #[.val (.ref ca), .val (.int ((3 : Int32) + (1 : Int32))), .val (.int (4 : Int32)), .val (.ref u), .val (.int (3 : Int32))] [])) _
  refine OGo.step (fun _ kk => XS.iinc X481.here hx rfl (hb hby own_d_jdk_52_method_14_code_26) rfl (l' := #[.val (.ref ca), .val (.int ((3 : Int32) + (1 : Int32))), .val (.int (4 : Int32)), .val (.ref u), .val (.int ((3 : Int32) + (1 : Int32)))]) rfl kk) ?_
  show OGo p e below (T481.setTop (mkF m 29 #[.val (.ref ca), .val (.int ((3 : Int32) + (1 : Int32))), .val (.int (4 : Int32)), .val (.ref u), .val (.int ((3 : Int32) + (1 : Int32)))] [])) _
  refine OGo.step (fun _ kk => XS.goto X481.here hx rfl (pc0 := 29) (pc' := 8) rfl (hb hby own_d_jdk_52_method_14_code_29) (by decide) (by decide) kk) ?_
  show OGo p e below (T481.setTop (mkF m 8 #[.val (.ref ca), .val (.int ((3 : Int32) + (1 : Int32))), .val (.int (4 : Int32)), .val (.ref u), .val (.int ((3 : Int32) + (1 : Int32)))] [])) _
  show OGo p e below (T481.setTop (mkF m 8 #[.val (.ref ca), .val (.int (4 : Int32)), .val (.int (4 : Int32)), .val (.ref u), .val (.int (4 : Int32))] [])) _
  refine OGo.step (fun _ kk => XS.iload X481.here hx rfl (hb hby own_d_jdk_52_method_14_code_8) rfl kk) ?_
  show OGo p e below (T481.setTop (mkF m 10 #[.val (.ref ca), .val (.int (4 : Int32)), .val (.int (4 : Int32)), .val (.ref u), .val (.int (4 : Int32))] [(.int (4 : Int32))])) _
  refine OGo.step (fun _ kk => XS.iloadN X481.here hx rfl (hb hby own_d_jdk_52_method_14_code_10) rfl kk) ?_
  show OGo p e below (T481.setTop (mkF m 11 #[.val (.ref ca), .val (.int (4 : Int32)), .val (.int (4 : Int32)), .val (.ref u), .val (.int (4 : Int32))] [(.int (4 : Int32)), (.int (4 : Int32))])) _
  refine OGo.step (fun _ kk => XS.icmpYes X481.here hx rfl (pc0 := 11) (pc' := 32) rfl (hb hby own_d_jdk_52_method_14_code_11) rfl (flt (by decide)).2.1 (by decide) (by decide) kk) ?_
  show OGo p e below (T481.setTop (mkF m 32 #[.val (.ref ca), .val (.int (4 : Int32)), .val (.int (4 : Int32)), .val (.ref u), .val (.int (4 : Int32))] [])) _
  refine OGo.step (fun _ kk => XS.aloadN X481.here hx rfl (hb hby own_d_jdk_52_method_14_code_32) rfl rfl kk) ?_
  show OGo p e below (T481.setTop (mkF m 33 #[.val (.ref ca), .val (.int (4 : Int32)), .val (.int (4 : Int32)), .val (.ref u), .val (.int (4 : Int32))] [(.ref u)])) _
  have xt482 := (own_ext_keep xt477 K481 (allS gu all0))
  exact own_ret X481 hx hlk hret rfl (Or.inr (Or.inr (Or.inr (Or.inr ⟨rfl, rfl, rfl⟩)))) (hb hby own_d_jdk_52_method_14_code_33) ⟨u, kb, rfl, Nc481, xt482, gu, Va481⟩ (by decide) (by decide)

set_option maxRecDepth 65536 in
set_option maxHeartbeats 40000000 in
theorem own_cmp5_4 (l : Launch) (Z : State) (a0 : Array Value) (hw : ∀ d ∈ tables_1, d.before a0 Z = true) (ws : List Jvm.Cond) (ca ba : Addr) (kc kb : ClassId) (c0_ c1_ c2_ c3_ : Int32) (h0 : Heap) (n0 : Nat) (Z0 : n0 ≤ h0.size) (Vc : Arv Z h0 ca kc .char (4 : Int32) [(.int c0_), (.int c1_), (.int c2_), (.int c3_)] (.int (0 : Int32))) (Vb : Arv Z h0 ba kb .byte (4 : Int32) [(.int (0 : Int32)), (.int (0 : Int32)), (.int (0 : Int32)), (.int (0 : Int32))] (.int (0 : Int32))) (gb : n0 ≤ ba) (ncb : ca ≠ ba) (hex : (255 : Int32) < c0_ ∨ (255 : Int32) < c1_ ∨ (255 : Int32) < c2_ ∨ (255 : Int32) < c3_) :
    OMet l Z (⟨"java/lang/StringUTF16", "compress", "([CI[BII)I"⟩ : MethodName) jdk_52_method_21_code 7 (some .int) ws ({ frames := 0, cells := 0, slots := 0, locals := 0 } : Room) #[(.ref ca), (.int (0 : Int32)), (.ref ba), (.int (0 : Int32)), (.int (4 : Int32))] h0 (fun v h L => ∃ k : Nat, v = some (.int (Int32.ofNat k)) ∧ k < 4 ∧ (255 : Int32) < ([c0_, c1_, c2_, c3_] : List Int32).getD k 0 ∧ Fr n0 L ∧ Keep h0 h [ba]) := by
  refine OMet.body (plainFor_of_name own_pn4) ?_
  intro p e s m below meth c s₁ hx hby hml hown hnm hret hlk hZ X0 e0
  refine OGo.step (fun _ kk => castTop (show entryFrame m #[(.ref ca), (.int (0 : Int32)), (.ref ba), (.int (0 : Int32)), (.int (4 : Int32))] 7 = (mkF m 0 #[.val (.ref ca), .val (.int (0 : Int32)), .val (.ref ba), .val (.int (0 : Int32)), .val (.int (4 : Int32)), .unset, .unset] []) from by first | (simp [entryFrame, mkF, argsToLocals, Value.category]; done) | rfl) kk) ?_
  show OGo p e below (s₁.setTop (mkF m 0 #[.val (.ref ca), .val (.int (0 : Int32)), .val (.ref ba), .val (.int (0 : Int32)), .val (.int (4 : Int32)), .unset, .unset] [])) _
  refine OGo.step (fun _ kk => XS.iconst X0.here hx rfl (hb hby own_d_jdk_52_method_21_code_0) kk) ?_
  show OGo p e below (s₁.setTop (mkF m 1 #[.val (.ref ca), .val (.int (0 : Int32)), .val (.ref ba), .val (.int (0 : Int32)), .val (.int (4 : Int32)), .unset, .unset] [(.int (0 : Int32))])) _
  refine OGo.step (fun _ kk => XS.istore X0.here hx rfl (hb hby own_d_jdk_52_method_21_code_1) rfl (l' := #[.val (.ref ca), .val (.int (0 : Int32)), .val (.ref ba), .val (.int (0 : Int32)), .val (.int (4 : Int32)), .val (.int (0 : Int32)), .unset]) rfl kk) ?_
  show OGo p e below (s₁.setTop (mkF m 3 #[.val (.ref ca), .val (.int (0 : Int32)), .val (.ref ba), .val (.int (0 : Int32)), .val (.int (4 : Int32)), .val (.int (0 : Int32)), .unset] [])) _
  refine OGo.step (fun _ kk => XS.iload X0.here hx rfl (hb hby own_d_jdk_52_method_21_code_3) rfl kk) ?_
  show OGo p e below (s₁.setTop (mkF m 5 #[.val (.ref ca), .val (.int (0 : Int32)), .val (.ref ba), .val (.int (0 : Int32)), .val (.int (4 : Int32)), .val (.int (0 : Int32)), .unset] [(.int (0 : Int32))])) _
  refine OGo.step (fun _ kk => XS.iload X0.here hx rfl (hb hby own_d_jdk_52_method_21_code_5) rfl kk) ?_
  show OGo p e below (s₁.setTop (mkF m 7 #[.val (.ref ca), .val (.int (0 : Int32)), .val (.ref ba), .val (.int (0 : Int32)), .val (.int (4 : Int32)), .val (.int (0 : Int32)), .unset] [(.int (4 : Int32)), (.int (0 : Int32))])) _
  refine OGo.step (fun _ kk => XS.icmpNo X0.here hx rfl (hb hby own_d_jdk_52_method_21_code_7) rfl (tlt (by decide)).2.1 kk) ?_
  show OGo p e below (s₁.setTop (mkF m 10 #[.val (.ref ca), .val (.int (0 : Int32)), .val (.ref ba), .val (.int (0 : Int32)), .val (.int (4 : Int32)), .val (.int (0 : Int32)), .unset] [])) _
  refine OGo.step (fun _ kk => XS.aloadN X0.here hx rfl (hb hby own_d_jdk_52_method_21_code_10) rfl rfl kk) ?_
  show OGo p e below (s₁.setTop (mkF m 11 #[.val (.ref ca), .val (.int (0 : Int32)), .val (.ref ba), .val (.int (0 : Int32)), .val (.int (4 : Int32)), .val (.int (0 : Int32)), .unset] [(.ref ca)])) _
  refine OGo.step (fun _ kk => XS.iloadN X0.here hx rfl (hb hby own_d_jdk_52_method_21_code_11) rfl kk) ?_
  show OGo p e below (s₁.setTop (mkF m 12 #[.val (.ref ca), .val (.int (0 : Int32)), .val (.ref ba), .val (.int (0 : Int32)), .val (.int (4 : Int32)), .val (.int (0 : Int32)), .unset] [(.int (0 : Int32)), (.ref ca)])) _
  obtain ⟨cA483, A483, q483, S483, M483, H483, G483⟩ := id Vc
  refine OGo.step (fun _ kk => X0.caload hx (j := (0 : Int32)) (v := (.int c0_)) (by rw [e0]; exact (A483).1) (State.isArrayOf_alike hZ.alike (A483).2.1) (A483).2.2 (inb_of S483 ⟨by decide, by decide⟩) (H483 0 (by rw [S483]; decide)) (g := (mkF m 12 #[.val (.ref ca), .val (.int (0 : Int32)), .val (.ref ba), .val (.int (0 : Int32)), .val (.int (4 : Int32)), .val (.int (0 : Int32)), .unset] [(.int (0 : Int32)), (.ref ca)])) rfl rfl (hb hby own_d_jdk_52_method_21_code_12) _ kk) ?_
  show OGo p e below (s₁.setTop (mkF m 13 #[.val (.ref ca), .val (.int (0 : Int32)), .val (.ref ba), .val (.int (0 : Int32)), .val (.int (4 : Int32)), .val (.int (0 : Int32)), .unset] [(.int c0_)])) _
  refine OGo.step (fun _ kk => XS.istore X0.here hx rfl (hb hby own_d_jdk_52_method_21_code_13) rfl (l' := #[.val (.ref ca), .val (.int (0 : Int32)), .val (.ref ba), .val (.int (0 : Int32)), .val (.int (4 : Int32)), .val (.int (0 : Int32)), .val (.int c0_)]) rfl kk) ?_
  show OGo p e below (s₁.setTop (mkF m 15 #[.val (.ref ca), .val (.int (0 : Int32)), .val (.ref ba), .val (.int (0 : Int32)), .val (.int (4 : Int32)), .val (.int (0 : Int32)), .val (.int c0_)] [])) _
  refine OGo.step (fun _ kk => XS.iload X0.here hx rfl (hb hby own_d_jdk_52_method_21_code_15) rfl kk) ?_
  show OGo p e below (s₁.setTop (mkF m 17 #[.val (.ref ca), .val (.int (0 : Int32)), .val (.ref ba), .val (.int (0 : Int32)), .val (.int (4 : Int32)), .val (.int (0 : Int32)), .val (.int c0_)] [(.int c0_)])) _
  refine OGo.step (fun _ kk => XS.sipush X0.here hx rfl (hb hby own_d_jdk_52_method_21_code_17) kk) ?_
  show OGo p e below (s₁.setTop (mkF m 20 #[.val (.ref ca), .val (.int (0 : Int32)), .val (.ref ba), .val (.int (0 : Int32)), .val (.int (4 : Int32)), .val (.int (0 : Int32)), .val (.int c0_)] [(.int (255 : Int32)), (.int c0_)])) _
  by_cases hq0 : (255 : Int32) < c0_
  · refine OGo.step (fun _ kk => XS.icmpNo X0.here hx rfl (hb hby own_d_jdk_52_method_21_code_20) rfl (tlt hq0).2.2.2 kk) ?_
    show OGo p e below (s₁.setTop (mkF m 23 #[.val (.ref ca), .val (.int (0 : Int32)), .val (.ref ba), .val (.int (0 : Int32)), .val (.int (4 : Int32)), .val (.int (0 : Int32)), .val (.int c0_)] [])) _
    refine OGo.step (fun _ kk => XS.iload X0.here hx rfl (hb hby own_d_jdk_52_method_21_code_23) rfl kk) ?_
    show OGo p e below (s₁.setTop (mkF m 25 #[.val (.ref ca), .val (.int (0 : Int32)), .val (.ref ba), .val (.int (0 : Int32)), .val (.int (4 : Int32)), .val (.int (0 : Int32)), .val (.int c0_)] [(.int (0 : Int32))])) _
    have HK := (Keep.refl h0 [ba])
    exact own_ret X0 hx hlk hret rfl (Or.inl ⟨rfl, Or.inl rfl, _, rfl⟩) (hb hby own_d_jdk_52_method_21_code_25) (by rw [e0]; exact ⟨0, rfl, by decide, hq0, (Fr.nil n0), HK⟩) (by decide) (by decide)
  · skip
    refine OGo.step (fun _ kk => XS.icmpYes X0.here hx rfl (pc0 := 20) (pc' := 26) rfl (hb hby own_d_jdk_52_method_21_code_20) rfl (flt hq0).2.2.2 (by decide) (by decide) kk) ?_
    show OGo p e below (s₁.setTop (mkF m 26 #[.val (.ref ca), .val (.int (0 : Int32)), .val (.ref ba), .val (.int (0 : Int32)), .val (.int (4 : Int32)), .val (.int (0 : Int32)), .val (.int c0_)] [])) _
    refine OGo.step (fun _ kk => XS.aloadN X0.here hx rfl (hb hby own_d_jdk_52_method_21_code_26) rfl rfl kk) ?_
    show OGo p e below (s₁.setTop (mkF m 27 #[.val (.ref ca), .val (.int (0 : Int32)), .val (.ref ba), .val (.int (0 : Int32)), .val (.int (4 : Int32)), .val (.int (0 : Int32)), .val (.int c0_)] [(.ref ba)])) _
    refine OGo.step (fun _ kk => XS.iloadN X0.here hx rfl (hb hby own_d_jdk_52_method_21_code_27) rfl kk) ?_
    show OGo p e below (s₁.setTop (mkF m 28 #[.val (.ref ca), .val (.int (0 : Int32)), .val (.ref ba), .val (.int (0 : Int32)), .val (.int (4 : Int32)), .val (.int (0 : Int32)), .val (.int c0_)] [(.int (0 : Int32)), (.ref ba)])) _
    refine OGo.step (fun _ kk => XS.iload X0.here hx rfl (hb hby own_d_jdk_52_method_21_code_28) rfl kk) ?_
    show OGo p e below (s₁.setTop (mkF m 30 #[.val (.ref ca), .val (.int (0 : Int32)), .val (.ref ba), .val (.int (0 : Int32)), .val (.int (4 : Int32)), .val (.int (0 : Int32)), .val (.int c0_)] [(.int c0_), (.int (0 : Int32)), (.ref ba)])) _
    refine OGo.step (fun _ kk => XS.i2b X0.here hx rfl (hb hby own_d_jdk_52_method_21_code_30) rfl kk) ?_
    show OGo p e below (s₁.setTop (mkF m 31 #[.val (.ref ca), .val (.int (0 : Int32)), .val (.ref ba), .val (.int (0 : Int32)), .val (.int (4 : Int32)), .val (.int (0 : Int32)), .val (.int c0_)] [(.int (c0_.toInt8.toInt32)), (.int (0 : Int32)), (.ref ba)])) _
    obtain ⟨cA484, A484, q484, S484, M484, H484, G484⟩ := id Vb
    obtain ⟨T485, h485, X485, e485, W485, st485⟩ := stB X0 hx hZ e0 A484 (j := (0 : Int32)) (inb_of S484 ⟨by decide, by decide⟩) (g := (mkF m 31 #[.val (.ref ca), .val (.int (0 : Int32)), .val (.ref ba), .val (.int (0 : Int32)), .val (.int (4 : Int32)), .val (.int (0 : Int32)), .val (.int c0_)] [(.int (c0_.toInt8.toInt32)), (.int (0 : Int32)), (.ref ba)])) rfl rfl (hb hby own_d_jdk_52_method_21_code_31)
    refine OGo.step st485 ?_
    show OGo p e below (T485.setTop (mkF m 32 #[.val (.ref ca), .val (.int (0 : Int32)), .val (.ref ba), .val (.int (0 : Int32)), .val (.int (4 : Int32)), .val (.int (0 : Int32)), .val (.int c0_)] [])) _
    have Va484 : Arv Z h485 ba kb .byte (4 : Int32) [(.int (nar .byte (c0_.toInt8.toInt32))), (.int (0 : Int32)), (.int (0 : Int32)), (.int (0 : Int32))] (.int (0 : Int32)) := Arv.set A484 q484 S484 M484 H484 G484 (fits_nar_byte _) W485 0 rfl (Nat.le_of_ble_eq_true rfl)
    have Nf485 := Fr.snoc X485 (Fr.nil n0) gb
    have sz485 : n0 ≤ h485.size := by rw [W485.size]; exact Z0
    refine OGo.step (fun _ kk => XS.iinc X485.here hx rfl (hb hby own_d_jdk_52_method_21_code_32) rfl (l' := #[.val (.ref ca), .val (.int ((0 : Int32) + (1 : Int32))), .val (.ref ba), .val (.int (0 : Int32)), .val (.int (4 : Int32)), .val (.int (0 : Int32)), .val (.int c0_)]) rfl kk) ?_
    show OGo p e below (T485.setTop (mkF m 35 #[.val (.ref ca), .val (.int ((0 : Int32) + (1 : Int32))), .val (.ref ba), .val (.int (0 : Int32)), .val (.int (4 : Int32)), .val (.int (0 : Int32)), .val (.int c0_)] [])) _
    refine OGo.step (fun _ kk => XS.iinc X485.here hx rfl (hb hby own_d_jdk_52_method_21_code_35) rfl (l' := #[.val (.ref ca), .val (.int ((0 : Int32) + (1 : Int32))), .val (.ref ba), .val (.int ((0 : Int32) + (1 : Int32))), .val (.int (4 : Int32)), .val (.int (0 : Int32)), .val (.int c0_)]) rfl kk) ?_
    show OGo p e below (T485.setTop (mkF m 38 #[.val (.ref ca), .val (.int ((0 : Int32) + (1 : Int32))), .val (.ref ba), .val (.int ((0 : Int32) + (1 : Int32))), .val (.int (4 : Int32)), .val (.int (0 : Int32)), .val (.int c0_)] [])) _
    refine OGo.step (fun _ kk => XS.iinc X485.here hx rfl (hb hby own_d_jdk_52_method_21_code_38) rfl (l' := #[.val (.ref ca), .val (.int ((0 : Int32) + (1 : Int32))), .val (.ref ba), .val (.int ((0 : Int32) + (1 : Int32))), .val (.int (4 : Int32)), .val (.int ((0 : Int32) + (1 : Int32))), .val (.int c0_)]) rfl kk) ?_
    show OGo p e below (T485.setTop (mkF m 41 #[.val (.ref ca), .val (.int ((0 : Int32) + (1 : Int32))), .val (.ref ba), .val (.int ((0 : Int32) + (1 : Int32))), .val (.int (4 : Int32)), .val (.int ((0 : Int32) + (1 : Int32))), .val (.int c0_)] [])) _
    refine OGo.step (fun _ kk => XS.goto X485.here hx rfl (pc0 := 41) (pc' := 3) rfl (hb hby own_d_jdk_52_method_21_code_41) (by decide) (by decide) kk) ?_
    show OGo p e below (T485.setTop (mkF m 3 #[.val (.ref ca), .val (.int ((0 : Int32) + (1 : Int32))), .val (.ref ba), .val (.int ((0 : Int32) + (1 : Int32))), .val (.int (4 : Int32)), .val (.int ((0 : Int32) + (1 : Int32))), .val (.int c0_)] [])) _
    show OGo p e below (T485.setTop (mkF m 3 #[.val (.ref ca), .val (.int (1 : Int32)), .val (.ref ba), .val (.int (1 : Int32)), .val (.int (4 : Int32)), .val (.int (1 : Int32)), .val (.int c0_)] [])) _
    refine OGo.step (fun _ kk => XS.iload X485.here hx rfl (hb hby own_d_jdk_52_method_21_code_3) rfl kk) ?_
    show OGo p e below (T485.setTop (mkF m 5 #[.val (.ref ca), .val (.int (1 : Int32)), .val (.ref ba), .val (.int (1 : Int32)), .val (.int (4 : Int32)), .val (.int (1 : Int32)), .val (.int c0_)] [(.int (1 : Int32))])) _
    refine OGo.step (fun _ kk => XS.iload X485.here hx rfl (hb hby own_d_jdk_52_method_21_code_5) rfl kk) ?_
    show OGo p e below (T485.setTop (mkF m 7 #[.val (.ref ca), .val (.int (1 : Int32)), .val (.ref ba), .val (.int (1 : Int32)), .val (.int (4 : Int32)), .val (.int (1 : Int32)), .val (.int c0_)] [(.int (4 : Int32)), (.int (1 : Int32))])) _
    refine OGo.step (fun _ kk => XS.icmpNo X485.here hx rfl (hb hby own_d_jdk_52_method_21_code_7) rfl (tlt (by decide)).2.1 kk) ?_
    show OGo p e below (T485.setTop (mkF m 10 #[.val (.ref ca), .val (.int (1 : Int32)), .val (.ref ba), .val (.int (1 : Int32)), .val (.int (4 : Int32)), .val (.int (1 : Int32)), .val (.int c0_)] [])) _
    refine OGo.step (fun _ kk => XS.aloadN X485.here hx rfl (hb hby own_d_jdk_52_method_21_code_10) rfl rfl kk) ?_
    show OGo p e below (T485.setTop (mkF m 11 #[.val (.ref ca), .val (.int (1 : Int32)), .val (.ref ba), .val (.int (1 : Int32)), .val (.int (4 : Int32)), .val (.int (1 : Int32)), .val (.int c0_)] [(.ref ca)])) _
    refine OGo.step (fun _ kk => XS.iloadN X485.here hx rfl (hb hby own_d_jdk_52_method_21_code_11) rfl kk) ?_
    show OGo p e below (T485.setTop (mkF m 12 #[.val (.ref ca), .val (.int (1 : Int32)), .val (.ref ba), .val (.int (1 : Int32)), .val (.int (4 : Int32)), .val (.int (1 : Int32)), .val (.int c0_)] [(.int (1 : Int32)), (.ref ca)])) _
    have fc486 := (Vc.other W485 ncb)
    obtain ⟨cA487, A487, q487, S487, M487, H487, G487⟩ := id fc486
    refine OGo.step (fun _ kk => X485.caload hx (j := (1 : Int32)) (v := (.int c1_)) (by rw [e485]; exact (A487).1) (State.isArrayOf_alike hZ.alike (A487).2.1) (A487).2.2 (inb_of S487 ⟨by decide, by decide⟩) (H487 1 (by rw [S487]; decide)) (g := (mkF m 12 #[.val (.ref ca), .val (.int (1 : Int32)), .val (.ref ba), .val (.int (1 : Int32)), .val (.int (4 : Int32)), .val (.int (1 : Int32)), .val (.int c0_)] [(.int (1 : Int32)), (.ref ca)])) rfl rfl (hb hby own_d_jdk_52_method_21_code_12) _ kk) ?_
    show OGo p e below (T485.setTop (mkF m 13 #[.val (.ref ca), .val (.int (1 : Int32)), .val (.ref ba), .val (.int (1 : Int32)), .val (.int (4 : Int32)), .val (.int (1 : Int32)), .val (.int c0_)] [(.int c1_)])) _
    refine OGo.step (fun _ kk => XS.istore X485.here hx rfl (hb hby own_d_jdk_52_method_21_code_13) rfl (l' := #[.val (.ref ca), .val (.int (1 : Int32)), .val (.ref ba), .val (.int (1 : Int32)), .val (.int (4 : Int32)), .val (.int (1 : Int32)), .val (.int c1_)]) rfl kk) ?_
    show OGo p e below (T485.setTop (mkF m 15 #[.val (.ref ca), .val (.int (1 : Int32)), .val (.ref ba), .val (.int (1 : Int32)), .val (.int (4 : Int32)), .val (.int (1 : Int32)), .val (.int c1_)] [])) _
    refine OGo.step (fun _ kk => XS.iload X485.here hx rfl (hb hby own_d_jdk_52_method_21_code_15) rfl kk) ?_
    show OGo p e below (T485.setTop (mkF m 17 #[.val (.ref ca), .val (.int (1 : Int32)), .val (.ref ba), .val (.int (1 : Int32)), .val (.int (4 : Int32)), .val (.int (1 : Int32)), .val (.int c1_)] [(.int c1_)])) _
    refine OGo.step (fun _ kk => XS.sipush X485.here hx rfl (hb hby own_d_jdk_52_method_21_code_17) kk) ?_
    show OGo p e below (T485.setTop (mkF m 20 #[.val (.ref ca), .val (.int (1 : Int32)), .val (.ref ba), .val (.int (1 : Int32)), .val (.int (4 : Int32)), .val (.int (1 : Int32)), .val (.int c1_)] [(.int (255 : Int32)), (.int c1_)])) _
    by_cases hq1 : (255 : Int32) < c1_
    · refine OGo.step (fun _ kk => XS.icmpNo X485.here hx rfl (hb hby own_d_jdk_52_method_21_code_20) rfl (tlt hq1).2.2.2 kk) ?_
      show OGo p e below (T485.setTop (mkF m 23 #[.val (.ref ca), .val (.int (1 : Int32)), .val (.ref ba), .val (.int (1 : Int32)), .val (.int (4 : Int32)), .val (.int (1 : Int32)), .val (.int c1_)] [])) _
      refine OGo.step (fun _ kk => XS.iload X485.here hx rfl (hb hby own_d_jdk_52_method_21_code_23) rfl kk) ?_
      show OGo p e below (T485.setTop (mkF m 25 #[.val (.ref ca), .val (.int (1 : Int32)), .val (.ref ba), .val (.int (1 : Int32)), .val (.int (4 : Int32)), .val (.int (1 : Int32)), .val (.int c1_)] [(.int (1 : Int32))])) _
      have HK := ((Keep.refl h0 [ba]).wr W485 (Or.inl (List.mem_of_getElem? (i := 0) rfl)))
      exact own_ret X485 hx hlk hret rfl (Or.inl ⟨rfl, Or.inl rfl, _, rfl⟩) (hb hby own_d_jdk_52_method_21_code_25) (by rw [e485]; exact ⟨1, rfl, by decide, hq1, Nf485, HK⟩) (by decide) (by decide)
    · skip
      refine OGo.step (fun _ kk => XS.icmpYes X485.here hx rfl (pc0 := 20) (pc' := 26) rfl (hb hby own_d_jdk_52_method_21_code_20) rfl (flt hq1).2.2.2 (by decide) (by decide) kk) ?_
      show OGo p e below (T485.setTop (mkF m 26 #[.val (.ref ca), .val (.int (1 : Int32)), .val (.ref ba), .val (.int (1 : Int32)), .val (.int (4 : Int32)), .val (.int (1 : Int32)), .val (.int c1_)] [])) _
      refine OGo.step (fun _ kk => XS.aloadN X485.here hx rfl (hb hby own_d_jdk_52_method_21_code_26) rfl rfl kk) ?_
      show OGo p e below (T485.setTop (mkF m 27 #[.val (.ref ca), .val (.int (1 : Int32)), .val (.ref ba), .val (.int (1 : Int32)), .val (.int (4 : Int32)), .val (.int (1 : Int32)), .val (.int c1_)] [(.ref ba)])) _
      refine OGo.step (fun _ kk => XS.iloadN X485.here hx rfl (hb hby own_d_jdk_52_method_21_code_27) rfl kk) ?_
      show OGo p e below (T485.setTop (mkF m 28 #[.val (.ref ca), .val (.int (1 : Int32)), .val (.ref ba), .val (.int (1 : Int32)), .val (.int (4 : Int32)), .val (.int (1 : Int32)), .val (.int c1_)] [(.int (1 : Int32)), (.ref ba)])) _
      refine OGo.step (fun _ kk => XS.iload X485.here hx rfl (hb hby own_d_jdk_52_method_21_code_28) rfl kk) ?_
      show OGo p e below (T485.setTop (mkF m 30 #[.val (.ref ca), .val (.int (1 : Int32)), .val (.ref ba), .val (.int (1 : Int32)), .val (.int (4 : Int32)), .val (.int (1 : Int32)), .val (.int c1_)] [(.int c1_), (.int (1 : Int32)), (.ref ba)])) _
      refine OGo.step (fun _ kk => XS.i2b X485.here hx rfl (hb hby own_d_jdk_52_method_21_code_30) rfl kk) ?_
      show OGo p e below (T485.setTop (mkF m 31 #[.val (.ref ca), .val (.int (1 : Int32)), .val (.ref ba), .val (.int (1 : Int32)), .val (.int (4 : Int32)), .val (.int (1 : Int32)), .val (.int c1_)] [(.int (c1_.toInt8.toInt32)), (.int (1 : Int32)), (.ref ba)])) _
      obtain ⟨cA488, A488, q488, S488, M488, H488, G488⟩ := id Va484
      obtain ⟨T489, h489, X489, e489, W489, st489⟩ := stB X485 hx hZ e485 A488 (j := (1 : Int32)) (inb_of S488 ⟨by decide, by decide⟩) (g := (mkF m 31 #[.val (.ref ca), .val (.int (1 : Int32)), .val (.ref ba), .val (.int (1 : Int32)), .val (.int (4 : Int32)), .val (.int (1 : Int32)), .val (.int c1_)] [(.int (c1_.toInt8.toInt32)), (.int (1 : Int32)), (.ref ba)])) rfl rfl (hb hby own_d_jdk_52_method_21_code_31)
      refine OGo.step st489 ?_
      show OGo p e below (T489.setTop (mkF m 32 #[.val (.ref ca), .val (.int (1 : Int32)), .val (.ref ba), .val (.int (1 : Int32)), .val (.int (4 : Int32)), .val (.int (1 : Int32)), .val (.int c1_)] [])) _
      have Va488 : Arv Z h489 ba kb .byte (4 : Int32) [(.int (nar .byte (c0_.toInt8.toInt32))), (.int (nar .byte (c1_.toInt8.toInt32))), (.int (0 : Int32)), (.int (0 : Int32))] (.int (0 : Int32)) := Arv.set A488 q488 S488 M488 H488 G488 (fits_nar_byte _) W489 1 rfl (Nat.le_of_ble_eq_true rfl)
      have Nf489 := Fr.snoc X489 Nf485 gb
      have sz489 : n0 ≤ h489.size := by rw [W489.size]; exact sz485
      refine OGo.step (fun _ kk => XS.iinc X489.here hx rfl (hb hby own_d_jdk_52_method_21_code_32) rfl (l' := #[.val (.ref ca), .val (.int ((1 : Int32) + (1 : Int32))), .val (.ref ba), .val (.int (1 : Int32)), .val (.int (4 : Int32)), .val (.int (1 : Int32)), .val (.int c1_)]) rfl kk) ?_
      show OGo p e below (T489.setTop (mkF m 35 #[.val (.ref ca), .val (.int ((1 : Int32) + (1 : Int32))), .val (.ref ba), .val (.int (1 : Int32)), .val (.int (4 : Int32)), .val (.int (1 : Int32)), .val (.int c1_)] [])) _
      refine OGo.step (fun _ kk => XS.iinc X489.here hx rfl (hb hby own_d_jdk_52_method_21_code_35) rfl (l' := #[.val (.ref ca), .val (.int ((1 : Int32) + (1 : Int32))), .val (.ref ba), .val (.int ((1 : Int32) + (1 : Int32))), .val (.int (4 : Int32)), .val (.int (1 : Int32)), .val (.int c1_)]) rfl kk) ?_
      show OGo p e below (T489.setTop (mkF m 38 #[.val (.ref ca), .val (.int ((1 : Int32) + (1 : Int32))), .val (.ref ba), .val (.int ((1 : Int32) + (1 : Int32))), .val (.int (4 : Int32)), .val (.int (1 : Int32)), .val (.int c1_)] [])) _
      refine OGo.step (fun _ kk => XS.iinc X489.here hx rfl (hb hby own_d_jdk_52_method_21_code_38) rfl (l' := #[.val (.ref ca), .val (.int ((1 : Int32) + (1 : Int32))), .val (.ref ba), .val (.int ((1 : Int32) + (1 : Int32))), .val (.int (4 : Int32)), .val (.int ((1 : Int32) + (1 : Int32))), .val (.int c1_)]) rfl kk) ?_
      show OGo p e below (T489.setTop (mkF m 41 #[.val (.ref ca), .val (.int ((1 : Int32) + (1 : Int32))), .val (.ref ba), .val (.int ((1 : Int32) + (1 : Int32))), .val (.int (4 : Int32)), .val (.int ((1 : Int32) + (1 : Int32))), .val (.int c1_)] [])) _
      refine OGo.step (fun _ kk => XS.goto X489.here hx rfl (pc0 := 41) (pc' := 3) rfl (hb hby own_d_jdk_52_method_21_code_41) (by decide) (by decide) kk) ?_
      show OGo p e below (T489.setTop (mkF m 3 #[.val (.ref ca), .val (.int ((1 : Int32) + (1 : Int32))), .val (.ref ba), .val (.int ((1 : Int32) + (1 : Int32))), .val (.int (4 : Int32)), .val (.int ((1 : Int32) + (1 : Int32))), .val (.int c1_)] [])) _
      show OGo p e below (T489.setTop (mkF m 3 #[.val (.ref ca), .val (.int (2 : Int32)), .val (.ref ba), .val (.int (2 : Int32)), .val (.int (4 : Int32)), .val (.int (2 : Int32)), .val (.int c1_)] [])) _
      refine OGo.step (fun _ kk => XS.iload X489.here hx rfl (hb hby own_d_jdk_52_method_21_code_3) rfl kk) ?_
      show OGo p e below (T489.setTop (mkF m 5 #[.val (.ref ca), .val (.int (2 : Int32)), .val (.ref ba), .val (.int (2 : Int32)), .val (.int (4 : Int32)), .val (.int (2 : Int32)), .val (.int c1_)] [(.int (2 : Int32))])) _
      refine OGo.step (fun _ kk => XS.iload X489.here hx rfl (hb hby own_d_jdk_52_method_21_code_5) rfl kk) ?_
      show OGo p e below (T489.setTop (mkF m 7 #[.val (.ref ca), .val (.int (2 : Int32)), .val (.ref ba), .val (.int (2 : Int32)), .val (.int (4 : Int32)), .val (.int (2 : Int32)), .val (.int c1_)] [(.int (4 : Int32)), (.int (2 : Int32))])) _
      refine OGo.step (fun _ kk => XS.icmpNo X489.here hx rfl (hb hby own_d_jdk_52_method_21_code_7) rfl (tlt (by decide)).2.1 kk) ?_
      show OGo p e below (T489.setTop (mkF m 10 #[.val (.ref ca), .val (.int (2 : Int32)), .val (.ref ba), .val (.int (2 : Int32)), .val (.int (4 : Int32)), .val (.int (2 : Int32)), .val (.int c1_)] [])) _
      refine OGo.step (fun _ kk => XS.aloadN X489.here hx rfl (hb hby own_d_jdk_52_method_21_code_10) rfl rfl kk) ?_
      show OGo p e below (T489.setTop (mkF m 11 #[.val (.ref ca), .val (.int (2 : Int32)), .val (.ref ba), .val (.int (2 : Int32)), .val (.int (4 : Int32)), .val (.int (2 : Int32)), .val (.int c1_)] [(.ref ca)])) _
      refine OGo.step (fun _ kk => XS.iloadN X489.here hx rfl (hb hby own_d_jdk_52_method_21_code_11) rfl kk) ?_
      show OGo p e below (T489.setTop (mkF m 12 #[.val (.ref ca), .val (.int (2 : Int32)), .val (.ref ba), .val (.int (2 : Int32)), .val (.int (4 : Int32)), .val (.int (2 : Int32)), .val (.int c1_)] [(.int (2 : Int32)), (.ref ca)])) _
      have fc490 := (fc486.other W489 ncb)
      obtain ⟨cA491, A491, q491, S491, M491, H491, G491⟩ := id fc490
      refine OGo.step (fun _ kk => X489.caload hx (j := (2 : Int32)) (v := (.int c2_)) (by rw [e489]; exact (A491).1) (State.isArrayOf_alike hZ.alike (A491).2.1) (A491).2.2 (inb_of S491 ⟨by decide, by decide⟩) (H491 2 (by rw [S491]; decide)) (g := (mkF m 12 #[.val (.ref ca), .val (.int (2 : Int32)), .val (.ref ba), .val (.int (2 : Int32)), .val (.int (4 : Int32)), .val (.int (2 : Int32)), .val (.int c1_)] [(.int (2 : Int32)), (.ref ca)])) rfl rfl (hb hby own_d_jdk_52_method_21_code_12) _ kk) ?_
      show OGo p e below (T489.setTop (mkF m 13 #[.val (.ref ca), .val (.int (2 : Int32)), .val (.ref ba), .val (.int (2 : Int32)), .val (.int (4 : Int32)), .val (.int (2 : Int32)), .val (.int c1_)] [(.int c2_)])) _
      refine OGo.step (fun _ kk => XS.istore X489.here hx rfl (hb hby own_d_jdk_52_method_21_code_13) rfl (l' := #[.val (.ref ca), .val (.int (2 : Int32)), .val (.ref ba), .val (.int (2 : Int32)), .val (.int (4 : Int32)), .val (.int (2 : Int32)), .val (.int c2_)]) rfl kk) ?_
      show OGo p e below (T489.setTop (mkF m 15 #[.val (.ref ca), .val (.int (2 : Int32)), .val (.ref ba), .val (.int (2 : Int32)), .val (.int (4 : Int32)), .val (.int (2 : Int32)), .val (.int c2_)] [])) _
      refine OGo.step (fun _ kk => XS.iload X489.here hx rfl (hb hby own_d_jdk_52_method_21_code_15) rfl kk) ?_
      show OGo p e below (T489.setTop (mkF m 17 #[.val (.ref ca), .val (.int (2 : Int32)), .val (.ref ba), .val (.int (2 : Int32)), .val (.int (4 : Int32)), .val (.int (2 : Int32)), .val (.int c2_)] [(.int c2_)])) _
      refine OGo.step (fun _ kk => XS.sipush X489.here hx rfl (hb hby own_d_jdk_52_method_21_code_17) kk) ?_
      show OGo p e below (T489.setTop (mkF m 20 #[.val (.ref ca), .val (.int (2 : Int32)), .val (.ref ba), .val (.int (2 : Int32)), .val (.int (4 : Int32)), .val (.int (2 : Int32)), .val (.int c2_)] [(.int (255 : Int32)), (.int c2_)])) _
      by_cases hq2 : (255 : Int32) < c2_
      · refine OGo.step (fun _ kk => XS.icmpNo X489.here hx rfl (hb hby own_d_jdk_52_method_21_code_20) rfl (tlt hq2).2.2.2 kk) ?_
        show OGo p e below (T489.setTop (mkF m 23 #[.val (.ref ca), .val (.int (2 : Int32)), .val (.ref ba), .val (.int (2 : Int32)), .val (.int (4 : Int32)), .val (.int (2 : Int32)), .val (.int c2_)] [])) _
        refine OGo.step (fun _ kk => XS.iload X489.here hx rfl (hb hby own_d_jdk_52_method_21_code_23) rfl kk) ?_
        show OGo p e below (T489.setTop (mkF m 25 #[.val (.ref ca), .val (.int (2 : Int32)), .val (.ref ba), .val (.int (2 : Int32)), .val (.int (4 : Int32)), .val (.int (2 : Int32)), .val (.int c2_)] [(.int (2 : Int32))])) _
        have HK := (((Keep.refl h0 [ba]).wr W485 (Or.inl (List.mem_of_getElem? (i := 0) rfl))).wr W489 (Or.inl (List.mem_of_getElem? (i := 0) rfl)))
        exact own_ret X489 hx hlk hret rfl (Or.inl ⟨rfl, Or.inl rfl, _, rfl⟩) (hb hby own_d_jdk_52_method_21_code_25) (by rw [e489]; exact ⟨2, rfl, by decide, hq2, Nf489, HK⟩) (by decide) (by decide)
      · skip
        refine OGo.step (fun _ kk => XS.icmpYes X489.here hx rfl (pc0 := 20) (pc' := 26) rfl (hb hby own_d_jdk_52_method_21_code_20) rfl (flt hq2).2.2.2 (by decide) (by decide) kk) ?_
        show OGo p e below (T489.setTop (mkF m 26 #[.val (.ref ca), .val (.int (2 : Int32)), .val (.ref ba), .val (.int (2 : Int32)), .val (.int (4 : Int32)), .val (.int (2 : Int32)), .val (.int c2_)] [])) _
        refine OGo.step (fun _ kk => XS.aloadN X489.here hx rfl (hb hby own_d_jdk_52_method_21_code_26) rfl rfl kk) ?_
        show OGo p e below (T489.setTop (mkF m 27 #[.val (.ref ca), .val (.int (2 : Int32)), .val (.ref ba), .val (.int (2 : Int32)), .val (.int (4 : Int32)), .val (.int (2 : Int32)), .val (.int c2_)] [(.ref ba)])) _
        refine OGo.step (fun _ kk => XS.iloadN X489.here hx rfl (hb hby own_d_jdk_52_method_21_code_27) rfl kk) ?_
        show OGo p e below (T489.setTop (mkF m 28 #[.val (.ref ca), .val (.int (2 : Int32)), .val (.ref ba), .val (.int (2 : Int32)), .val (.int (4 : Int32)), .val (.int (2 : Int32)), .val (.int c2_)] [(.int (2 : Int32)), (.ref ba)])) _
        refine OGo.step (fun _ kk => XS.iload X489.here hx rfl (hb hby own_d_jdk_52_method_21_code_28) rfl kk) ?_
        show OGo p e below (T489.setTop (mkF m 30 #[.val (.ref ca), .val (.int (2 : Int32)), .val (.ref ba), .val (.int (2 : Int32)), .val (.int (4 : Int32)), .val (.int (2 : Int32)), .val (.int c2_)] [(.int c2_), (.int (2 : Int32)), (.ref ba)])) _
        refine OGo.step (fun _ kk => XS.i2b X489.here hx rfl (hb hby own_d_jdk_52_method_21_code_30) rfl kk) ?_
        show OGo p e below (T489.setTop (mkF m 31 #[.val (.ref ca), .val (.int (2 : Int32)), .val (.ref ba), .val (.int (2 : Int32)), .val (.int (4 : Int32)), .val (.int (2 : Int32)), .val (.int c2_)] [(.int (c2_.toInt8.toInt32)), (.int (2 : Int32)), (.ref ba)])) _
        obtain ⟨cA492, A492, q492, S492, M492, H492, G492⟩ := id Va488
        obtain ⟨T493, h493, X493, e493, W493, st493⟩ := stB X489 hx hZ e489 A492 (j := (2 : Int32)) (inb_of S492 ⟨by decide, by decide⟩) (g := (mkF m 31 #[.val (.ref ca), .val (.int (2 : Int32)), .val (.ref ba), .val (.int (2 : Int32)), .val (.int (4 : Int32)), .val (.int (2 : Int32)), .val (.int c2_)] [(.int (c2_.toInt8.toInt32)), (.int (2 : Int32)), (.ref ba)])) rfl rfl (hb hby own_d_jdk_52_method_21_code_31)
        refine OGo.step st493 ?_
        show OGo p e below (T493.setTop (mkF m 32 #[.val (.ref ca), .val (.int (2 : Int32)), .val (.ref ba), .val (.int (2 : Int32)), .val (.int (4 : Int32)), .val (.int (2 : Int32)), .val (.int c2_)] [])) _
        have Va492 : Arv Z h493 ba kb .byte (4 : Int32) [(.int (nar .byte (c0_.toInt8.toInt32))), (.int (nar .byte (c1_.toInt8.toInt32))), (.int (nar .byte (c2_.toInt8.toInt32))), (.int (0 : Int32))] (.int (0 : Int32)) := Arv.set A492 q492 S492 M492 H492 G492 (fits_nar_byte _) W493 2 rfl (Nat.le_of_ble_eq_true rfl)
        have Nf493 := Fr.snoc X493 Nf489 gb
        have sz493 : n0 ≤ h493.size := by rw [W493.size]; exact sz489
        refine OGo.step (fun _ kk => XS.iinc X493.here hx rfl (hb hby own_d_jdk_52_method_21_code_32) rfl (l' := #[.val (.ref ca), .val (.int ((2 : Int32) + (1 : Int32))), .val (.ref ba), .val (.int (2 : Int32)), .val (.int (4 : Int32)), .val (.int (2 : Int32)), .val (.int c2_)]) rfl kk) ?_
        show OGo p e below (T493.setTop (mkF m 35 #[.val (.ref ca), .val (.int ((2 : Int32) + (1 : Int32))), .val (.ref ba), .val (.int (2 : Int32)), .val (.int (4 : Int32)), .val (.int (2 : Int32)), .val (.int c2_)] [])) _
        refine OGo.step (fun _ kk => XS.iinc X493.here hx rfl (hb hby own_d_jdk_52_method_21_code_35) rfl (l' := #[.val (.ref ca), .val (.int ((2 : Int32) + (1 : Int32))), .val (.ref ba), .val (.int ((2 : Int32) + (1 : Int32))), .val (.int (4 : Int32)), .val (.int (2 : Int32)), .val (.int c2_)]) rfl kk) ?_
        show OGo p e below (T493.setTop (mkF m 38 #[.val (.ref ca), .val (.int ((2 : Int32) + (1 : Int32))), .val (.ref ba), .val (.int ((2 : Int32) + (1 : Int32))), .val (.int (4 : Int32)), .val (.int (2 : Int32)), .val (.int c2_)] [])) _
        refine OGo.step (fun _ kk => XS.iinc X493.here hx rfl (hb hby own_d_jdk_52_method_21_code_38) rfl (l' := #[.val (.ref ca), .val (.int ((2 : Int32) + (1 : Int32))), .val (.ref ba), .val (.int ((2 : Int32) + (1 : Int32))), .val (.int (4 : Int32)), .val (.int ((2 : Int32) + (1 : Int32))), .val (.int c2_)]) rfl kk) ?_
        show OGo p e below (T493.setTop (mkF m 41 #[.val (.ref ca), .val (.int ((2 : Int32) + (1 : Int32))), .val (.ref ba), .val (.int ((2 : Int32) + (1 : Int32))), .val (.int (4 : Int32)), .val (.int ((2 : Int32) + (1 : Int32))), .val (.int c2_)] [])) _
        refine OGo.step (fun _ kk => XS.goto X493.here hx rfl (pc0 := 41) (pc' := 3) rfl (hb hby own_d_jdk_52_method_21_code_41) (by decide) (by decide) kk) ?_
        show OGo p e below (T493.setTop (mkF m 3 #[.val (.ref ca), .val (.int ((2 : Int32) + (1 : Int32))), .val (.ref ba), .val (.int ((2 : Int32) + (1 : Int32))), .val (.int (4 : Int32)), .val (.int ((2 : Int32) + (1 : Int32))), .val (.int c2_)] [])) _
        show OGo p e below (T493.setTop (mkF m 3 #[.val (.ref ca), .val (.int (3 : Int32)), .val (.ref ba), .val (.int (3 : Int32)), .val (.int (4 : Int32)), .val (.int (3 : Int32)), .val (.int c2_)] [])) _
        refine OGo.step (fun _ kk => XS.iload X493.here hx rfl (hb hby own_d_jdk_52_method_21_code_3) rfl kk) ?_
        show OGo p e below (T493.setTop (mkF m 5 #[.val (.ref ca), .val (.int (3 : Int32)), .val (.ref ba), .val (.int (3 : Int32)), .val (.int (4 : Int32)), .val (.int (3 : Int32)), .val (.int c2_)] [(.int (3 : Int32))])) _
        refine OGo.step (fun _ kk => XS.iload X493.here hx rfl (hb hby own_d_jdk_52_method_21_code_5) rfl kk) ?_
        show OGo p e below (T493.setTop (mkF m 7 #[.val (.ref ca), .val (.int (3 : Int32)), .val (.ref ba), .val (.int (3 : Int32)), .val (.int (4 : Int32)), .val (.int (3 : Int32)), .val (.int c2_)] [(.int (4 : Int32)), (.int (3 : Int32))])) _
        refine OGo.step (fun _ kk => XS.icmpNo X493.here hx rfl (hb hby own_d_jdk_52_method_21_code_7) rfl (tlt (by decide)).2.1 kk) ?_
        show OGo p e below (T493.setTop (mkF m 10 #[.val (.ref ca), .val (.int (3 : Int32)), .val (.ref ba), .val (.int (3 : Int32)), .val (.int (4 : Int32)), .val (.int (3 : Int32)), .val (.int c2_)] [])) _
        refine OGo.step (fun _ kk => XS.aloadN X493.here hx rfl (hb hby own_d_jdk_52_method_21_code_10) rfl rfl kk) ?_
        show OGo p e below (T493.setTop (mkF m 11 #[.val (.ref ca), .val (.int (3 : Int32)), .val (.ref ba), .val (.int (3 : Int32)), .val (.int (4 : Int32)), .val (.int (3 : Int32)), .val (.int c2_)] [(.ref ca)])) _
        refine OGo.step (fun _ kk => XS.iloadN X493.here hx rfl (hb hby own_d_jdk_52_method_21_code_11) rfl kk) ?_
        show OGo p e below (T493.setTop (mkF m 12 #[.val (.ref ca), .val (.int (3 : Int32)), .val (.ref ba), .val (.int (3 : Int32)), .val (.int (4 : Int32)), .val (.int (3 : Int32)), .val (.int c2_)] [(.int (3 : Int32)), (.ref ca)])) _
        have fc494 := (fc490.other W493 ncb)
        obtain ⟨cA495, A495, q495, S495, M495, H495, G495⟩ := id fc494
        refine OGo.step (fun _ kk => X493.caload hx (j := (3 : Int32)) (v := (.int c3_)) (by rw [e493]; exact (A495).1) (State.isArrayOf_alike hZ.alike (A495).2.1) (A495).2.2 (inb_of S495 ⟨by decide, by decide⟩) (H495 3 (by rw [S495]; decide)) (g := (mkF m 12 #[.val (.ref ca), .val (.int (3 : Int32)), .val (.ref ba), .val (.int (3 : Int32)), .val (.int (4 : Int32)), .val (.int (3 : Int32)), .val (.int c2_)] [(.int (3 : Int32)), (.ref ca)])) rfl rfl (hb hby own_d_jdk_52_method_21_code_12) _ kk) ?_
        show OGo p e below (T493.setTop (mkF m 13 #[.val (.ref ca), .val (.int (3 : Int32)), .val (.ref ba), .val (.int (3 : Int32)), .val (.int (4 : Int32)), .val (.int (3 : Int32)), .val (.int c2_)] [(.int c3_)])) _
        refine OGo.step (fun _ kk => XS.istore X493.here hx rfl (hb hby own_d_jdk_52_method_21_code_13) rfl (l' := #[.val (.ref ca), .val (.int (3 : Int32)), .val (.ref ba), .val (.int (3 : Int32)), .val (.int (4 : Int32)), .val (.int (3 : Int32)), .val (.int c3_)]) rfl kk) ?_
        show OGo p e below (T493.setTop (mkF m 15 #[.val (.ref ca), .val (.int (3 : Int32)), .val (.ref ba), .val (.int (3 : Int32)), .val (.int (4 : Int32)), .val (.int (3 : Int32)), .val (.int c3_)] [])) _
        refine OGo.step (fun _ kk => XS.iload X493.here hx rfl (hb hby own_d_jdk_52_method_21_code_15) rfl kk) ?_
        show OGo p e below (T493.setTop (mkF m 17 #[.val (.ref ca), .val (.int (3 : Int32)), .val (.ref ba), .val (.int (3 : Int32)), .val (.int (4 : Int32)), .val (.int (3 : Int32)), .val (.int c3_)] [(.int c3_)])) _
        refine OGo.step (fun _ kk => XS.sipush X493.here hx rfl (hb hby own_d_jdk_52_method_21_code_17) kk) ?_
        show OGo p e below (T493.setTop (mkF m 20 #[.val (.ref ca), .val (.int (3 : Int32)), .val (.ref ba), .val (.int (3 : Int32)), .val (.int (4 : Int32)), .val (.int (3 : Int32)), .val (.int c3_)] [(.int (255 : Int32)), (.int c3_)])) _
        by_cases hq3 : (255 : Int32) < c3_
        · refine OGo.step (fun _ kk => XS.icmpNo X493.here hx rfl (hb hby own_d_jdk_52_method_21_code_20) rfl (tlt hq3).2.2.2 kk) ?_
          show OGo p e below (T493.setTop (mkF m 23 #[.val (.ref ca), .val (.int (3 : Int32)), .val (.ref ba), .val (.int (3 : Int32)), .val (.int (4 : Int32)), .val (.int (3 : Int32)), .val (.int c3_)] [])) _
          refine OGo.step (fun _ kk => XS.iload X493.here hx rfl (hb hby own_d_jdk_52_method_21_code_23) rfl kk) ?_
          show OGo p e below (T493.setTop (mkF m 25 #[.val (.ref ca), .val (.int (3 : Int32)), .val (.ref ba), .val (.int (3 : Int32)), .val (.int (4 : Int32)), .val (.int (3 : Int32)), .val (.int c3_)] [(.int (3 : Int32))])) _
          have HK := ((((Keep.refl h0 [ba]).wr W485 (Or.inl (List.mem_of_getElem? (i := 0) rfl))).wr W489 (Or.inl (List.mem_of_getElem? (i := 0) rfl))).wr W493 (Or.inl (List.mem_of_getElem? (i := 0) rfl)))
          exact own_ret X493 hx hlk hret rfl (Or.inl ⟨rfl, Or.inl rfl, _, rfl⟩) (hb hby own_d_jdk_52_method_21_code_25) (by rw [e493]; exact ⟨3, rfl, by decide, hq3, Nf493, HK⟩) (by decide) (by decide)
        · skip
          refine OGo.step (fun _ kk => XS.icmpYes X493.here hx rfl (pc0 := 20) (pc' := 26) rfl (hb hby own_d_jdk_52_method_21_code_20) rfl (flt hq3).2.2.2 (by decide) (by decide) kk) ?_
          show OGo p e below (T493.setTop (mkF m 26 #[.val (.ref ca), .val (.int (3 : Int32)), .val (.ref ba), .val (.int (3 : Int32)), .val (.int (4 : Int32)), .val (.int (3 : Int32)), .val (.int c3_)] [])) _
          refine OGo.step (fun _ kk => XS.aloadN X493.here hx rfl (hb hby own_d_jdk_52_method_21_code_26) rfl rfl kk) ?_
          show OGo p e below (T493.setTop (mkF m 27 #[.val (.ref ca), .val (.int (3 : Int32)), .val (.ref ba), .val (.int (3 : Int32)), .val (.int (4 : Int32)), .val (.int (3 : Int32)), .val (.int c3_)] [(.ref ba)])) _
          refine OGo.step (fun _ kk => XS.iloadN X493.here hx rfl (hb hby own_d_jdk_52_method_21_code_27) rfl kk) ?_
          show OGo p e below (T493.setTop (mkF m 28 #[.val (.ref ca), .val (.int (3 : Int32)), .val (.ref ba), .val (.int (3 : Int32)), .val (.int (4 : Int32)), .val (.int (3 : Int32)), .val (.int c3_)] [(.int (3 : Int32)), (.ref ba)])) _
          refine OGo.step (fun _ kk => XS.iload X493.here hx rfl (hb hby own_d_jdk_52_method_21_code_28) rfl kk) ?_
          show OGo p e below (T493.setTop (mkF m 30 #[.val (.ref ca), .val (.int (3 : Int32)), .val (.ref ba), .val (.int (3 : Int32)), .val (.int (4 : Int32)), .val (.int (3 : Int32)), .val (.int c3_)] [(.int c3_), (.int (3 : Int32)), (.ref ba)])) _
          refine OGo.step (fun _ kk => XS.i2b X493.here hx rfl (hb hby own_d_jdk_52_method_21_code_30) rfl kk) ?_
          show OGo p e below (T493.setTop (mkF m 31 #[.val (.ref ca), .val (.int (3 : Int32)), .val (.ref ba), .val (.int (3 : Int32)), .val (.int (4 : Int32)), .val (.int (3 : Int32)), .val (.int c3_)] [(.int (c3_.toInt8.toInt32)), (.int (3 : Int32)), (.ref ba)])) _
          obtain ⟨cA496, A496, q496, S496, M496, H496, G496⟩ := id Va492
          obtain ⟨T497, h497, X497, e497, W497, st497⟩ := stB X493 hx hZ e493 A496 (j := (3 : Int32)) (inb_of S496 ⟨by decide, by decide⟩) (g := (mkF m 31 #[.val (.ref ca), .val (.int (3 : Int32)), .val (.ref ba), .val (.int (3 : Int32)), .val (.int (4 : Int32)), .val (.int (3 : Int32)), .val (.int c3_)] [(.int (c3_.toInt8.toInt32)), (.int (3 : Int32)), (.ref ba)])) rfl rfl (hb hby own_d_jdk_52_method_21_code_31)
          refine OGo.step st497 ?_
          show OGo p e below (T497.setTop (mkF m 32 #[.val (.ref ca), .val (.int (3 : Int32)), .val (.ref ba), .val (.int (3 : Int32)), .val (.int (4 : Int32)), .val (.int (3 : Int32)), .val (.int c3_)] [])) _
          have Va496 : Arv Z h497 ba kb .byte (4 : Int32) [(.int (nar .byte (c0_.toInt8.toInt32))), (.int (nar .byte (c1_.toInt8.toInt32))), (.int (nar .byte (c2_.toInt8.toInt32))), (.int (nar .byte (c3_.toInt8.toInt32)))] (.int (0 : Int32)) := Arv.set A496 q496 S496 M496 H496 G496 (fits_nar_byte _) W497 3 rfl (Nat.le_of_ble_eq_true rfl)
          have Nf497 := Fr.snoc X497 Nf493 gb
          have sz497 : n0 ≤ h497.size := by rw [W497.size]; exact sz493
          refine OGo.step (fun _ kk => XS.iinc X497.here hx rfl (hb hby own_d_jdk_52_method_21_code_32) rfl (l' := #[.val (.ref ca), .val (.int ((3 : Int32) + (1 : Int32))), .val (.ref ba), .val (.int (3 : Int32)), .val (.int (4 : Int32)), .val (.int (3 : Int32)), .val (.int c3_)]) rfl kk) ?_
          show OGo p e below (T497.setTop (mkF m 35 #[.val (.ref ca), .val (.int ((3 : Int32) + (1 : Int32))), .val (.ref ba), .val (.int (3 : Int32)), .val (.int (4 : Int32)), .val (.int (3 : Int32)), .val (.int c3_)] [])) _
          refine OGo.step (fun _ kk => XS.iinc X497.here hx rfl (hb hby own_d_jdk_52_method_21_code_35) rfl (l' := #[.val (.ref ca), .val (.int ((3 : Int32) + (1 : Int32))), .val (.ref ba), .val (.int ((3 : Int32) + (1 : Int32))), .val (.int (4 : Int32)), .val (.int (3 : Int32)), .val (.int c3_)]) rfl kk) ?_
          show OGo p e below (T497.setTop (mkF m 38 #[.val (.ref ca), .val (.int ((3 : Int32) + (1 : Int32))), .val (.ref ba), .val (.int ((3 : Int32) + (1 : Int32))), .val (.int (4 : Int32)), .val (.int (3 : Int32)), .val (.int c3_)] [])) _
          refine OGo.step (fun _ kk => XS.iinc X497.here hx rfl (hb hby own_d_jdk_52_method_21_code_38) rfl (l' := #[.val (.ref ca), .val (.int ((3 : Int32) + (1 : Int32))), .val (.ref ba), .val (.int ((3 : Int32) + (1 : Int32))), .val (.int (4 : Int32)), .val (.int ((3 : Int32) + (1 : Int32))), .val (.int c3_)]) rfl kk) ?_
          show OGo p e below (T497.setTop (mkF m 41 #[.val (.ref ca), .val (.int ((3 : Int32) + (1 : Int32))), .val (.ref ba), .val (.int ((3 : Int32) + (1 : Int32))), .val (.int (4 : Int32)), .val (.int ((3 : Int32) + (1 : Int32))), .val (.int c3_)] [])) _
          refine OGo.step (fun _ kk => XS.goto X497.here hx rfl (pc0 := 41) (pc' := 3) rfl (hb hby own_d_jdk_52_method_21_code_41) (by decide) (by decide) kk) ?_
          show OGo p e below (T497.setTop (mkF m 3 #[.val (.ref ca), .val (.int ((3 : Int32) + (1 : Int32))), .val (.ref ba), .val (.int ((3 : Int32) + (1 : Int32))), .val (.int (4 : Int32)), .val (.int ((3 : Int32) + (1 : Int32))), .val (.int c3_)] [])) _
          show OGo p e below (T497.setTop (mkF m 3 #[.val (.ref ca), .val (.int (4 : Int32)), .val (.ref ba), .val (.int (4 : Int32)), .val (.int (4 : Int32)), .val (.int (4 : Int32)), .val (.int c3_)] [])) _
          refine OGo.step (fun _ kk => XS.iload X497.here hx rfl (hb hby own_d_jdk_52_method_21_code_3) rfl kk) ?_
          show OGo p e below (T497.setTop (mkF m 5 #[.val (.ref ca), .val (.int (4 : Int32)), .val (.ref ba), .val (.int (4 : Int32)), .val (.int (4 : Int32)), .val (.int (4 : Int32)), .val (.int c3_)] [(.int (4 : Int32))])) _
          refine OGo.step (fun _ kk => XS.iload X497.here hx rfl (hb hby own_d_jdk_52_method_21_code_5) rfl kk) ?_
          show OGo p e below (T497.setTop (mkF m 7 #[.val (.ref ca), .val (.int (4 : Int32)), .val (.ref ba), .val (.int (4 : Int32)), .val (.int (4 : Int32)), .val (.int (4 : Int32)), .val (.int c3_)] [(.int (4 : Int32)), (.int (4 : Int32))])) _
          exact False.elim ((fun z => Or.elim z hq0 (fun z => Or.elim z hq1 (fun z => Or.elim z hq2 hq3))) hex)

theorem own_kne4 : ∀ k : Nat, k < 4 → ¬ Int32.ofNat k = (4 : Int32) := by decide
set_option maxRecDepth 65536 in
set_option maxHeartbeats 40000000 in
theorem own_cmp3_4 (l : Launch) (Z : State) (a0 : Array Value) (hw : ∀ d ∈ tables_1, d.before a0 Z = true) (ws : List Jvm.Cond) (ca : Addr) (kc : ClassId) (c0_ c1_ c2_ c3_ : Int32) (h0 : Heap) (n0 : Nat) (Z0 : n0 ≤ h0.size) (SA : Sta Z h0 "java/lang/StringUTF16" "$assertionsDisabled" "Z" (.int (1 : Int32))) (SH : Sta Z h0 "java/lang/StringUTF16" "HI_BYTE_SHIFT" "I" (.int (0 : Int32))) (SL : Sta Z h0 "java/lang/StringUTF16" "LO_BYTE_SHIFT" "I" (.int (8 : Int32))) (Vc : Arv Z h0 ca kc .char (4 : Int32) [(.int c0_), (.int c1_), (.int c2_), (.int c3_)] (.int (0 : Int32))) (hb0 : ¬ c0_ < 0 ∧ ¬ (65535 : Int32) < c0_) (hb1 : ¬ c1_ < 0 ∧ ¬ (65535 : Int32) < c1_) (hb2 : ¬ c2_ < 0 ∧ ¬ (65535 : Int32) < c2_) (hb3 : ¬ c3_ < 0 ∧ ¬ (65535 : Int32) < c3_) (hex : (255 : Int32) < c0_ ∨ (255 : Int32) < c1_ ∨ (255 : Int32) < c2_ ∨ (255 : Int32) < c3_) :
    OMet l Z (⟨"java/lang/StringUTF16", "compress", "([CII)[B"⟩ : MethodName) jdk_52_method_16_code 6 (some (.array .byte)) ws ({ frames := 3, cells := 2, slots := 12, locals := 40 } : Room) #[(.ref ca), (.int (0 : Int32)), (.int (4 : Int32))] h0 (fun v h L => ∃ (u : Addr) (kb : ClassId), v = some (.ref u) ∧ Fr n0 L ∧ Ext h0 h ∧ h0.size ≤ u ∧ Arv Z h u kb .byte (8 : Int32) (StrChars.Road.wideBytes [c0_, c1_, c2_, c3_]) (.int (0 : Int32))) := by
  refine OMet.body (plainFor_of_name own_pn4) ?_
  intro p e s m below meth c s₁ hx hby hml hown hnm hret hlk hZ X0 e0
  refine OGo.step (fun _ kk => castTop (show entryFrame m #[(.ref ca), (.int (0 : Int32)), (.int (4 : Int32))] 6 = (mkF m 0 #[.val (.ref ca), .val (.int (0 : Int32)), .val (.int (4 : Int32)), .unset, .unset, .unset] []) from by first | (simp [entryFrame, mkF, argsToLocals, Value.category]; done) | rfl) kk) ?_
  show OGo p e below (s₁.setTop (mkF m 0 #[.val (.ref ca), .val (.int (0 : Int32)), .val (.int (4 : Int32)), .unset, .unset, .unset] [])) _
  refine OGo.step (fun _ kk => XS.iloadN X0.here hx rfl (hb hby own_d_jdk_52_method_16_code_0) rfl kk) ?_
  show OGo p e below (s₁.setTop (mkF m 1 #[.val (.ref ca), .val (.int (0 : Int32)), .val (.int (4 : Int32)), .unset, .unset, .unset] [(.int (4 : Int32))])) _
  obtain ⟨T498, h498, k498, X498, e498, E498, A498, st498⟩ := newP X0 hx hZ (hw _ (List.mem_of_getElem? (i := 25) rfl)) e0 (g := (mkF m 1 #[.val (.ref ca), .val (.int (0 : Int32)), .val (.int (4 : Int32)), .unset, .unset, .unset] [(.int (4 : Int32))])) rfl (hb hby own_d_jdk_52_method_16_code_1) rfl (by decide) (cap := 4) (by decide) (by decide) (by decide) (by decide)
  obtain ⟨ba, g498⟩ : ∃ z, z = h0.size := ⟨_, rfl⟩
  rw [← g498] at A498 st498
  refine OGo.step st498 ?_
  show OGo p e below (T498.setTop (mkF m 3 #[.val (.ref ca), .val (.int (0 : Int32)), .val (.int (4 : Int32)), .unset, .unset, .unset] [(.ref ba)])) _
  have ne_ca_ba : ca ≠ ba := Nat.ne_of_lt (Nat.lt_of_lt_of_le Vc.lt (Nat.le_of_eq g498.symm))
  have gf_ba : n0 ≤ ba := Nat.le_trans Z0 (Nat.le_of_eq g498.symm)
  have sz498 : n0 ≤ h498.size := Nat.le_trans Z0 E498.1
  have Va : Arv Z h498 ba k498 .byte (4 : Int32) [(.int (0 : Int32)), (.int (0 : Int32)), (.int (0 : Int32)), (.int (0 : Int32))] (.int (0 : Int32)) := (Arv.new A498 (by decide)).pad (pad_rep [] (.int (0 : Int32)) 4)
  refine OGo.step (fun _ kk => XS.astoreN X498.here hx rfl (hb hby own_d_jdk_52_method_16_code_3) rfl rfl (l' := #[.val (.ref ca), .val (.int (0 : Int32)), .val (.int (4 : Int32)), .val (.ref ba), .unset, .unset]) rfl kk) ?_
  show OGo p e below (T498.setTop (mkF m 4 #[.val (.ref ca), .val (.int (0 : Int32)), .val (.int (4 : Int32)), .val (.ref ba), .unset, .unset] [])) _
  refine OGo.step (fun _ kk => XS.aloadN X498.here hx rfl (hb hby own_d_jdk_52_method_16_code_4) rfl rfl kk) ?_
  show OGo p e below (T498.setTop (mkF m 5 #[.val (.ref ca), .val (.int (0 : Int32)), .val (.int (4 : Int32)), .val (.ref ba), .unset, .unset] [(.ref ca)])) _
  refine OGo.step (fun _ kk => XS.iloadN X498.here hx rfl (hb hby own_d_jdk_52_method_16_code_5) rfl kk) ?_
  show OGo p e below (T498.setTop (mkF m 6 #[.val (.ref ca), .val (.int (0 : Int32)), .val (.int (4 : Int32)), .val (.ref ba), .unset, .unset] [(.int (0 : Int32)), (.ref ca)])) _
  refine OGo.step (fun _ kk => XS.aloadN X498.here hx rfl (hb hby own_d_jdk_52_method_16_code_6) rfl rfl kk) ?_
  show OGo p e below (T498.setTop (mkF m 7 #[.val (.ref ca), .val (.int (0 : Int32)), .val (.int (4 : Int32)), .val (.ref ba), .unset, .unset] [(.ref ba), (.int (0 : Int32)), (.ref ca)])) _
  refine OGo.step (fun _ kk => XS.iconst X498.here hx rfl (hb hby own_d_jdk_52_method_16_code_7) kk) ?_
  show OGo p e below (T498.setTop (mkF m 8 #[.val (.ref ca), .val (.int (0 : Int32)), .val (.int (4 : Int32)), .val (.ref ba), .unset, .unset] [(.int (0 : Int32)), (.ref ba), (.int (0 : Int32)), (.ref ca)])) _
  refine OGo.step (fun _ kk => XS.iloadN X498.here hx rfl (hb hby own_d_jdk_52_method_16_code_8) rfl kk) ?_
  show OGo p e below (T498.setTop (mkF m 9 #[.val (.ref ca), .val (.int (0 : Int32)), .val (.int (4 : Int32)), .val (.ref ba), .unset, .unset] [(.int (4 : Int32)), (.int (0 : Int32)), (.ref ba), (.int (0 : Int32)), (.ref ca)])) _
  have fc499 := (Vc.ext E498)
  refine own_callS X498 hx hZ (y := (⟨"java/lang/StringUTF16", "compress", "([CI[BII)I"⟩ : MethodName)) hown (hw _ (List.mem_of_getElem? (i := 26) rfl)) (hw _ (List.mem_of_getElem? (i := 27) rfl)) (hw _ (List.mem_of_getElem? (i := 23) rfl)) (hw _ (List.mem_of_getElem? (i := 28) rfl)) (by decide) (W := 0) (own_cmp5_4 l Z a0 hw [] ca ba kc _ c0_ c1_ c2_ c3_ h498 n0 sz498 fc499 Va gf_ba ne_ca_ba hex) e498  (pc := 9) (Ls := #[.val (.ref ca), .val (.int (0 : Int32)), .val (.int (4 : Int32)), .val (.ref ba), .unset, .unset]) (argsL := [(.ref ca), (.int (0 : Int32)), (.ref ba), (.int (0 : Int32)), (.int (4 : Int32))]) (rest := []) (by rw [hml]; rfl) (lenOf own_pd13 rfl) rfl (hb hby own_d_jdk_52_method_16_code_9) (by decide) (by decide) (by decide) (by decide) ?_
  intro v500 T500 L500 X500 hQ500
  obtain ⟨kq_, rfl, hk, hk2, N500, K500⟩ := hQ500
  show OGo p e below (T500.setTop (mkF m 12 #[.val (.ref ca), .val (.int (0 : Int32)), .val (.int (4 : Int32)), .val (.ref ba), .unset, .unset] [(.int (Int32.ofNat kq_))])) _
  have Nc500 := Fr.app (Fr.nil n0) N500
  have sz500 : n0 ≤ T500.heap.size := Nat.le_trans sz498 K500.1
  refine OGo.step (fun _ kk => XS.istore X500.here hx rfl (hb hby own_d_jdk_52_method_16_code_12) rfl (l' := #[.val (.ref ca), .val (.int (0 : Int32)), .val (.int (4 : Int32)), .val (.ref ba), .val (.int (Int32.ofNat kq_)), .unset]) rfl kk) ?_
  show OGo p e below (T500.setTop (mkF m 14 #[.val (.ref ca), .val (.int (0 : Int32)), .val (.int (4 : Int32)), .val (.ref ba), .val (.int (Int32.ofNat kq_)), .unset] [])) _
  refine OGo.step (fun _ kk => XS.iload X500.here hx rfl (hb hby own_d_jdk_52_method_16_code_14) rfl kk) ?_
  show OGo p e below (T500.setTop (mkF m 16 #[.val (.ref ca), .val (.int (0 : Int32)), .val (.int (4 : Int32)), .val (.ref ba), .val (.int (Int32.ofNat kq_)), .unset] [(.int (Int32.ofNat kq_))])) _
  refine OGo.step (fun _ kk => XS.iloadN X500.here hx rfl (hb hby own_d_jdk_52_method_16_code_16) rfl kk) ?_
  show OGo p e below (T500.setTop (mkF m 17 #[.val (.ref ca), .val (.int (0 : Int32)), .val (.int (4 : Int32)), .val (.ref ba), .val (.int (Int32.ofNat kq_)), .unset] [(.int (4 : Int32)), (.int (Int32.ofNat kq_))])) _
  refine OGo.step (fun _ kk => XS.icmpNo X500.here hx rfl (hb hby own_d_jdk_52_method_16_code_17) rfl (feq (own_kne4 kq_ hk)).1 kk) ?_
  show OGo p e below (T500.setTop (mkF m 20 #[.val (.ref ca), .val (.int (0 : Int32)), .val (.int (4 : Int32)), .val (.ref ba), .val (.int (Int32.ofNat kq_)), .unset] [])) _
  refine OGo.step (fun _ kk => XS.aloadN X500.here hx rfl (hb hby own_d_jdk_52_method_16_code_20) rfl rfl kk) ?_
  show OGo p e below (T500.setTop (mkF m 21 #[.val (.ref ca), .val (.int (0 : Int32)), .val (.int (4 : Int32)), .val (.ref ba), .val (.int (Int32.ofNat kq_)), .unset] [(.ref ca)])) _
  refine OGo.step (fun _ kk => XS.iloadN X500.here hx rfl (hb hby own_d_jdk_52_method_16_code_21) rfl kk) ?_
  show OGo p e below (T500.setTop (mkF m 22 #[.val (.ref ca), .val (.int (0 : Int32)), .val (.int (4 : Int32)), .val (.ref ba), .val (.int (Int32.ofNat kq_)), .unset] [(.int (0 : Int32)), (.ref ca)])) _
  refine OGo.step (fun _ kk => XS.iloadN X500.here hx rfl (hb hby own_d_jdk_52_method_16_code_22) rfl kk) ?_
  show OGo p e below (T500.setTop (mkF m 23 #[.val (.ref ca), .val (.int (0 : Int32)), .val (.int (4 : Int32)), .val (.ref ba), .val (.int (Int32.ofNat kq_)), .unset] [(.int (4 : Int32)), (.int (0 : Int32)), (.ref ca)])) _
  have xt501 := (own_ext_keep E498 K500 (allS (Nat.le_of_eq g498.symm) all0))
  have fx502 := SA.ext xt501
  have fx503 := SH.ext xt501
  have fx504 := SL.ext xt501
  have fc505 := (fc499.keep K500 (ninS ne_ca_ba nin0))
  refine own_callS X500 hx hZ (y := (⟨"java/lang/StringUTF16", "toBytes", "([CII)[B"⟩ : MethodName)) hown (hw _ (List.mem_of_getElem? (i := 90) rfl)) (hw _ (List.mem_of_getElem? (i := 91) rfl)) (hw _ (List.mem_of_getElem? (i := 23) rfl)) (hw _ (List.mem_of_getElem? (i := 92) rfl)) (by decide) (W := 0) (own_toB4 l Z a0 hw [] ca kc c0_ c1_ c2_ c3_ T500.heap n0 sz500 fx502 fx503 fx504 fc505) rfl  (pc := 23) (Ls := #[.val (.ref ca), .val (.int (0 : Int32)), .val (.int (4 : Int32)), .val (.ref ba), .val (.int (Int32.ofNat kq_)), .unset]) (argsL := [(.ref ca), (.int (0 : Int32)), (.int (4 : Int32))]) (rest := []) (by rw [hml]; rfl) (lenOf own_pd14 rfl) rfl (hb hby own_d_jdk_52_method_16_code_23) (by decide) (by decide) (by decide) (by decide) ?_
  intro v506 T506 L506 X506 hQ506
  obtain ⟨u, kb, rfl, N506, Xe506, gu506, Vu⟩ := hQ506
  show OGo p e below (T506.setTop (mkF m 26 #[.val (.ref ca), .val (.int (0 : Int32)), .val (.int (4 : Int32)), .val (.ref ba), .val (.int (Int32.ofNat kq_)), .unset] [(.ref u)])) _
  have gu0 := Nat.le_trans (xt501).1 gu506
  have Nc506 := Fr.app Nc500 N506
  have sz506 : n0 ≤ T506.heap.size := Nat.le_trans sz500 Xe506.1
  refine OGo.step (fun _ kk => XS.astore X506.here hx rfl (hb hby own_d_jdk_52_method_16_code_26) rfl rfl (l' := #[.val (.ref ca), .val (.int (0 : Int32)), .val (.int (4 : Int32)), .val (.ref ba), .val (.int (Int32.ofNat kq_)), .val (.ref u)]) rfl kk) ?_
  show OGo p e below (T506.setTop (mkF m 28 #[.val (.ref ca), .val (.int (0 : Int32)), .val (.int (4 : Int32)), .val (.ref ba), .val (.int (Int32.ofNat kq_)), .val (.ref u)] [])) _
  refine OGo.step (fun _ kk => XS.aload X506.here hx rfl (hb hby own_d_jdk_52_method_16_code_28) rfl rfl kk) ?_
  show OGo p e below (T506.setTop (mkF m 30 #[.val (.ref ca), .val (.int (0 : Int32)), .val (.int (4 : Int32)), .val (.ref ba), .val (.int (Int32.ofNat kq_)), .val (.ref u)] [(.ref u)])) _
  refine OGo.step (fun _ kk => XS.iload X506.here hx rfl (hb hby own_d_jdk_52_method_16_code_30) rfl kk) ?_
  show OGo p e below (T506.setTop (mkF m 32 #[.val (.ref ca), .val (.int (0 : Int32)), .val (.int (4 : Int32)), .val (.ref ba), .val (.int (Int32.ofNat kq_)), .val (.ref u)] [(.int (Int32.ofNat kq_)), (.ref u)])) _
  obtain rfl | rfl | rfl | rfl : kq_ = 0 ∨ kq_ = 1 ∨ kq_ = 2 ∨ kq_ = 3 := by omega
  · show OGo p e below (T506.setTop (mkF m 32 #[.val (.ref ca), .val (.int (0 : Int32)), .val (.int (4 : Int32)), .val (.ref ba), .val (.int (0 : Int32)), .val (.ref u)] [(.int (0 : Int32)), (.ref u)])) _
    have xt507 := (own_ext_trans xt501 Xe506)
    have fx508 := SA.ext xt507
    have fx509 := SH.ext xt507
    have fx510 := SL.ext xt507
    refine own_callS X506 hx hZ (y := (⟨"java/lang/StringUTF16", "getChar", "([BI)C"⟩ : MethodName)) hown (hw _ (List.mem_of_getElem? (i := 106) rfl)) (hw _ (List.mem_of_getElem? (i := 107) rfl)) (hw _ (List.mem_of_getElem? (i := 23) rfl)) (hw _ (List.mem_of_getElem? (i := 108) rfl)) (by decide) (W := 0) (own_getc0 l Z a0 hw [] u kb _ (StrChars.Road.wideBytes [c0_, c1_, c2_, c3_]) (StrChars.lo8 c0_) (StrChars.hi8 c0_) T506.heap n0 sz506 fx508 fx509 fx510 Vu (by decide) (by decide) (by decide) (by decide) rfl rfl) rfl  (pc := 32) (Ls := #[.val (.ref ca), .val (.int (0 : Int32)), .val (.int (4 : Int32)), .val (.ref ba), .val (.int (0 : Int32)), .val (.ref u)]) (argsL := [(.ref u), (.int (0 : Int32))]) (rest := []) (by rw [hml]; rfl) (lenOf own_pd15 rfl) rfl (hb hby own_d_jdk_52_method_16_code_32) (by decide) (by decide) (by decide) (by decide) ?_
    intro v511 T511 L511 X511 hQ511
    obtain ⟨rfl, N511, e511⟩ := hQ511
    show OGo p e below (T511.setTop (mkF m 35 #[.val (.ref ca), .val (.int (0 : Int32)), .val (.int (4 : Int32)), .val (.ref ba), .val (.int (0 : Int32)), .val (.ref u)] [(.int (StrChars.pairCh (StrChars.lo8 c0_) (StrChars.hi8 c0_)))])) _
    have Nc511 := Fr.app Nc506 N511
    rw [StrChars.pair_says hb0.1 hb0.2]
    show OGo p e below (T511.setTop (mkF m 35 #[.val (.ref ca), .val (.int (0 : Int32)), .val (.int (4 : Int32)), .val (.ref ba), .val (.int (0 : Int32)), .val (.ref u)] [(.int c0_)])) _
    refine OGo.step (fun _ kk => XS.sipush X511.here hx rfl (hb hby own_d_jdk_52_method_16_code_35) kk) ?_
    show OGo p e below (T511.setTop (mkF m 38 #[.val (.ref ca), .val (.int (0 : Int32)), .val (.int (4 : Int32)), .val (.ref ba), .val (.int (0 : Int32)), .val (.ref u)] [(.int (255 : Int32)), (.int c0_)])) _
    refine OGo.step (fun _ kk => XS.icmpYes X511.here hx rfl (pc0 := 38) (pc' := 54) rfl (hb hby own_d_jdk_52_method_16_code_38) rfl (tlt hk2).2.2.1 (by decide) (by decide) kk) ?_
    show OGo p e below (T511.setTop (mkF m 54 #[.val (.ref ca), .val (.int (0 : Int32)), .val (.int (4 : Int32)), .val (.ref ba), .val (.int (0 : Int32)), .val (.ref u)] [])) _
    refine OGo.step (fun _ kk => XS.aload X511.here hx rfl (hb hby own_d_jdk_52_method_16_code_54) rfl rfl kk) ?_
    show OGo p e below (T511.setTop (mkF m 56 #[.val (.ref ca), .val (.int (0 : Int32)), .val (.int (4 : Int32)), .val (.ref ba), .val (.int (0 : Int32)), .val (.ref u)] [(.ref u)])) _
    exact own_ret X511 hx hlk hret rfl (Or.inr (Or.inr (Or.inr (Or.inr ⟨rfl, rfl, rfl⟩)))) (hb hby own_d_jdk_52_method_16_code_56) (by rw [e511]; exact ⟨u, kb, rfl, Nc511, xt507, gu0, Vu⟩) (by decide) (by decide)
  · show OGo p e below (T506.setTop (mkF m 32 #[.val (.ref ca), .val (.int (0 : Int32)), .val (.int (4 : Int32)), .val (.ref ba), .val (.int (1 : Int32)), .val (.ref u)] [(.int (1 : Int32)), (.ref u)])) _
    have xt512 := (own_ext_trans xt501 Xe506)
    have fx513 := SA.ext xt512
    have fx514 := SH.ext xt512
    have fx515 := SL.ext xt512
    refine own_callS X506 hx hZ (y := (⟨"java/lang/StringUTF16", "getChar", "([BI)C"⟩ : MethodName)) hown (hw _ (List.mem_of_getElem? (i := 106) rfl)) (hw _ (List.mem_of_getElem? (i := 107) rfl)) (hw _ (List.mem_of_getElem? (i := 23) rfl)) (hw _ (List.mem_of_getElem? (i := 108) rfl)) (by decide) (W := 0) (own_getc1 l Z a0 hw [] u kb _ (StrChars.Road.wideBytes [c0_, c1_, c2_, c3_]) (StrChars.lo8 c1_) (StrChars.hi8 c1_) T506.heap n0 sz506 fx513 fx514 fx515 Vu (by decide) (by decide) (by decide) (by decide) rfl rfl) rfl  (pc := 32) (Ls := #[.val (.ref ca), .val (.int (0 : Int32)), .val (.int (4 : Int32)), .val (.ref ba), .val (.int (1 : Int32)), .val (.ref u)]) (argsL := [(.ref u), (.int (1 : Int32))]) (rest := []) (by rw [hml]; rfl) (lenOf own_pd15 rfl) rfl (hb hby own_d_jdk_52_method_16_code_32) (by decide) (by decide) (by decide) (by decide) ?_
    intro v516 T516 L516 X516 hQ516
    obtain ⟨rfl, N516, e516⟩ := hQ516
    show OGo p e below (T516.setTop (mkF m 35 #[.val (.ref ca), .val (.int (0 : Int32)), .val (.int (4 : Int32)), .val (.ref ba), .val (.int (1 : Int32)), .val (.ref u)] [(.int (StrChars.pairCh (StrChars.lo8 c1_) (StrChars.hi8 c1_)))])) _
    have Nc516 := Fr.app Nc506 N516
    rw [StrChars.pair_says hb1.1 hb1.2]
    show OGo p e below (T516.setTop (mkF m 35 #[.val (.ref ca), .val (.int (0 : Int32)), .val (.int (4 : Int32)), .val (.ref ba), .val (.int (1 : Int32)), .val (.ref u)] [(.int c1_)])) _
    refine OGo.step (fun _ kk => XS.sipush X516.here hx rfl (hb hby own_d_jdk_52_method_16_code_35) kk) ?_
    show OGo p e below (T516.setTop (mkF m 38 #[.val (.ref ca), .val (.int (0 : Int32)), .val (.int (4 : Int32)), .val (.ref ba), .val (.int (1 : Int32)), .val (.ref u)] [(.int (255 : Int32)), (.int c1_)])) _
    refine OGo.step (fun _ kk => XS.icmpYes X516.here hx rfl (pc0 := 38) (pc' := 54) rfl (hb hby own_d_jdk_52_method_16_code_38) rfl (tlt hk2).2.2.1 (by decide) (by decide) kk) ?_
    show OGo p e below (T516.setTop (mkF m 54 #[.val (.ref ca), .val (.int (0 : Int32)), .val (.int (4 : Int32)), .val (.ref ba), .val (.int (1 : Int32)), .val (.ref u)] [])) _
    refine OGo.step (fun _ kk => XS.aload X516.here hx rfl (hb hby own_d_jdk_52_method_16_code_54) rfl rfl kk) ?_
    show OGo p e below (T516.setTop (mkF m 56 #[.val (.ref ca), .val (.int (0 : Int32)), .val (.int (4 : Int32)), .val (.ref ba), .val (.int (1 : Int32)), .val (.ref u)] [(.ref u)])) _
    exact own_ret X516 hx hlk hret rfl (Or.inr (Or.inr (Or.inr (Or.inr ⟨rfl, rfl, rfl⟩)))) (hb hby own_d_jdk_52_method_16_code_56) (by rw [e516]; exact ⟨u, kb, rfl, Nc516, xt512, gu0, Vu⟩) (by decide) (by decide)
  · show OGo p e below (T506.setTop (mkF m 32 #[.val (.ref ca), .val (.int (0 : Int32)), .val (.int (4 : Int32)), .val (.ref ba), .val (.int (2 : Int32)), .val (.ref u)] [(.int (2 : Int32)), (.ref u)])) _
    have xt517 := (own_ext_trans xt501 Xe506)
    have fx518 := SA.ext xt517
    have fx519 := SH.ext xt517
    have fx520 := SL.ext xt517
    refine own_callS X506 hx hZ (y := (⟨"java/lang/StringUTF16", "getChar", "([BI)C"⟩ : MethodName)) hown (hw _ (List.mem_of_getElem? (i := 106) rfl)) (hw _ (List.mem_of_getElem? (i := 107) rfl)) (hw _ (List.mem_of_getElem? (i := 23) rfl)) (hw _ (List.mem_of_getElem? (i := 108) rfl)) (by decide) (W := 0) (own_getc2 l Z a0 hw [] u kb _ (StrChars.Road.wideBytes [c0_, c1_, c2_, c3_]) (StrChars.lo8 c2_) (StrChars.hi8 c2_) T506.heap n0 sz506 fx518 fx519 fx520 Vu (by decide) (by decide) (by decide) (by decide) rfl rfl) rfl  (pc := 32) (Ls := #[.val (.ref ca), .val (.int (0 : Int32)), .val (.int (4 : Int32)), .val (.ref ba), .val (.int (2 : Int32)), .val (.ref u)]) (argsL := [(.ref u), (.int (2 : Int32))]) (rest := []) (by rw [hml]; rfl) (lenOf own_pd15 rfl) rfl (hb hby own_d_jdk_52_method_16_code_32) (by decide) (by decide) (by decide) (by decide) ?_
    intro v521 T521 L521 X521 hQ521
    obtain ⟨rfl, N521, e521⟩ := hQ521
    show OGo p e below (T521.setTop (mkF m 35 #[.val (.ref ca), .val (.int (0 : Int32)), .val (.int (4 : Int32)), .val (.ref ba), .val (.int (2 : Int32)), .val (.ref u)] [(.int (StrChars.pairCh (StrChars.lo8 c2_) (StrChars.hi8 c2_)))])) _
    have Nc521 := Fr.app Nc506 N521
    rw [StrChars.pair_says hb2.1 hb2.2]
    show OGo p e below (T521.setTop (mkF m 35 #[.val (.ref ca), .val (.int (0 : Int32)), .val (.int (4 : Int32)), .val (.ref ba), .val (.int (2 : Int32)), .val (.ref u)] [(.int c2_)])) _
    refine OGo.step (fun _ kk => XS.sipush X521.here hx rfl (hb hby own_d_jdk_52_method_16_code_35) kk) ?_
    show OGo p e below (T521.setTop (mkF m 38 #[.val (.ref ca), .val (.int (0 : Int32)), .val (.int (4 : Int32)), .val (.ref ba), .val (.int (2 : Int32)), .val (.ref u)] [(.int (255 : Int32)), (.int c2_)])) _
    refine OGo.step (fun _ kk => XS.icmpYes X521.here hx rfl (pc0 := 38) (pc' := 54) rfl (hb hby own_d_jdk_52_method_16_code_38) rfl (tlt hk2).2.2.1 (by decide) (by decide) kk) ?_
    show OGo p e below (T521.setTop (mkF m 54 #[.val (.ref ca), .val (.int (0 : Int32)), .val (.int (4 : Int32)), .val (.ref ba), .val (.int (2 : Int32)), .val (.ref u)] [])) _
    refine OGo.step (fun _ kk => XS.aload X521.here hx rfl (hb hby own_d_jdk_52_method_16_code_54) rfl rfl kk) ?_
    show OGo p e below (T521.setTop (mkF m 56 #[.val (.ref ca), .val (.int (0 : Int32)), .val (.int (4 : Int32)), .val (.ref ba), .val (.int (2 : Int32)), .val (.ref u)] [(.ref u)])) _
    exact own_ret X521 hx hlk hret rfl (Or.inr (Or.inr (Or.inr (Or.inr ⟨rfl, rfl, rfl⟩)))) (hb hby own_d_jdk_52_method_16_code_56) (by rw [e521]; exact ⟨u, kb, rfl, Nc521, xt517, gu0, Vu⟩) (by decide) (by decide)
  · show OGo p e below (T506.setTop (mkF m 32 #[.val (.ref ca), .val (.int (0 : Int32)), .val (.int (4 : Int32)), .val (.ref ba), .val (.int (3 : Int32)), .val (.ref u)] [(.int (3 : Int32)), (.ref u)])) _
    have xt522 := (own_ext_trans xt501 Xe506)
    have fx523 := SA.ext xt522
    have fx524 := SH.ext xt522
    have fx525 := SL.ext xt522
    refine own_callS X506 hx hZ (y := (⟨"java/lang/StringUTF16", "getChar", "([BI)C"⟩ : MethodName)) hown (hw _ (List.mem_of_getElem? (i := 106) rfl)) (hw _ (List.mem_of_getElem? (i := 107) rfl)) (hw _ (List.mem_of_getElem? (i := 23) rfl)) (hw _ (List.mem_of_getElem? (i := 108) rfl)) (by decide) (W := 0) (own_getc3 l Z a0 hw [] u kb _ (StrChars.Road.wideBytes [c0_, c1_, c2_, c3_]) (StrChars.lo8 c3_) (StrChars.hi8 c3_) T506.heap n0 sz506 fx523 fx524 fx525 Vu (by decide) (by decide) (by decide) (by decide) rfl rfl) rfl  (pc := 32) (Ls := #[.val (.ref ca), .val (.int (0 : Int32)), .val (.int (4 : Int32)), .val (.ref ba), .val (.int (3 : Int32)), .val (.ref u)]) (argsL := [(.ref u), (.int (3 : Int32))]) (rest := []) (by rw [hml]; rfl) (lenOf own_pd15 rfl) rfl (hb hby own_d_jdk_52_method_16_code_32) (by decide) (by decide) (by decide) (by decide) ?_
    intro v526 T526 L526 X526 hQ526
    obtain ⟨rfl, N526, e526⟩ := hQ526
    show OGo p e below (T526.setTop (mkF m 35 #[.val (.ref ca), .val (.int (0 : Int32)), .val (.int (4 : Int32)), .val (.ref ba), .val (.int (3 : Int32)), .val (.ref u)] [(.int (StrChars.pairCh (StrChars.lo8 c3_) (StrChars.hi8 c3_)))])) _
    have Nc526 := Fr.app Nc506 N526
    rw [StrChars.pair_says hb3.1 hb3.2]
    show OGo p e below (T526.setTop (mkF m 35 #[.val (.ref ca), .val (.int (0 : Int32)), .val (.int (4 : Int32)), .val (.ref ba), .val (.int (3 : Int32)), .val (.ref u)] [(.int c3_)])) _
    refine OGo.step (fun _ kk => XS.sipush X526.here hx rfl (hb hby own_d_jdk_52_method_16_code_35) kk) ?_
    show OGo p e below (T526.setTop (mkF m 38 #[.val (.ref ca), .val (.int (0 : Int32)), .val (.int (4 : Int32)), .val (.ref ba), .val (.int (3 : Int32)), .val (.ref u)] [(.int (255 : Int32)), (.int c3_)])) _
    refine OGo.step (fun _ kk => XS.icmpYes X526.here hx rfl (pc0 := 38) (pc' := 54) rfl (hb hby own_d_jdk_52_method_16_code_38) rfl (tlt hk2).2.2.1 (by decide) (by decide) kk) ?_
    show OGo p e below (T526.setTop (mkF m 54 #[.val (.ref ca), .val (.int (0 : Int32)), .val (.int (4 : Int32)), .val (.ref ba), .val (.int (3 : Int32)), .val (.ref u)] [])) _
    refine OGo.step (fun _ kk => XS.aload X526.here hx rfl (hb hby own_d_jdk_52_method_16_code_54) rfl rfl kk) ?_
    show OGo p e below (T526.setTop (mkF m 56 #[.val (.ref ca), .val (.int (0 : Int32)), .val (.int (4 : Int32)), .val (.ref ba), .val (.int (3 : Int32)), .val (.ref u)] [(.ref u)])) _
    exact own_ret X526 hx hlk hret rfl (Or.inr (Or.inr (Or.inr (Or.inr ⟨rfl, rfl, rfl⟩)))) (hb hby own_d_jdk_52_method_16_code_56) (by rw [e526]; exact ⟨u, kb, rfl, Nc526, xt522, gu0, Vu⟩) (by decide) (by decide)

set_option maxRecDepth 65536 in
set_option maxHeartbeats 40000000 in
theorem own_codl4 (l : Launch) (Z : State) (a0 : Array Value) (hw : ∀ d ∈ tables_1, d.before a0 Z = true) (ws : List Jvm.Cond) (u : Addr) (kb : ClassId) (vs : List Value) (h0 : Heap) (n0 : Nat) (Z0 : n0 ≤ h0.size) (Vu : Arv Z h0 u kb .byte (8 : Int32) vs (.int (0 : Int32))) :
    OMet l Z (⟨"java/lang/StringUTF16", "coderFromArrayLen", "([BI)B"⟩ : MethodName) jdk_52_method_15_code 2 (some .byte) ws ({ frames := 0, cells := 0, slots := 0, locals := 0 } : Room) #[(.ref u), (.int (4 : Int32))] h0 (fun v h L => v = some (.int (1 : Int32)) ∧ Fr n0 L ∧ h = h0) := by
  refine OMet.body (plainFor_of_name own_pn4) ?_
  intro p e s m below meth c s₁ hx hby hml hown hnm hret hlk hZ X0 e0
  refine OGo.step (fun _ kk => castTop (show entryFrame m #[(.ref u), (.int (4 : Int32))] 2 = (mkF m 0 #[.val (.ref u), .val (.int (4 : Int32))] []) from by first | (simp [entryFrame, mkF, argsToLocals, Value.category]; done) | rfl) kk) ?_
  show OGo p e below (s₁.setTop (mkF m 0 #[.val (.ref u), .val (.int (4 : Int32))] [])) _
  obtain ⟨cu, Au, qu, Su, Mu, Hu, Gu⟩ := id Vu
  refine OGo.step (fun _ kk => XS.iloadN X0.here hx rfl (hb hby own_d_jdk_52_method_15_code_0) rfl kk) ?_
  show OGo p e below (s₁.setTop (mkF m 1 #[.val (.ref u), .val (.int (4 : Int32))] [(.int (4 : Int32))])) _
  refine OGo.step (fun _ kk => XS.aloadN X0.here hx rfl (hb hby own_d_jdk_52_method_15_code_1) rfl rfl kk) ?_
  show OGo p e below (s₁.setTop (mkF m 2 #[.val (.ref u), .val (.int (4 : Int32))] [(.ref u), (.int (4 : Int32))])) _
  refine OGo.step (fun _ kk => X0.arraylength hx (by rw [e0]; exact (Au).1) (State.isArrayOf_alike hZ.alike (Au).2.1) (g := (mkF m 2 #[.val (.ref u), .val (.int (4 : Int32))] [(.ref u), (.int (4 : Int32))])) rfl rfl (hb hby own_d_jdk_52_method_15_code_2) _ kk) ?_
  rw [len_of Su Mu]
  show OGo p e below (s₁.setTop (mkF m 3 #[.val (.ref u), .val (.int (4 : Int32))] [(.int (8 : Int32)), (.int (4 : Int32))])) _
  refine OGo.step (fun _ kk => XS.isub X0.here hx rfl (hb hby own_d_jdk_52_method_15_code_3) rfl kk) ?_
  show OGo p e below (s₁.setTop (mkF m 4 #[.val (.ref u), .val (.int (4 : Int32))] [(.int ((4 : Int32) - (8 : Int32)))])) _
  refine OGo.step (fun _ kk => XS.bipush X0.here hx rfl (hb hby own_d_jdk_52_method_15_code_4) kk) ?_
  show OGo p e below (s₁.setTop (mkF m 6 #[.val (.ref u), .val (.int (4 : Int32))] [(.int (31 : Int32)), (.int ((4 : Int32) - (8 : Int32)))])) _
  refine OGo.step (fun _ kk => XS.iushr X0.here hx rfl (hb hby own_d_jdk_52_method_15_code_6) rfl kk) ?_
  show OGo p e below (s₁.setTop (mkF m 7 #[.val (.ref u), .val (.int (4 : Int32))] [(.int ((((4 : Int32) - (8 : Int32)).toUInt32 >>> ((31 : Int32) &&& 31).toUInt32).toInt32))])) _
  refine OGo.step (fun _ kk => XS.i2b X0.here hx rfl (hb hby own_d_jdk_52_method_15_code_7) rfl kk) ?_
  show OGo p e below (s₁.setTop (mkF m 8 #[.val (.ref u), .val (.int (4 : Int32))] [(.int (((((4 : Int32) - (8 : Int32)).toUInt32 >>> ((31 : Int32) &&& 31).toUInt32).toInt32).toInt8.toInt32))])) _
  exact own_retN X0 hx hlk hret (by simp) (hb hby own_d_jdk_52_method_15_code_8) ⟨rfl, Fr.nil n0, e0⟩ (by decide) (by decide)

theorem own_ex4 {c0_ c1_ c2_ c3_ : Int32} (hex : (255 : Int32) < c0_ ∨ (255 : Int32) < c1_ ∨ (255 : Int32) < c2_ ∨ (255 : Int32) < c3_) : ∃ c ∈ ([c0_, c1_, c2_, c3_] : List Int32), (255 : Int32) < c := by
  rcases hex with h | h | h | h
  · exact ⟨_, List.mem_of_getElem? (i := 0) rfl, h⟩
  · exact ⟨_, List.mem_of_getElem? (i := 1) rfl, h⟩
  · exact ⟨_, List.mem_of_getElem? (i := 2) rfl, h⟩
  · exact ⟨_, List.mem_of_getElem? (i := 3) rfl, h⟩
set_option maxRecDepth 65536 in
set_option maxHeartbeats 40000000 in
theorem own_new4U4 (l : Launch) (Z : State) (a0 : Array Value) (hw : ∀ d ∈ tables_1, d.before a0 Z = true) (ws : List Jvm.Cond) (a ca : Addr) (kc : ClassId) (c0_ c1_ c2_ c3_ : Int32) (zc : Int32) (h0 : Heap) (n0 : Nat) (Z0 : n0 ≤ h0.size) (SC : Sta Z h0 "java/lang/String" "COMPACT_STRINGS" "Z" (.int zc)) (hzc : ¬ zc = 0) (SA : Sta Z h0 "java/lang/StringUTF16" "$assertionsDisabled" "Z" (.int (1 : Int32))) (SH : Sta Z h0 "java/lang/StringUTF16" "HI_BYTE_SHIFT" "I" (.int (0 : Int32))) (SL : Sta Z h0 "java/lang/StringUTF16" "LO_BYTE_SHIFT" "I" (.int (8 : Int32))) (E1 : Exa Z h0 a "java/lang/String") (Fv : Fld Z h0 a "java/lang/String" "value" "[B" .null) (Fc : Fld Z h0 a "java/lang/String" "coder" "B" (.int (0 : Int32))) (ga : n0 ≤ a) (Vc : Arv Z h0 ca kc .char (4 : Int32) [(.int c0_), (.int c1_), (.int c2_), (.int c3_)] (.int (0 : Int32))) (hb0 : ¬ c0_ < 0 ∧ ¬ (65535 : Int32) < c0_) (hb1 : ¬ c1_ < 0 ∧ ¬ (65535 : Int32) < c1_) (hb2 : ¬ c2_ < 0 ∧ ¬ (65535 : Int32) < c2_) (hb3 : ¬ c3_ < 0 ∧ ¬ (65535 : Int32) < c3_) (hex : (255 : Int32) < c0_ ∨ (255 : Int32) < c1_ ∨ (255 : Int32) < c2_ ∨ (255 : Int32) < c3_) :
    OMet l Z (⟨"java/lang/String", "<init>", "([CIILjava/lang/Void;)V"⟩ : MethodName) jdk_42_method_149_code 6 none ws ({ frames := 4, cells := 2, slots := 12, locals := 57 } : Room) #[(.ref a), (.ref ca), (.int (0 : Int32)), (.int (4 : Int32)), .null] h0 (fun v h L => v = none ∧ Fr n0 L ∧ Keep h0 h [a] ∧ OStr Z h a [c0_, c1_, c2_, c3_]) := by
  refine OMet.body (plainFor_of_name own_pn3) ?_
  intro p e s m below meth c s₁ hx hby hml hown hnm hret hlk hZ X0 e0
  refine OGo.step (fun _ kk => castTop (show entryFrame m #[(.ref a), (.ref ca), (.int (0 : Int32)), (.int (4 : Int32)), .null] 6 = (mkF m 0 #[.val (.ref a), .val (.ref ca), .val (.int (0 : Int32)), .val (.int (4 : Int32)), .val .null, .unset] []) from by first | (simp [entryFrame, mkF, argsToLocals, Value.category]; done) | rfl) kk) ?_
  show OGo p e below (s₁.setTop (mkF m 0 #[.val (.ref a), .val (.ref ca), .val (.int (0 : Int32)), .val (.int (4 : Int32)), .val .null, .unset] [])) _
  refine OGo.step (fun _ kk => XS.aloadN X0.here hx rfl (hb hby own_d_jdk_42_method_149_code_0) rfl rfl kk) ?_
  show OGo p e below (s₁.setTop (mkF m 1 #[.val (.ref a), .val (.ref ca), .val (.int (0 : Int32)), .val (.int (4 : Int32)), .val .null, .unset] [(.ref a)])) _
  obtain ⟨T527, X527, e527, st527⟩ := initO X0 hx hZ hown (hw _ (List.mem_of_getElem? (i := 17) rfl)) (hw _ (List.mem_of_getElem? (i := 18) rfl)) (hw _ (List.mem_of_getElem? (i := 19) rfl)) e0 (g := (mkF m 1 #[.val (.ref a), .val (.ref ca), .val (.int (0 : Int32)), .val (.int (4 : Int32)), .val .null, .unset] [(.ref a)])) rfl (by rw [hml]; rfl) rfl (hb hby own_d_jdk_42_method_149_code_1) (by decide) (W := 0) (by show 2 * 0 + _ ≤ _; exact Nat.le_of_eq rfl) (by decide)
  refine OGo.step st527 ?_
  show OGo p e below (T527.setTop (mkF m 4 #[.val (.ref a), .val (.ref ca), .val (.int (0 : Int32)), .val (.int (4 : Int32)), .val .null, .unset] [])) _
  refine OGo.step (fun _ kk => XS.iloadN X527.here hx rfl (hb hby own_d_jdk_42_method_149_code_4) rfl kk) ?_
  show OGo p e below (T527.setTop (mkF m 5 #[.val (.ref a), .val (.ref ca), .val (.int (0 : Int32)), .val (.int (4 : Int32)), .val .null, .unset] [(.int (4 : Int32))])) _
  refine OGo.step (fun _ kk => XS.ifYes X527.here hx rfl (pc0 := 5) (pc' := 27) rfl (hb hby own_d_jdk_42_method_149_code_5) rfl ((if0 _ _).trans (feq (by decide)).2) (by decide) (by decide) kk) ?_
  show OGo p e below (T527.setTop (mkF m 27 #[.val (.ref a), .val (.ref ca), .val (.int (0 : Int32)), .val (.int (4 : Int32)), .val .null, .unset] [])) _
  obtain ⟨T528, X528, e528, st528⟩ := getS2 X527 hx hZ hown (host := "") (Or.inl (hw _ (List.mem_of_getElem? (i := 20) rfl))) Via.refl e527 SC (g := (mkF m 27 #[.val (.ref a), .val (.ref ca), .val (.int (0 : Int32)), .val (.int (4 : Int32)), .val .null, .unset] [])) rfl (hb hby own_d_jdk_42_method_149_code_27)
  refine OGo.step st528 ?_
  show OGo p e below (T528.setTop (mkF m 30 #[.val (.ref a), .val (.ref ca), .val (.int (0 : Int32)), .val (.int (4 : Int32)), .val .null, .unset] [(.int zc)])) _
  refine OGo.step (fun _ kk => XS.ifNo X528.here hx rfl (hb hby own_d_jdk_42_method_149_code_30) rfl ((if0 _ _).trans (feq hzc).1) kk) ?_
  show OGo p e below (T528.setTop (mkF m 33 #[.val (.ref a), .val (.ref ca), .val (.int (0 : Int32)), .val (.int (4 : Int32)), .val .null, .unset] [])) _
  refine OGo.step (fun _ kk => XS.aloadN X528.here hx rfl (hb hby own_d_jdk_42_method_149_code_33) rfl rfl kk) ?_
  show OGo p e below (T528.setTop (mkF m 34 #[.val (.ref a), .val (.ref ca), .val (.int (0 : Int32)), .val (.int (4 : Int32)), .val .null, .unset] [(.ref ca)])) _
  refine OGo.step (fun _ kk => XS.iloadN X528.here hx rfl (hb hby own_d_jdk_42_method_149_code_34) rfl kk) ?_
  show OGo p e below (T528.setTop (mkF m 35 #[.val (.ref a), .val (.ref ca), .val (.int (0 : Int32)), .val (.int (4 : Int32)), .val .null, .unset] [(.int (0 : Int32)), (.ref ca)])) _
  refine OGo.step (fun _ kk => XS.iloadN X528.here hx rfl (hb hby own_d_jdk_42_method_149_code_35) rfl kk) ?_
  show OGo p e below (T528.setTop (mkF m 36 #[.val (.ref a), .val (.ref ca), .val (.int (0 : Int32)), .val (.int (4 : Int32)), .val .null, .unset] [(.int (4 : Int32)), (.int (0 : Int32)), (.ref ca)])) _
  refine own_callS X528 hx hZ (y := (⟨"java/lang/StringUTF16", "compress", "([CII)[B"⟩ : MethodName)) hown (hw _ (List.mem_of_getElem? (i := 21) rfl)) (hw _ (List.mem_of_getElem? (i := 22) rfl)) (hw _ (List.mem_of_getElem? (i := 23) rfl)) (hw _ (List.mem_of_getElem? (i := 24) rfl)) (by decide) (W := 0) (own_cmp3_4 l Z a0 hw [] ca kc c0_ c1_ c2_ c3_ h0 n0 Z0 SA SH SL Vc hb0 hb1 hb2 hb3 hex) e528  (pc := 36) (Ls := #[.val (.ref a), .val (.ref ca), .val (.int (0 : Int32)), .val (.int (4 : Int32)), .val .null, .unset]) (argsL := [(.ref ca), (.int (0 : Int32)), (.int (4 : Int32))]) (rest := []) (by rw [hml]; rfl) (lenOf own_pd14 rfl) rfl (hb hby own_d_jdk_42_method_149_code_36) (by decide) (by decide) (by decide) (by decide) ?_
  intro v529 T529 L529 X529 hQ529
  obtain ⟨u, kb, rfl, N529, Xe529, gu, Vu⟩ := hQ529
  show OGo p e below (T529.setTop (mkF m 39 #[.val (.ref a), .val (.ref ca), .val (.int (0 : Int32)), .val (.int (4 : Int32)), .val .null, .unset] [(.ref u)])) _
  have nau : a ≠ u := Nat.ne_of_lt (Nat.lt_of_lt_of_le E1.lt gu)
  have Nc529 := Fr.app (Fr.nil n0) N529
  have sz529 : n0 ≤ T529.heap.size := Nat.le_trans Z0 Xe529.1
  refine OGo.step (fun _ kk => XS.astore X529.here hx rfl (hb hby own_d_jdk_42_method_149_code_39) rfl rfl (l' := #[.val (.ref a), .val (.ref ca), .val (.int (0 : Int32)), .val (.int (4 : Int32)), .val .null, .val (.ref u)]) rfl kk) ?_
  show OGo p e below (T529.setTop (mkF m 41 #[.val (.ref a), .val (.ref ca), .val (.int (0 : Int32)), .val (.int (4 : Int32)), .val .null, .val (.ref u)] [])) _
  refine OGo.step (fun _ kk => XS.aloadN X529.here hx rfl (hb hby own_d_jdk_42_method_149_code_41) rfl rfl kk) ?_
  show OGo p e below (T529.setTop (mkF m 42 #[.val (.ref a), .val (.ref ca), .val (.int (0 : Int32)), .val (.int (4 : Int32)), .val .null, .val (.ref u)] [(.ref a)])) _
  refine OGo.step (fun _ kk => XS.aload X529.here hx rfl (hb hby own_d_jdk_42_method_149_code_42) rfl rfl kk) ?_
  show OGo p e below (T529.setTop (mkF m 44 #[.val (.ref a), .val (.ref ca), .val (.int (0 : Int32)), .val (.int (4 : Int32)), .val .null, .val (.ref u)] [(.ref u), (.ref a)])) _
  refine OGo.step (fun _ kk => XS.iloadN X529.here hx rfl (hb hby own_d_jdk_42_method_149_code_44) rfl kk) ?_
  show OGo p e below (T529.setTop (mkF m 45 #[.val (.ref a), .val (.ref ca), .val (.int (0 : Int32)), .val (.int (4 : Int32)), .val .null, .val (.ref u)] [(.int (4 : Int32)), (.ref u), (.ref a)])) _
  refine own_callS X529 hx hZ (y := (⟨"java/lang/StringUTF16", "coderFromArrayLen", "([BI)B"⟩ : MethodName)) hown (hw _ (List.mem_of_getElem? (i := 29) rfl)) (hw _ (List.mem_of_getElem? (i := 30) rfl)) (hw _ (List.mem_of_getElem? (i := 23) rfl)) (hw _ (List.mem_of_getElem? (i := 31) rfl)) (by decide) (W := 1) (own_codl4 l Z a0 hw [] u kb _ T529.heap n0 sz529 Vu) rfl  (pc := 45) (Ls := #[.val (.ref a), .val (.ref ca), .val (.int (0 : Int32)), .val (.int (4 : Int32)), .val .null, .val (.ref u)]) (argsL := [(.ref u), (.int (4 : Int32))]) (rest := [(.ref a)]) (by rw [hml]; rfl) (lenOf own_pd16 rfl) rfl (hb hby own_d_jdk_42_method_149_code_45) (by decide) (by decide) (by decide) (by decide) ?_
  intro v530 T530 L530 X530 hQ530
  obtain ⟨rfl, N530, e530⟩ := hQ530
  show OGo p e below (T530.setTop (mkF m 48 #[.val (.ref a), .val (.ref ca), .val (.int (0 : Int32)), .val (.int (4 : Int32)), .val .null, .val (.ref u)] [(.int (1 : Int32)), (.ref a)])) _
  have Nc530 := Fr.app Nc529 N530
  have fc531 := (Fc.ext Xe529)
  have fc532 := (E1.ext Xe529)
  obtain ⟨T533, h533, X533, e533, W533, st533⟩ := putFN X530 hx hZ hown (hw _ (List.mem_of_getElem? (i := 32) rfl)) Via.refl e530 fc531 fc532 (Or.inr ⟨(hw _ (List.mem_of_getElem? (i := 33) rfl)), rfl, hnm⟩) (hw _ (List.mem_of_getElem? (i := 7) rfl)) (ty := .byte) (v' := (.int (1 : Int32))) (by decide) rfl rfl (g := (mkF m 48 #[.val (.ref a), .val (.ref ca), .val (.int (0 : Int32)), .val (.int (4 : Int32)), .val .null, .val (.ref u)] [(.int (1 : Int32)), (.ref a)])) rfl rfl (hb hby own_d_jdk_42_method_149_code_48)
  refine OGo.step st533 ?_
  show OGo p e below (T533.setTop (mkF m 51 #[.val (.ref a), .val (.ref ca), .val (.int (0 : Int32)), .val (.int (4 : Int32)), .val .null, .val (.ref u)] [])) _
  have Fw533 := fc531.same W533
  have Nf533 := Fr.snoc X533 Nc530 ga
  have sz533 : n0 ≤ h533.size := by rw [W533.size]; exact sz529
  refine OGo.step (fun _ kk => XS.aloadN X533.here hx rfl (hb hby own_d_jdk_42_method_149_code_51) rfl rfl kk) ?_
  show OGo p e below (T533.setTop (mkF m 52 #[.val (.ref a), .val (.ref ca), .val (.int (0 : Int32)), .val (.int (4 : Int32)), .val .null, .val (.ref u)] [(.ref a)])) _
  refine OGo.step (fun _ kk => XS.aload X533.here hx rfl (hb hby own_d_jdk_42_method_149_code_52) rfl rfl kk) ?_
  show OGo p e below (T533.setTop (mkF m 54 #[.val (.ref a), .val (.ref ca), .val (.int (0 : Int32)), .val (.int (4 : Int32)), .val .null, .val (.ref u)] [(.ref u), (.ref a)])) _
  have fc534 := ((Fv.ext Xe529).other W533 (Or.inr (slot_ne (Or.inr (hw _ (List.mem_of_getElem? (i := 35) rfl))) (Or.inr (hw _ (List.mem_of_getElem? (i := 33) rfl))) (by decide) (t := (.array .byte)) (t' := .byte) (by decide) (by decide))))
  have fc535 := (fc532.wr W533)
  obtain ⟨T536, h536, X536, e536, W536, st536⟩ := putF X533 hx hZ hown (host := "") (Or.inl (hw _ (List.mem_of_getElem? (i := 34) rfl))) Via.refl e533 fc534 fc535 (Or.inr ⟨(hw _ (List.mem_of_getElem? (i := 35) rfl)), rfl, hnm⟩) (hw _ (List.mem_of_getElem? (i := 7) rfl)) (ty := (.array .byte)) (by decide) rfl rfl (g := (mkF m 54 #[.val (.ref a), .val (.ref ca), .val (.int (0 : Int32)), .val (.int (4 : Int32)), .val .null, .val (.ref u)] [(.ref u), (.ref a)])) rfl rfl (hb hby own_d_jdk_42_method_149_code_54)
  refine OGo.step st536 ?_
  show OGo p e below (T536.setTop (mkF m 57 #[.val (.ref a), .val (.ref ca), .val (.int (0 : Int32)), .val (.int (4 : Int32)), .val .null, .val (.ref u)] [])) _
  have Fw536 := fc534.same W536
  have Nf536 := Fr.snoc X536 Nf533 ga
  have sz536 : n0 ≤ h536.size := by rw [W536.size]; exact sz533
  have fc537 := (fc535.wr W536)
  have fc538 := (Fw533.other W536 (Or.inr (slot_ne (Or.inr (hw _ (List.mem_of_getElem? (i := 33) rfl))) (Or.inr (hw _ (List.mem_of_getElem? (i := 35) rfl))) (by decide) (t := .byte) (t' := (.array .byte)) (by decide) (by decide))))
  have fc539 := ((Vu.other W533 (Ne.symm nau)).other W536 (Ne.symm nau))
  have HO : OStr Z h536 a [c0_, c1_, c2_, c3_] := ⟨u, kb, 1, (8 : Int32), _, fc537, Fw536, fc538, fc539, Or.inr ⟨rfl, rfl, rfl, own_ex4 hex⟩, (own_allS hb0 (own_allS hb1 (own_allS hb2 (own_allS hb3 own_all0)))), Nat.le_of_ble_eq_true rfl⟩
  have HK := ((((Keep.refl h0 [a]).ext Xe529).wr W533 (Or.inl (List.mem_of_getElem? (i := 0) rfl))).wr W536 (Or.inl (List.mem_of_getElem? (i := 0) rfl)))
  exact own_ret0 X536 hx hlk hret (hb hby own_d_jdk_42_method_149_code_57) (by rw [e536]; exact ⟨rfl, Nf536, HK, HO⟩) (by decide) (by decide)

set_option maxRecDepth 65536 in
set_option maxHeartbeats 40000000 in
theorem own_new1U4 (l : Launch) (Z : State) (a0 : Array Value) (hw : ∀ d ∈ tables_1, d.before a0 Z = true) (ws : List Jvm.Cond) (a ca : Addr) (kc : ClassId) (c0_ c1_ c2_ c3_ : Int32) (zc : Int32) (h0 : Heap) (n0 : Nat) (Z0 : n0 ≤ h0.size) (SC : Sta Z h0 "java/lang/String" "COMPACT_STRINGS" "Z" (.int zc)) (hzc : ¬ zc = 0) (SA : Sta Z h0 "java/lang/StringUTF16" "$assertionsDisabled" "Z" (.int (1 : Int32))) (SH : Sta Z h0 "java/lang/StringUTF16" "HI_BYTE_SHIFT" "I" (.int (0 : Int32))) (SL : Sta Z h0 "java/lang/StringUTF16" "LO_BYTE_SHIFT" "I" (.int (8 : Int32))) (E1 : Exa Z h0 a "java/lang/String") (Fv : Fld Z h0 a "java/lang/String" "value" "[B" .null) (Fc : Fld Z h0 a "java/lang/String" "coder" "B" (.int (0 : Int32))) (ga : n0 ≤ a) (Vc : Arv Z h0 ca kc .char (4 : Int32) [(.int c0_), (.int c1_), (.int c2_), (.int c3_)] (.int (0 : Int32))) (hb0 : ¬ c0_ < 0 ∧ ¬ (65535 : Int32) < c0_) (hb1 : ¬ c1_ < 0 ∧ ¬ (65535 : Int32) < c1_) (hb2 : ¬ c2_ < 0 ∧ ¬ (65535 : Int32) < c2_) (hb3 : ¬ c3_ < 0 ∧ ¬ (65535 : Int32) < c3_) (hex : (255 : Int32) < c0_ ∨ (255 : Int32) < c1_ ∨ (255 : Int32) < c2_ ∨ (255 : Int32) < c3_) :
    OMet l Z (⟨"java/lang/String", "<init>", "([C)V"⟩ : MethodName) jdk_42_method_3_code 2 none ws ({ frames := 5, cells := 2, slots := 12, locals := 74 } : Room) #[(.ref a), (.ref ca)] h0 (fun v h L => v = none ∧ Fr n0 L ∧ Keep h0 h [a] ∧ OStr Z h a [c0_, c1_, c2_, c3_]) := by
  refine OMet.body (plainFor_of_name own_pn3) ?_
  intro p e s m below meth c s₁ hx hby hml hown hnm hret hlk hZ X0 e0
  refine OGo.step (fun _ kk => castTop (show entryFrame m #[(.ref a), (.ref ca)] 2 = (mkF m 0 #[.val (.ref a), .val (.ref ca)] []) from by first | (simp [entryFrame, mkF, argsToLocals, Value.category]; done) | rfl) kk) ?_
  show OGo p e below (s₁.setTop (mkF m 0 #[.val (.ref a), .val (.ref ca)] [])) _
  obtain ⟨cb, Ab, qb, Sb, Mb, Hb, Gb⟩ := id Vc
  refine OGo.step (fun _ kk => XS.aloadN X0.here hx rfl (hb hby own_d_jdk_42_method_3_code_0) rfl rfl kk) ?_
  show OGo p e below (s₁.setTop (mkF m 1 #[.val (.ref a), .val (.ref ca)] [(.ref a)])) _
  refine OGo.step (fun _ kk => XS.aloadN X0.here hx rfl (hb hby own_d_jdk_42_method_3_code_1) rfl rfl kk) ?_
  show OGo p e below (s₁.setTop (mkF m 2 #[.val (.ref a), .val (.ref ca)] [(.ref ca), (.ref a)])) _
  refine OGo.step (fun _ kk => XS.iconst X0.here hx rfl (hb hby own_d_jdk_42_method_3_code_2) kk) ?_
  show OGo p e below (s₁.setTop (mkF m 3 #[.val (.ref a), .val (.ref ca)] [(.int (0 : Int32)), (.ref ca), (.ref a)])) _
  refine OGo.step (fun _ kk => XS.aloadN X0.here hx rfl (hb hby own_d_jdk_42_method_3_code_3) rfl rfl kk) ?_
  show OGo p e below (s₁.setTop (mkF m 4 #[.val (.ref a), .val (.ref ca)] [(.ref ca), (.int (0 : Int32)), (.ref ca), (.ref a)])) _
  refine OGo.step (fun _ kk => X0.arraylength hx (by rw [e0]; exact (Ab).1) (State.isArrayOf_alike hZ.alike (Ab).2.1) (g := (mkF m 4 #[.val (.ref a), .val (.ref ca)] [(.ref ca), (.int (0 : Int32)), (.ref ca), (.ref a)])) rfl rfl (hb hby own_d_jdk_42_method_3_code_4) _ kk) ?_
  rw [len_of Sb Mb]
  show OGo p e below (s₁.setTop (mkF m 5 #[.val (.ref a), .val (.ref ca)] [(.int (4 : Int32)), (.int (0 : Int32)), (.ref ca), (.ref a)])) _
  refine OGo.step (fun _ kk => XS.aconstNull X0.here hx rfl (hb hby own_d_jdk_42_method_3_code_5) kk) ?_
  show OGo p e below (s₁.setTop (mkF m 6 #[.val (.ref a), .val (.ref ca)] [.null, (.int (4 : Int32)), (.int (0 : Int32)), (.ref ca), (.ref a)])) _
  refine own_special X0 hx hZ (y := (⟨"java/lang/String", "<init>", "([CIILjava/lang/Void;)V"⟩ : MethodName)) rfl hown (hw _ (List.mem_of_getElem? (i := 13) rfl)) (hw _ (List.mem_of_getElem? (i := 14) rfl)) (hw _ (List.mem_of_getElem? (i := 16) rfl)) (hw _ (List.mem_of_getElem? (i := 8) rfl)) (by decide) (a := a) (W := 0) (own_new4U4 l Z a0 hw [] a ca kc c0_ c1_ c2_ c3_ zc h0 n0 Z0 SC hzc SA SH SL E1 Fv Fc ga Vc hb0 hb1 hb2 hb3 hex) e0  (pc := 6) (Ls := #[.val (.ref a), .val (.ref ca)]) (argsL := [(.ref ca), (.int (0 : Int32)), (.int (4 : Int32)), .null]) (rest := []) (by rw [hml]; rfl) (lenOf own_pd9 rfl) rfl (hb hby own_d_jdk_42_method_3_code_6) (by decide) (by decide) (by decide) (by decide) ?_
  intro v540 T540 L540 X540 hQ540
  obtain ⟨rfl, N540, K540, O540⟩ := hQ540
  show OGo p e below (T540.setTop (mkF m 9 #[.val (.ref a), .val (.ref ca)] [])) _
  exact own_ret0 X540 hx hlk hret (hb hby own_d_jdk_42_method_3_code_9) ⟨rfl, Fr.app (Fr.nil n0) N540, K540, O540⟩ (by decide) (by decide)

set_option maxRecDepth 65536 in
set_option maxHeartbeats 40000000 in
theorem own_make (l : Launch) (Z : State) (a0 : Array Value) (hw : ∀ d ∈ tables_1, d.before a0 Z = true) (ws : List Jvm.Cond) (n c0_ c1_ c2_ c3_ zc : Int32) (h0 : Heap) (n0 : Nat) (Z0 : n0 ≤ h0.size) (SC : Sta Z h0 "java/lang/String" "COMPACT_STRINGS" "Z" (.int zc)) (hzc : ¬ zc = 0) (SA : Sta Z h0 "java/lang/StringUTF16" "$assertionsDisabled" "Z" (.int (1 : Int32))) (SH : Sta Z h0 "java/lang/StringUTF16" "HI_BYTE_SHIFT" "I" (.int (0 : Int32))) (SL : Sta Z h0 "java/lang/StringUTF16" "LO_BYTE_SHIFT" "I" (.int (8 : Int32))) :
    OMetW l Z consts_1 (⟨"com/example/lease/lease/model/AddTokenOfPinLaw", "make", "(ICCCC)Ljava/lang/String;"⟩ : MethodName) method_2_code 5 (some (.object "java/lang/String")) ws ({ frames := 6, cells := 6, slots := 20, locals := 88 } : Room) #[(.int n), (.int c0_), (.int c1_), (.int c2_), (.int c3_)] h0 (fun v h L => ∃ x : Addr, v = some (.ref x) ∧ Fr n0 L ∧ Ext h0 h ∧ OStr Z h x (own_mk n c0_ c1_ c2_ c3_)) := by
  refine OMetW.body (plainFor_of_name own_pn0) ?_
  intro p e s m below meth c s₁ hx hby hml hown hnm hret hlk hZ X0 e0 OW0
  have hEL := own_hEL hw
  have wS := own_wS hw
  refine OGo.step (fun _ kk => castTop (show entryFrame m #[(.int n), (.int c0_), (.int c1_), (.int c2_), (.int c3_)] 5 = (mkF m 0 #[.val (.int n), .val (.int c0_), .val (.int c1_), .val (.int c2_), .val (.int c3_)] []) from by first | (simp [entryFrame, mkF, argsToLocals, Value.category]; done) | rfl) kk) ?_
  show OGo p e below (s₁.setTop (mkF m 0 #[.val (.int n), .val (.int c0_), .val (.int c1_), .val (.int c2_), .val (.int c3_)] [])) _
  refine OGo.step (fun _ kk => XS.iloadN X0.here hx rfl (hb hby own_d_method_2_code_0) rfl kk) ?_
  show OGo p e below (s₁.setTop (mkF m 1 #[.val (.int n), .val (.int c0_), .val (.int c1_), .val (.int c2_), .val (.int c3_)] [(.int n)])) _
  by_cases hn0 : n = (0 : Int32)
  · refine OGo.step (fun _ kk => XS.ifNo X0.here hx rfl (hb hby own_d_method_2_code_1) rfl ((if0 _ _).trans (teq hn0).2) kk) ?_
    show OGo p e below (s₁.setTop (mkF m 4 #[.val (.int n), .val (.int c0_), .val (.int c1_), .val (.int c2_), .val (.int c3_)] [])) _
    obtain ⟨T1, h1, X1, e1, E1, A1, D1, U1, st1⟩ := newO X0 hx hZ hown (hw _ (List.mem_of_getElem? (i := 6) rfl)) (hw _ (List.mem_of_getElem? (i := 7) rfl)) (hw _ (List.mem_of_getElem? (i := 8) rfl)) e0 (g := (mkF m 4 #[.val (.int n), .val (.int c0_), .val (.int c1_), .val (.int c2_), .val (.int c3_)] [])) rfl (hb hby own_d_method_2_code_4) (by decide) (by decide)
    obtain ⟨x, g1⟩ : ∃ z, z = h0.size := ⟨_, rfl⟩
    rw [← g1] at A1 D1 U1 st1
    refine OGo.step st1 ?_
    show OGo p e below (T1.setTop (mkF m 7 #[.val (.int n), .val (.int c0_), .val (.int c1_), .val (.int c2_), .val (.int c3_)] [(.ref x)])) _
    have gf_x : n0 ≤ x := Nat.le_trans Z0 (Nat.le_of_eq g1.symm)
    have sz1 : n0 ≤ h1.size := Nat.le_trans Z0 E1.1
    have OW2 := OW0.ext E1
    have F1_coder : Fld Z h1 x "java/lang/String" "coder" "B" (.int (0 : Int32)) := D1 (Or.inr (hw _ (List.mem_of_getElem? (i := 33) rfl))) (ty := .byte) (by decide)
    have F1_value : Fld Z h1 x "java/lang/String" "value" "[B" .null := D1 (Or.inr (hw _ (List.mem_of_getElem? (i := 35) rfl))) (ty := (.array .byte)) (by decide)
    have sf3 := own_safe_null (EL := consts_1) OW2.2.1.alike A1 F1_value
    refine OGo.step (fun _ kk => XS.dup X1.here hx rfl (hb hby own_d_method_2_code_7) rfl rfl kk) ?_
    show OGo p e below (T1.setTop (mkF m 8 #[.val (.int n), .val (.int c0_), .val (.int c1_), .val (.int c2_), .val (.int c3_)] [(.ref x), (.ref x)])) _
    refine OGo.step (fun _ kk => XS.iconst X1.here hx rfl (hb hby own_d_method_2_code_8) kk) ?_
    show OGo p e below (T1.setTop (mkF m 9 #[.val (.int n), .val (.int c0_), .val (.int c1_), .val (.int c2_), .val (.int c3_)] [(.int (0 : Int32)), (.ref x), (.ref x)])) _
    obtain ⟨T4, h4, k4, X4, e4, E4, A4, st4⟩ := newP X1 hx hZ (hw _ (List.mem_of_getElem? (i := 9) rfl)) e1 (g := (mkF m 9 #[.val (.int n), .val (.int c0_), .val (.int c1_), .val (.int c2_), .val (.int c3_)] [(.int (0 : Int32)), (.ref x), (.ref x)])) rfl (hb hby own_d_method_2_code_9) rfl (by decide) (cap := 0) (by decide) (by decide) (by decide) (by decide)
    obtain ⟨b, g4⟩ : ∃ z, z = h1.size := ⟨_, rfl⟩
    rw [← g4] at A4 st4
    refine OGo.step st4 ?_
    show OGo p e below (T4.setTop (mkF m 11 #[.val (.int n), .val (.int c0_), .val (.int c1_), .val (.int c2_), .val (.int c3_)] [(.ref b), (.ref x), (.ref x)])) _
    have ne_x_b : x ≠ b := Nat.ne_of_lt (Nat.lt_of_lt_of_le A1.lt (Nat.le_of_eq g4.symm))
    have gf_b : n0 ≤ b := Nat.le_trans sz1 (Nat.le_of_eq g4.symm)
    have sz4 : n0 ≤ h4.size := Nat.le_trans sz1 E4.1
    have sf5 := Safe.ext E4 OW2.chv sf3
    have OW6 := OW2.ext E4
    have Va7 : Arv Z h4 b k4 .char (0 : Int32) [] (.int (0 : Int32)) := (Arv.new A4 (by decide)).pad (pad_rep [] (.int (0 : Int32)) 0)
    have fc8 := (A1.ext E4)
    have fc9 := (F1_value.ext E4)
    have fc10 := (F1_coder.ext E4)
    refine own_specialW X4 hx hZ (y := (⟨"java/lang/String", "<init>", "([C)V"⟩ : MethodName)) rfl hown (hw _ (List.mem_of_getElem? (i := 10) rfl)) (hw _ (List.mem_of_getElem? (i := 11) rfl)) (hw _ (List.mem_of_getElem? (i := 12) rfl)) (hw _ (List.mem_of_getElem? (i := 8) rfl)) (by decide) hEL OW6 (a := x) (W := 1) (own_new1E l Z a0 hw [] x b _ h4 n0 sz4 fc8 fc9 fc10 gf_x Va7) e4  (pc := 11) (Ls := #[.val (.int n), .val (.int c0_), .val (.int c1_), .val (.int c2_), .val (.int c3_)]) (argsL := [(.ref b)]) (rest := [(.ref x)]) (by rw [hml]; rfl) (lenOf own_pd0 rfl) rfl (hb hby own_d_method_2_code_11) (by decide) (by decide) (by decide) (by decide) ?_
    intro v11 T11 L11 X11 hQ11 OW11 hZ hown CH11
    obtain ⟨rfl, N11, K11, O11⟩ := hQ11
    have sf12 := CH11.safe (fc8).lt sf5
    show OGo p e below (T11.setTop (mkF m 14 #[.val (.int n), .val (.int c0_), .val (.int c1_), .val (.int c2_), .val (.int c3_)] [(.ref x)])) _
    have Nc11 := Fr.app (Fr.nil n0) N11
    have sz11 : n0 ≤ T11.heap.size := Nat.le_trans sz4 K11.1
    have xt13 := (own_ext_trans E1 E4)
    have xt14 := (own_ext_keep xt13 K11 (allS (Nat.le_of_eq g1.symm) all0))
    exact own_retW X11 hx hlk hEL OW11 rfl hret rfl (Or.inr (Or.inr (Or.inr (Or.inr ⟨rfl, rfl, rfl⟩)))) (hb hby own_d_method_2_code_14) ⟨x, rfl, Nc11, xt14, by rw [own_mk, if_pos hn0]; exact O11⟩ (by decide) (by decide)
  · refine OGo.step (fun _ kk => XS.ifYes X0.here hx rfl (pc0 := 1) (pc' := 15) rfl (hb hby own_d_method_2_code_1) rfl ((if0 _ _).trans (feq hn0).2) (by decide) (by decide) kk) ?_
    show OGo p e below (s₁.setTop (mkF m 15 #[.val (.int n), .val (.int c0_), .val (.int c1_), .val (.int c2_), .val (.int c3_)] [])) _
    refine OGo.step (fun _ kk => XS.iloadN X0.here hx rfl (hb hby own_d_method_2_code_15) rfl kk) ?_
    show OGo p e below (s₁.setTop (mkF m 16 #[.val (.int n), .val (.int c0_), .val (.int c1_), .val (.int c2_), .val (.int c3_)] [(.int n)])) _
    refine OGo.step (fun _ kk => XS.iconst X0.here hx rfl (hb hby own_d_method_2_code_16) kk) ?_
    show OGo p e below (s₁.setTop (mkF m 17 #[.val (.int n), .val (.int c0_), .val (.int c1_), .val (.int c2_), .val (.int c3_)] [(.int (1 : Int32)), (.int n)])) _
    by_cases hn1 : n = (1 : Int32)
    · refine OGo.step (fun _ kk => XS.icmpNo X0.here hx rfl (hb hby own_d_method_2_code_17) rfl (teq hn1).2 kk) ?_
      show OGo p e below (s₁.setTop (mkF m 20 #[.val (.int n), .val (.int c0_), .val (.int c1_), .val (.int c2_), .val (.int c3_)] [])) _
      obtain ⟨T15, h15, X15, e15, E15, A15, D15, U15, st15⟩ := newO X0 hx hZ hown (hw _ (List.mem_of_getElem? (i := 6) rfl)) (hw _ (List.mem_of_getElem? (i := 7) rfl)) (hw _ (List.mem_of_getElem? (i := 8) rfl)) e0 (g := (mkF m 20 #[.val (.int n), .val (.int c0_), .val (.int c1_), .val (.int c2_), .val (.int c3_)] [])) rfl (hb hby own_d_method_2_code_20) (by decide) (by decide)
      obtain ⟨x, g15⟩ : ∃ z, z = h0.size := ⟨_, rfl⟩
      rw [← g15] at A15 D15 U15 st15
      refine OGo.step st15 ?_
      show OGo p e below (T15.setTop (mkF m 23 #[.val (.int n), .val (.int c0_), .val (.int c1_), .val (.int c2_), .val (.int c3_)] [(.ref x)])) _
      have gf_x : n0 ≤ x := Nat.le_trans Z0 (Nat.le_of_eq g15.symm)
      have sz15 : n0 ≤ h15.size := Nat.le_trans Z0 E15.1
      have OW16 := OW0.ext E15
      have F15_coder : Fld Z h15 x "java/lang/String" "coder" "B" (.int (0 : Int32)) := D15 (Or.inr (hw _ (List.mem_of_getElem? (i := 33) rfl))) (ty := .byte) (by decide)
      have F15_value : Fld Z h15 x "java/lang/String" "value" "[B" .null := D15 (Or.inr (hw _ (List.mem_of_getElem? (i := 35) rfl))) (ty := (.array .byte)) (by decide)
      have sf17 := own_safe_null (EL := consts_1) OW16.2.1.alike A15 F15_value
      refine OGo.step (fun _ kk => XS.dup X15.here hx rfl (hb hby own_d_method_2_code_23) rfl rfl kk) ?_
      show OGo p e below (T15.setTop (mkF m 24 #[.val (.int n), .val (.int c0_), .val (.int c1_), .val (.int c2_), .val (.int c3_)] [(.ref x), (.ref x)])) _
      refine OGo.step (fun _ kk => XS.iconst X15.here hx rfl (hb hby own_d_method_2_code_24) kk) ?_
      show OGo p e below (T15.setTop (mkF m 25 #[.val (.int n), .val (.int c0_), .val (.int c1_), .val (.int c2_), .val (.int c3_)] [(.int (1 : Int32)), (.ref x), (.ref x)])) _
      obtain ⟨T18, h18, k18, X18, e18, E18, A18, st18⟩ := newP X15 hx hZ (hw _ (List.mem_of_getElem? (i := 9) rfl)) e15 (g := (mkF m 25 #[.val (.int n), .val (.int c0_), .val (.int c1_), .val (.int c2_), .val (.int c3_)] [(.int (1 : Int32)), (.ref x), (.ref x)])) rfl (hb hby own_d_method_2_code_25) rfl (by decide) (cap := 1) (by decide) (by decide) (by decide) (by decide)
      obtain ⟨b, g18⟩ : ∃ z, z = h15.size := ⟨_, rfl⟩
      rw [← g18] at A18 st18
      refine OGo.step st18 ?_
      show OGo p e below (T18.setTop (mkF m 27 #[.val (.int n), .val (.int c0_), .val (.int c1_), .val (.int c2_), .val (.int c3_)] [(.ref b), (.ref x), (.ref x)])) _
      have ne_x_b : x ≠ b := Nat.ne_of_lt (Nat.lt_of_lt_of_le A15.lt (Nat.le_of_eq g18.symm))
      have gf_b : n0 ≤ b := Nat.le_trans sz15 (Nat.le_of_eq g18.symm)
      have sz18 : n0 ≤ h18.size := Nat.le_trans sz15 E18.1
      have sf19 := Safe.ext E18 OW16.chv sf17
      have OW20 := OW16.ext E18
      have Va21 : Arv Z h18 b k18 .char (1 : Int32) [(.int (0 : Int32))] (.int (0 : Int32)) := (Arv.new A18 (by decide)).pad (pad_rep [] (.int (0 : Int32)) 1)
      refine OGo.step (fun _ kk => XS.dup X18.here hx rfl (hb hby own_d_method_2_code_27) rfl rfl kk) ?_
      show OGo p e below (T18.setTop (mkF m 28 #[.val (.int n), .val (.int c0_), .val (.int c1_), .val (.int c2_), .val (.int c3_)] [(.ref b), (.ref b), (.ref x), (.ref x)])) _
      refine OGo.step (fun _ kk => XS.iconst X18.here hx rfl (hb hby own_d_method_2_code_28) kk) ?_
      show OGo p e below (T18.setTop (mkF m 29 #[.val (.int n), .val (.int c0_), .val (.int c1_), .val (.int c2_), .val (.int c3_)] [(.int (0 : Int32)), (.ref b), (.ref b), (.ref x), (.ref x)])) _
      refine OGo.step (fun _ kk => XS.iloadN X18.here hx rfl (hb hby own_d_method_2_code_29) rfl kk) ?_
      show OGo p e below (T18.setTop (mkF m 30 #[.val (.int n), .val (.int c0_), .val (.int c1_), .val (.int c2_), .val (.int c3_)] [(.int c0_), (.int (0 : Int32)), (.ref b), (.ref b), (.ref x), (.ref x)])) _
      obtain ⟨cA22, A22, q22, S22, M22, H22, G22⟩ := Va21
      obtain ⟨T23, h23, X23, e23, W23, st23⟩ := stC X18 hx hZ e18 A22 (j := (0 : Int32)) (inb_of S22 ⟨by decide, by decide⟩) (g := (mkF m 30 #[.val (.int n), .val (.int c0_), .val (.int c1_), .val (.int c2_), .val (.int c3_)] [(.int c0_), (.int (0 : Int32)), (.ref b), (.ref b), (.ref x), (.ref x)])) rfl rfl (hb hby own_d_method_2_code_30)
      refine OGo.step st23 ?_
      show OGo p e below (T23.setTop (mkF m 31 #[.val (.int n), .val (.int c0_), .val (.int c1_), .val (.int c2_), .val (.int c3_)] [(.ref b), (.ref x), (.ref x)])) _
      have Va22 : Arv Z h23 b k18 .char (1 : Int32) [(.int (nar .char c0_))] (.int (0 : Int32)) := Arv.set A22 q22 S22 M22 H22 G22 (fits_nar_char _) W23 0 rfl (Nat.le_of_ble_eq_true rfl)
      have Nf23 := Fr.snoc X23 (Fr.nil n0) gf_b
      have sz23 : n0 ≤ h23.size := by rw [W23.size]; exact sz18
      have sw24 := (Safe.arr (EL := consts_1) OW20.2.1.alike A22 (by decide))
      have sf25 := Safe.wr W23 sw24 OW20.chv sf19
      have OW26 := OW20.wr W23 sw24
      have fc27 := ((A15.ext E18).wr W23)
      have fc28 := ((F15_value.ext E18).other W23 (Or.inl ne_x_b))
      have fc29 := ((F15_coder.ext E18).other W23 (Or.inl ne_x_b))
      have xt30 := (own_ext_trans E15 E18)
      have xt31 := (own_ext_wr xt30 W23 (Nat.le_trans E15.1 (Nat.le_of_eq g18.symm)))
      have fx32 := SC.ext xt31
      have fx33 := SA.ext xt31
      have fx34 := SH.ext xt31
      have fx35 := SL.ext xt31
      by_cases hall : (255 : Int32) < (nar .char c0_)
      · refine own_special X23 hx hZ (y := (⟨"java/lang/String", "<init>", "([C)V"⟩ : MethodName)) rfl hown (hw _ (List.mem_of_getElem? (i := 10) rfl)) (hw _ (List.mem_of_getElem? (i := 11) rfl)) (hw _ (List.mem_of_getElem? (i := 12) rfl)) (hw _ (List.mem_of_getElem? (i := 8) rfl)) (by decide) (a := x) (W := 1) (own_new1U1 l Z a0 hw [] x b _ (nar .char c0_) zc h23 n0 sz23 fx32 hzc fx33 fx34 fx35 fc27 fc28 fc29 gf_x Va22 (own_nar16 _) hall) e23  (pc := 31) (Ls := #[.val (.int n), .val (.int c0_), .val (.int c1_), .val (.int c2_), .val (.int c3_)]) (argsL := [(.ref b)]) (rest := [(.ref x)]) (by rw [hml]; rfl) (lenOf own_pd0 rfl) rfl (hb hby own_d_method_2_code_31) (by decide) (by decide) (by decide) (by decide) ?_
        intro v36 T36 L36 X36 hQ36
        obtain ⟨rfl, N36, K36, O36⟩ := hQ36
        show OGo p e below (T36.setTop (mkF m 34 #[.val (.int n), .val (.int c0_), .val (.int c1_), .val (.int c2_), .val (.int c3_)] [(.ref x)])) _
        have Nc36 := Fr.app Nf23 N36
        have sz36 : n0 ≤ T36.heap.size := Nat.le_trans sz23 K36.1
        have sf37 := Safe.keep K36 (sfS sf25 sf0) OW26.chv sf25
        have OW38 := OW26.keep K36 (sfS sf25 sf0)
        have xt39 := (own_ext_keep xt31 K36 (allS (Nat.le_of_eq g15.symm) all0))
        exact own_retW X36 hx hlk hEL OW38 rfl hret rfl (Or.inr (Or.inr (Or.inr (Or.inr ⟨rfl, rfl, rfl⟩)))) (hb hby own_d_method_2_code_34) ⟨x, rfl, Nc36, xt39, by rw [own_mk, if_neg hn0, if_pos hn1]; exact O36⟩ (by decide) (by decide)
      · have hpx : ∀ c ∈ ([(nar .char c0_)] : List Int32), ¬ c < 0 ∧ ¬ (255 : Int32) < c := (own_allS ⟨(own_nar16 _).1, (fun z => hall z)⟩ own_all0)
        refine own_specialK X23 hx hZ (y := (⟨"java/lang/String", "<init>", "([C)V"⟩ : MethodName)) rfl hown (hw _ (List.mem_of_getElem? (i := 10) rfl)) (hw _ (List.mem_of_getElem? (i := 11) rfl)) (hw _ (List.mem_of_getElem? (i := 12) rfl)) (by decide) (a := x) (W := 1) (StrChars.Road.backV (W := 1) hZ (fun d hd => hw d ((by decide +kernel : ∀ d ∈ StrChars.Road.words, d ∈ tables_1) d hd)) (kI := 4) (hw _ (List.mem_of_getElem? (i := 7) rfl)) (cs := ([(nar .char c0_)] : List Int32)) (bs := (([(nar .char c0_)] : List Int32)).map (fun c => c.toInt8.toInt32)) (n := 1) gf_x sz23 fc27 fc28 fc29 Va22 fx32 hzc rfl rfl (by decide) (by decide) hpx rfl (by decide) (by decide)) e23 (pc := 31) (Ls := #[.val (.int n), .val (.int c0_), .val (.int c1_), .val (.int c2_), .val (.int c3_)]) (argsL := [(.ref b)]) (rest := [(.ref x)]) (by rw [hml]; rfl) (lenOf own_pd0 rfl) rfl (hb hby own_d_method_2_code_31) (by decide) (by decide) ?_
        intro v40 T40 L40 X40 hQ40
        obtain ⟨rfl, N40, K40, Ex40, Fc40, t40, kb40, u140, u240, u340, Fv40, Av40⟩ := hQ40
        show OGo p e below (T40.setTop (mkF m 34 #[.val (.int n), .val (.int c0_), .val (.int c1_), .val (.int c2_), .val (.int c3_)] [(.ref x)])) _
        have Nc40 := Fr.app Nf23 N40
        have sz40 : n0 ≤ T40.heap.size := Nat.le_trans sz23 K40.1
        have sf41 := Safe.keep K40 (sfS sf25 sf0) OW26.chv sf25
        have OW42 := OW26.keep K40 (sfS sf25 sf0)
        have O40 : OStr Z T40.heap x ([(nar .char c0_)] : List Int32) := ⟨t40, kb40, 0, (1 : Int32), _, Ex40, Fv40, Fc40, Av40, StrChars.Road.codOf (n := 1) rfl (fun c hc => (hpx c hc).2), own_up _ hpx, Nat.le_of_ble_eq_true rfl⟩
        have xt43 := (own_ext_keep xt31 K40 (allS (Nat.le_of_eq g15.symm) all0))
        exact own_retW X40 hx hlk hEL OW42 rfl hret rfl (Or.inr (Or.inr (Or.inr (Or.inr ⟨rfl, rfl, rfl⟩)))) (hb hby own_d_method_2_code_34) ⟨x, rfl, Nc40, xt43, by rw [own_mk, if_neg hn0, if_pos hn1]; exact O40⟩ (by decide) (by decide)
    · refine OGo.step (fun _ kk => XS.icmpYes X0.here hx rfl (pc0 := 17) (pc' := 35) rfl (hb hby own_d_method_2_code_17) rfl (feq hn1).2 (by decide) (by decide) kk) ?_
      show OGo p e below (s₁.setTop (mkF m 35 #[.val (.int n), .val (.int c0_), .val (.int c1_), .val (.int c2_), .val (.int c3_)] [])) _
      refine OGo.step (fun _ kk => XS.iloadN X0.here hx rfl (hb hby own_d_method_2_code_35) rfl kk) ?_
      show OGo p e below (s₁.setTop (mkF m 36 #[.val (.int n), .val (.int c0_), .val (.int c1_), .val (.int c2_), .val (.int c3_)] [(.int n)])) _
      refine OGo.step (fun _ kk => XS.iconst X0.here hx rfl (hb hby own_d_method_2_code_36) kk) ?_
      show OGo p e below (s₁.setTop (mkF m 37 #[.val (.int n), .val (.int c0_), .val (.int c1_), .val (.int c2_), .val (.int c3_)] [(.int (2 : Int32)), (.int n)])) _
      by_cases hn2 : n = (2 : Int32)
      · refine OGo.step (fun _ kk => XS.icmpNo X0.here hx rfl (hb hby own_d_method_2_code_37) rfl (teq hn2).2 kk) ?_
        show OGo p e below (s₁.setTop (mkF m 40 #[.val (.int n), .val (.int c0_), .val (.int c1_), .val (.int c2_), .val (.int c3_)] [])) _
        obtain ⟨T44, h44, X44, e44, E44, A44, D44, U44, st44⟩ := newO X0 hx hZ hown (hw _ (List.mem_of_getElem? (i := 6) rfl)) (hw _ (List.mem_of_getElem? (i := 7) rfl)) (hw _ (List.mem_of_getElem? (i := 8) rfl)) e0 (g := (mkF m 40 #[.val (.int n), .val (.int c0_), .val (.int c1_), .val (.int c2_), .val (.int c3_)] [])) rfl (hb hby own_d_method_2_code_40) (by decide) (by decide)
        obtain ⟨x, g44⟩ : ∃ z, z = h0.size := ⟨_, rfl⟩
        rw [← g44] at A44 D44 U44 st44
        refine OGo.step st44 ?_
        show OGo p e below (T44.setTop (mkF m 43 #[.val (.int n), .val (.int c0_), .val (.int c1_), .val (.int c2_), .val (.int c3_)] [(.ref x)])) _
        have gf_x : n0 ≤ x := Nat.le_trans Z0 (Nat.le_of_eq g44.symm)
        have sz44 : n0 ≤ h44.size := Nat.le_trans Z0 E44.1
        have OW45 := OW0.ext E44
        have F44_coder : Fld Z h44 x "java/lang/String" "coder" "B" (.int (0 : Int32)) := D44 (Or.inr (hw _ (List.mem_of_getElem? (i := 33) rfl))) (ty := .byte) (by decide)
        have F44_value : Fld Z h44 x "java/lang/String" "value" "[B" .null := D44 (Or.inr (hw _ (List.mem_of_getElem? (i := 35) rfl))) (ty := (.array .byte)) (by decide)
        have sf46 := own_safe_null (EL := consts_1) OW45.2.1.alike A44 F44_value
        refine OGo.step (fun _ kk => XS.dup X44.here hx rfl (hb hby own_d_method_2_code_43) rfl rfl kk) ?_
        show OGo p e below (T44.setTop (mkF m 44 #[.val (.int n), .val (.int c0_), .val (.int c1_), .val (.int c2_), .val (.int c3_)] [(.ref x), (.ref x)])) _
        refine OGo.step (fun _ kk => XS.iconst X44.here hx rfl (hb hby own_d_method_2_code_44) kk) ?_
        show OGo p e below (T44.setTop (mkF m 45 #[.val (.int n), .val (.int c0_), .val (.int c1_), .val (.int c2_), .val (.int c3_)] [(.int (2 : Int32)), (.ref x), (.ref x)])) _
        obtain ⟨T47, h47, k47, X47, e47, E47, A47, st47⟩ := newP X44 hx hZ (hw _ (List.mem_of_getElem? (i := 9) rfl)) e44 (g := (mkF m 45 #[.val (.int n), .val (.int c0_), .val (.int c1_), .val (.int c2_), .val (.int c3_)] [(.int (2 : Int32)), (.ref x), (.ref x)])) rfl (hb hby own_d_method_2_code_45) rfl (by decide) (cap := 2) (by decide) (by decide) (by decide) (by decide)
        obtain ⟨b, g47⟩ : ∃ z, z = h44.size := ⟨_, rfl⟩
        rw [← g47] at A47 st47
        refine OGo.step st47 ?_
        show OGo p e below (T47.setTop (mkF m 47 #[.val (.int n), .val (.int c0_), .val (.int c1_), .val (.int c2_), .val (.int c3_)] [(.ref b), (.ref x), (.ref x)])) _
        have ne_x_b : x ≠ b := Nat.ne_of_lt (Nat.lt_of_lt_of_le A44.lt (Nat.le_of_eq g47.symm))
        have gf_b : n0 ≤ b := Nat.le_trans sz44 (Nat.le_of_eq g47.symm)
        have sz47 : n0 ≤ h47.size := Nat.le_trans sz44 E47.1
        have sf48 := Safe.ext E47 OW45.chv sf46
        have OW49 := OW45.ext E47
        have Va50 : Arv Z h47 b k47 .char (2 : Int32) [(.int (0 : Int32)), (.int (0 : Int32))] (.int (0 : Int32)) := (Arv.new A47 (by decide)).pad (pad_rep [] (.int (0 : Int32)) 2)
        refine OGo.step (fun _ kk => XS.dup X47.here hx rfl (hb hby own_d_method_2_code_47) rfl rfl kk) ?_
        show OGo p e below (T47.setTop (mkF m 48 #[.val (.int n), .val (.int c0_), .val (.int c1_), .val (.int c2_), .val (.int c3_)] [(.ref b), (.ref b), (.ref x), (.ref x)])) _
        refine OGo.step (fun _ kk => XS.iconst X47.here hx rfl (hb hby own_d_method_2_code_48) kk) ?_
        show OGo p e below (T47.setTop (mkF m 49 #[.val (.int n), .val (.int c0_), .val (.int c1_), .val (.int c2_), .val (.int c3_)] [(.int (0 : Int32)), (.ref b), (.ref b), (.ref x), (.ref x)])) _
        refine OGo.step (fun _ kk => XS.iloadN X47.here hx rfl (hb hby own_d_method_2_code_49) rfl kk) ?_
        show OGo p e below (T47.setTop (mkF m 50 #[.val (.int n), .val (.int c0_), .val (.int c1_), .val (.int c2_), .val (.int c3_)] [(.int c0_), (.int (0 : Int32)), (.ref b), (.ref b), (.ref x), (.ref x)])) _
        obtain ⟨cA51, A51, q51, S51, M51, H51, G51⟩ := Va50
        obtain ⟨T52, h52, X52, e52, W52, st52⟩ := stC X47 hx hZ e47 A51 (j := (0 : Int32)) (inb_of S51 ⟨by decide, by decide⟩) (g := (mkF m 50 #[.val (.int n), .val (.int c0_), .val (.int c1_), .val (.int c2_), .val (.int c3_)] [(.int c0_), (.int (0 : Int32)), (.ref b), (.ref b), (.ref x), (.ref x)])) rfl rfl (hb hby own_d_method_2_code_50)
        refine OGo.step st52 ?_
        show OGo p e below (T52.setTop (mkF m 51 #[.val (.int n), .val (.int c0_), .val (.int c1_), .val (.int c2_), .val (.int c3_)] [(.ref b), (.ref x), (.ref x)])) _
        have Va51 : Arv Z h52 b k47 .char (2 : Int32) [(.int (nar .char c0_)), (.int (0 : Int32))] (.int (0 : Int32)) := Arv.set A51 q51 S51 M51 H51 G51 (fits_nar_char _) W52 0 rfl (Nat.le_of_ble_eq_true rfl)
        have Nf52 := Fr.snoc X52 (Fr.nil n0) gf_b
        have sz52 : n0 ≤ h52.size := by rw [W52.size]; exact sz47
        have sw53 := (Safe.arr (EL := consts_1) OW49.2.1.alike A51 (by decide))
        have sf54 := Safe.wr W52 sw53 OW49.chv sf48
        have OW55 := OW49.wr W52 sw53
        refine OGo.step (fun _ kk => XS.dup X52.here hx rfl (hb hby own_d_method_2_code_51) rfl rfl kk) ?_
        show OGo p e below (T52.setTop (mkF m 52 #[.val (.int n), .val (.int c0_), .val (.int c1_), .val (.int c2_), .val (.int c3_)] [(.ref b), (.ref b), (.ref x), (.ref x)])) _
        refine OGo.step (fun _ kk => XS.iconst X52.here hx rfl (hb hby own_d_method_2_code_52) kk) ?_
        show OGo p e below (T52.setTop (mkF m 53 #[.val (.int n), .val (.int c0_), .val (.int c1_), .val (.int c2_), .val (.int c3_)] [(.int (1 : Int32)), (.ref b), (.ref b), (.ref x), (.ref x)])) _
        refine OGo.step (fun _ kk => XS.iloadN X52.here hx rfl (hb hby own_d_method_2_code_53) rfl kk) ?_
        show OGo p e below (T52.setTop (mkF m 54 #[.val (.int n), .val (.int c0_), .val (.int c1_), .val (.int c2_), .val (.int c3_)] [(.int c1_), (.int (1 : Int32)), (.ref b), (.ref b), (.ref x), (.ref x)])) _
        obtain ⟨cA56, A56, q56, S56, M56, H56, G56⟩ := Va51
        obtain ⟨T57, h57, X57, e57, W57, st57⟩ := stC X52 hx hZ e52 A56 (j := (1 : Int32)) (inb_of S56 ⟨by decide, by decide⟩) (g := (mkF m 54 #[.val (.int n), .val (.int c0_), .val (.int c1_), .val (.int c2_), .val (.int c3_)] [(.int c1_), (.int (1 : Int32)), (.ref b), (.ref b), (.ref x), (.ref x)])) rfl rfl (hb hby own_d_method_2_code_54)
        refine OGo.step st57 ?_
        show OGo p e below (T57.setTop (mkF m 55 #[.val (.int n), .val (.int c0_), .val (.int c1_), .val (.int c2_), .val (.int c3_)] [(.ref b), (.ref x), (.ref x)])) _
        have Va56 : Arv Z h57 b k47 .char (2 : Int32) [(.int (nar .char c0_)), (.int (nar .char c1_))] (.int (0 : Int32)) := Arv.set A56 q56 S56 M56 H56 G56 (fits_nar_char _) W57 1 rfl (Nat.le_of_ble_eq_true rfl)
        have Nf57 := Fr.snoc X57 Nf52 gf_b
        have sz57 : n0 ≤ h57.size := by rw [W57.size]; exact sz52
        have sw58 := (Safe.arr (EL := consts_1) OW55.2.1.alike A56 (by decide))
        have sf59 := Safe.wr W57 sw58 OW55.chv sf54
        have OW60 := OW55.wr W57 sw58
        have fc61 := (((A44.ext E47).wr W52).wr W57)
        have fc62 := (((F44_value.ext E47).other W52 (Or.inl ne_x_b)).other W57 (Or.inl ne_x_b))
        have fc63 := (((F44_coder.ext E47).other W52 (Or.inl ne_x_b)).other W57 (Or.inl ne_x_b))
        have xt64 := (own_ext_trans E44 E47)
        have xt65 := (own_ext_wr xt64 W52 (Nat.le_trans E44.1 (Nat.le_of_eq g47.symm)))
        have xt66 := (own_ext_wr xt65 W57 (Nat.le_trans E44.1 (Nat.le_of_eq g47.symm)))
        have fx67 := SC.ext xt66
        have fx68 := SA.ext xt66
        have fx69 := SH.ext xt66
        have fx70 := SL.ext xt66
        by_cases hall : (255 : Int32) < (nar .char c0_) ∨ (255 : Int32) < (nar .char c1_)
        · refine own_special X57 hx hZ (y := (⟨"java/lang/String", "<init>", "([C)V"⟩ : MethodName)) rfl hown (hw _ (List.mem_of_getElem? (i := 10) rfl)) (hw _ (List.mem_of_getElem? (i := 11) rfl)) (hw _ (List.mem_of_getElem? (i := 12) rfl)) (hw _ (List.mem_of_getElem? (i := 8) rfl)) (by decide) (a := x) (W := 1) (own_new1U2 l Z a0 hw [] x b _ (nar .char c0_) (nar .char c1_) zc h57 n0 sz57 fx67 hzc fx68 fx69 fx70 fc61 fc62 fc63 gf_x Va56 (own_nar16 _) (own_nar16 _) hall) e57  (pc := 55) (Ls := #[.val (.int n), .val (.int c0_), .val (.int c1_), .val (.int c2_), .val (.int c3_)]) (argsL := [(.ref b)]) (rest := [(.ref x)]) (by rw [hml]; rfl) (lenOf own_pd0 rfl) rfl (hb hby own_d_method_2_code_55) (by decide) (by decide) (by decide) (by decide) ?_
          intro v71 T71 L71 X71 hQ71
          obtain ⟨rfl, N71, K71, O71⟩ := hQ71
          show OGo p e below (T71.setTop (mkF m 58 #[.val (.int n), .val (.int c0_), .val (.int c1_), .val (.int c2_), .val (.int c3_)] [(.ref x)])) _
          have Nc71 := Fr.app Nf57 N71
          have sz71 : n0 ≤ T71.heap.size := Nat.le_trans sz57 K71.1
          have sf72 := Safe.keep K71 (sfS sf59 sf0) OW60.chv sf59
          have OW73 := OW60.keep K71 (sfS sf59 sf0)
          have xt74 := (own_ext_keep xt66 K71 (allS (Nat.le_of_eq g44.symm) all0))
          exact own_retW X71 hx hlk hEL OW73 rfl hret rfl (Or.inr (Or.inr (Or.inr (Or.inr ⟨rfl, rfl, rfl⟩)))) (hb hby own_d_method_2_code_58) ⟨x, rfl, Nc71, xt74, by rw [own_mk, if_neg hn0, if_neg hn1, if_pos hn2]; exact O71⟩ (by decide) (by decide)
        · have hpx : ∀ c ∈ ([(nar .char c0_), (nar .char c1_)] : List Int32), ¬ c < 0 ∧ ¬ (255 : Int32) < c := (own_allS ⟨(own_nar16 _).1, (fun z => hall (Or.inl z))⟩ (own_allS ⟨(own_nar16 _).1, (fun z => hall (Or.inr z))⟩ own_all0))
          refine own_specialK X57 hx hZ (y := (⟨"java/lang/String", "<init>", "([C)V"⟩ : MethodName)) rfl hown (hw _ (List.mem_of_getElem? (i := 10) rfl)) (hw _ (List.mem_of_getElem? (i := 11) rfl)) (hw _ (List.mem_of_getElem? (i := 12) rfl)) (by decide) (a := x) (W := 1) (StrChars.Road.backV (W := 1) hZ (fun d hd => hw d ((by decide +kernel : ∀ d ∈ StrChars.Road.words, d ∈ tables_1) d hd)) (kI := 4) (hw _ (List.mem_of_getElem? (i := 7) rfl)) (cs := ([(nar .char c0_), (nar .char c1_)] : List Int32)) (bs := (([(nar .char c0_), (nar .char c1_)] : List Int32)).map (fun c => c.toInt8.toInt32)) (n := 2) gf_x sz57 fc61 fc62 fc63 Va56 fx67 hzc rfl rfl (by decide) (by decide) hpx rfl (by decide) (by decide)) e57 (pc := 55) (Ls := #[.val (.int n), .val (.int c0_), .val (.int c1_), .val (.int c2_), .val (.int c3_)]) (argsL := [(.ref b)]) (rest := [(.ref x)]) (by rw [hml]; rfl) (lenOf own_pd0 rfl) rfl (hb hby own_d_method_2_code_55) (by decide) (by decide) ?_
          intro v75 T75 L75 X75 hQ75
          obtain ⟨rfl, N75, K75, Ex75, Fc75, t75, kb75, u175, u275, u375, Fv75, Av75⟩ := hQ75
          show OGo p e below (T75.setTop (mkF m 58 #[.val (.int n), .val (.int c0_), .val (.int c1_), .val (.int c2_), .val (.int c3_)] [(.ref x)])) _
          have Nc75 := Fr.app Nf57 N75
          have sz75 : n0 ≤ T75.heap.size := Nat.le_trans sz57 K75.1
          have sf76 := Safe.keep K75 (sfS sf59 sf0) OW60.chv sf59
          have OW77 := OW60.keep K75 (sfS sf59 sf0)
          have O75 : OStr Z T75.heap x ([(nar .char c0_), (nar .char c1_)] : List Int32) := ⟨t75, kb75, 0, (2 : Int32), _, Ex75, Fv75, Fc75, Av75, StrChars.Road.codOf (n := 2) rfl (fun c hc => (hpx c hc).2), own_up _ hpx, Nat.le_of_ble_eq_true rfl⟩
          have xt78 := (own_ext_keep xt66 K75 (allS (Nat.le_of_eq g44.symm) all0))
          exact own_retW X75 hx hlk hEL OW77 rfl hret rfl (Or.inr (Or.inr (Or.inr (Or.inr ⟨rfl, rfl, rfl⟩)))) (hb hby own_d_method_2_code_58) ⟨x, rfl, Nc75, xt78, by rw [own_mk, if_neg hn0, if_neg hn1, if_pos hn2]; exact O75⟩ (by decide) (by decide)
      · refine OGo.step (fun _ kk => XS.icmpYes X0.here hx rfl (pc0 := 37) (pc' := 59) rfl (hb hby own_d_method_2_code_37) rfl (feq hn2).2 (by decide) (by decide) kk) ?_
        show OGo p e below (s₁.setTop (mkF m 59 #[.val (.int n), .val (.int c0_), .val (.int c1_), .val (.int c2_), .val (.int c3_)] [])) _
        refine OGo.step (fun _ kk => XS.iloadN X0.here hx rfl (hb hby own_d_method_2_code_59) rfl kk) ?_
        show OGo p e below (s₁.setTop (mkF m 60 #[.val (.int n), .val (.int c0_), .val (.int c1_), .val (.int c2_), .val (.int c3_)] [(.int n)])) _
        refine OGo.step (fun _ kk => XS.iconst X0.here hx rfl (hb hby own_d_method_2_code_60) kk) ?_
        show OGo p e below (s₁.setTop (mkF m 61 #[.val (.int n), .val (.int c0_), .val (.int c1_), .val (.int c2_), .val (.int c3_)] [(.int (3 : Int32)), (.int n)])) _
        by_cases hn3 : n = (3 : Int32)
        · refine OGo.step (fun _ kk => XS.icmpNo X0.here hx rfl (hb hby own_d_method_2_code_61) rfl (teq hn3).2 kk) ?_
          show OGo p e below (s₁.setTop (mkF m 64 #[.val (.int n), .val (.int c0_), .val (.int c1_), .val (.int c2_), .val (.int c3_)] [])) _
          obtain ⟨T79, h79, X79, e79, E79, A79, D79, U79, st79⟩ := newO X0 hx hZ hown (hw _ (List.mem_of_getElem? (i := 6) rfl)) (hw _ (List.mem_of_getElem? (i := 7) rfl)) (hw _ (List.mem_of_getElem? (i := 8) rfl)) e0 (g := (mkF m 64 #[.val (.int n), .val (.int c0_), .val (.int c1_), .val (.int c2_), .val (.int c3_)] [])) rfl (hb hby own_d_method_2_code_64) (by decide) (by decide)
          obtain ⟨x, g79⟩ : ∃ z, z = h0.size := ⟨_, rfl⟩
          rw [← g79] at A79 D79 U79 st79
          refine OGo.step st79 ?_
          show OGo p e below (T79.setTop (mkF m 67 #[.val (.int n), .val (.int c0_), .val (.int c1_), .val (.int c2_), .val (.int c3_)] [(.ref x)])) _
          have gf_x : n0 ≤ x := Nat.le_trans Z0 (Nat.le_of_eq g79.symm)
          have sz79 : n0 ≤ h79.size := Nat.le_trans Z0 E79.1
          have OW80 := OW0.ext E79
          have F79_coder : Fld Z h79 x "java/lang/String" "coder" "B" (.int (0 : Int32)) := D79 (Or.inr (hw _ (List.mem_of_getElem? (i := 33) rfl))) (ty := .byte) (by decide)
          have F79_value : Fld Z h79 x "java/lang/String" "value" "[B" .null := D79 (Or.inr (hw _ (List.mem_of_getElem? (i := 35) rfl))) (ty := (.array .byte)) (by decide)
          have sf81 := own_safe_null (EL := consts_1) OW80.2.1.alike A79 F79_value
          refine OGo.step (fun _ kk => XS.dup X79.here hx rfl (hb hby own_d_method_2_code_67) rfl rfl kk) ?_
          show OGo p e below (T79.setTop (mkF m 68 #[.val (.int n), .val (.int c0_), .val (.int c1_), .val (.int c2_), .val (.int c3_)] [(.ref x), (.ref x)])) _
          refine OGo.step (fun _ kk => XS.iconst X79.here hx rfl (hb hby own_d_method_2_code_68) kk) ?_
          show OGo p e below (T79.setTop (mkF m 69 #[.val (.int n), .val (.int c0_), .val (.int c1_), .val (.int c2_), .val (.int c3_)] [(.int (3 : Int32)), (.ref x), (.ref x)])) _
          obtain ⟨T82, h82, k82, X82, e82, E82, A82, st82⟩ := newP X79 hx hZ (hw _ (List.mem_of_getElem? (i := 9) rfl)) e79 (g := (mkF m 69 #[.val (.int n), .val (.int c0_), .val (.int c1_), .val (.int c2_), .val (.int c3_)] [(.int (3 : Int32)), (.ref x), (.ref x)])) rfl (hb hby own_d_method_2_code_69) rfl (by decide) (cap := 3) (by decide) (by decide) (by decide) (by decide)
          obtain ⟨b, g82⟩ : ∃ z, z = h79.size := ⟨_, rfl⟩
          rw [← g82] at A82 st82
          refine OGo.step st82 ?_
          show OGo p e below (T82.setTop (mkF m 71 #[.val (.int n), .val (.int c0_), .val (.int c1_), .val (.int c2_), .val (.int c3_)] [(.ref b), (.ref x), (.ref x)])) _
          have ne_x_b : x ≠ b := Nat.ne_of_lt (Nat.lt_of_lt_of_le A79.lt (Nat.le_of_eq g82.symm))
          have gf_b : n0 ≤ b := Nat.le_trans sz79 (Nat.le_of_eq g82.symm)
          have sz82 : n0 ≤ h82.size := Nat.le_trans sz79 E82.1
          have sf83 := Safe.ext E82 OW80.chv sf81
          have OW84 := OW80.ext E82
          have Va85 : Arv Z h82 b k82 .char (3 : Int32) [(.int (0 : Int32)), (.int (0 : Int32)), (.int (0 : Int32))] (.int (0 : Int32)) := (Arv.new A82 (by decide)).pad (pad_rep [] (.int (0 : Int32)) 3)
          refine OGo.step (fun _ kk => XS.dup X82.here hx rfl (hb hby own_d_method_2_code_71) rfl rfl kk) ?_
          show OGo p e below (T82.setTop (mkF m 72 #[.val (.int n), .val (.int c0_), .val (.int c1_), .val (.int c2_), .val (.int c3_)] [(.ref b), (.ref b), (.ref x), (.ref x)])) _
          refine OGo.step (fun _ kk => XS.iconst X82.here hx rfl (hb hby own_d_method_2_code_72) kk) ?_
          show OGo p e below (T82.setTop (mkF m 73 #[.val (.int n), .val (.int c0_), .val (.int c1_), .val (.int c2_), .val (.int c3_)] [(.int (0 : Int32)), (.ref b), (.ref b), (.ref x), (.ref x)])) _
          refine OGo.step (fun _ kk => XS.iloadN X82.here hx rfl (hb hby own_d_method_2_code_73) rfl kk) ?_
          show OGo p e below (T82.setTop (mkF m 74 #[.val (.int n), .val (.int c0_), .val (.int c1_), .val (.int c2_), .val (.int c3_)] [(.int c0_), (.int (0 : Int32)), (.ref b), (.ref b), (.ref x), (.ref x)])) _
          obtain ⟨cA86, A86, q86, S86, M86, H86, G86⟩ := Va85
          obtain ⟨T87, h87, X87, e87, W87, st87⟩ := stC X82 hx hZ e82 A86 (j := (0 : Int32)) (inb_of S86 ⟨by decide, by decide⟩) (g := (mkF m 74 #[.val (.int n), .val (.int c0_), .val (.int c1_), .val (.int c2_), .val (.int c3_)] [(.int c0_), (.int (0 : Int32)), (.ref b), (.ref b), (.ref x), (.ref x)])) rfl rfl (hb hby own_d_method_2_code_74)
          refine OGo.step st87 ?_
          show OGo p e below (T87.setTop (mkF m 75 #[.val (.int n), .val (.int c0_), .val (.int c1_), .val (.int c2_), .val (.int c3_)] [(.ref b), (.ref x), (.ref x)])) _
          have Va86 : Arv Z h87 b k82 .char (3 : Int32) [(.int (nar .char c0_)), (.int (0 : Int32)), (.int (0 : Int32))] (.int (0 : Int32)) := Arv.set A86 q86 S86 M86 H86 G86 (fits_nar_char _) W87 0 rfl (Nat.le_of_ble_eq_true rfl)
          have Nf87 := Fr.snoc X87 (Fr.nil n0) gf_b
          have sz87 : n0 ≤ h87.size := by rw [W87.size]; exact sz82
          have sw88 := (Safe.arr (EL := consts_1) OW84.2.1.alike A86 (by decide))
          have sf89 := Safe.wr W87 sw88 OW84.chv sf83
          have OW90 := OW84.wr W87 sw88
          refine OGo.step (fun _ kk => XS.dup X87.here hx rfl (hb hby own_d_method_2_code_75) rfl rfl kk) ?_
          show OGo p e below (T87.setTop (mkF m 76 #[.val (.int n), .val (.int c0_), .val (.int c1_), .val (.int c2_), .val (.int c3_)] [(.ref b), (.ref b), (.ref x), (.ref x)])) _
          refine OGo.step (fun _ kk => XS.iconst X87.here hx rfl (hb hby own_d_method_2_code_76) kk) ?_
          show OGo p e below (T87.setTop (mkF m 77 #[.val (.int n), .val (.int c0_), .val (.int c1_), .val (.int c2_), .val (.int c3_)] [(.int (1 : Int32)), (.ref b), (.ref b), (.ref x), (.ref x)])) _
          refine OGo.step (fun _ kk => XS.iloadN X87.here hx rfl (hb hby own_d_method_2_code_77) rfl kk) ?_
          show OGo p e below (T87.setTop (mkF m 78 #[.val (.int n), .val (.int c0_), .val (.int c1_), .val (.int c2_), .val (.int c3_)] [(.int c1_), (.int (1 : Int32)), (.ref b), (.ref b), (.ref x), (.ref x)])) _
          obtain ⟨cA91, A91, q91, S91, M91, H91, G91⟩ := Va86
          obtain ⟨T92, h92, X92, e92, W92, st92⟩ := stC X87 hx hZ e87 A91 (j := (1 : Int32)) (inb_of S91 ⟨by decide, by decide⟩) (g := (mkF m 78 #[.val (.int n), .val (.int c0_), .val (.int c1_), .val (.int c2_), .val (.int c3_)] [(.int c1_), (.int (1 : Int32)), (.ref b), (.ref b), (.ref x), (.ref x)])) rfl rfl (hb hby own_d_method_2_code_78)
          refine OGo.step st92 ?_
          show OGo p e below (T92.setTop (mkF m 79 #[.val (.int n), .val (.int c0_), .val (.int c1_), .val (.int c2_), .val (.int c3_)] [(.ref b), (.ref x), (.ref x)])) _
          have Va91 : Arv Z h92 b k82 .char (3 : Int32) [(.int (nar .char c0_)), (.int (nar .char c1_)), (.int (0 : Int32))] (.int (0 : Int32)) := Arv.set A91 q91 S91 M91 H91 G91 (fits_nar_char _) W92 1 rfl (Nat.le_of_ble_eq_true rfl)
          have Nf92 := Fr.snoc X92 Nf87 gf_b
          have sz92 : n0 ≤ h92.size := by rw [W92.size]; exact sz87
          have sw93 := (Safe.arr (EL := consts_1) OW90.2.1.alike A91 (by decide))
          have sf94 := Safe.wr W92 sw93 OW90.chv sf89
          have OW95 := OW90.wr W92 sw93
          refine OGo.step (fun _ kk => XS.dup X92.here hx rfl (hb hby own_d_method_2_code_79) rfl rfl kk) ?_
          show OGo p e below (T92.setTop (mkF m 80 #[.val (.int n), .val (.int c0_), .val (.int c1_), .val (.int c2_), .val (.int c3_)] [(.ref b), (.ref b), (.ref x), (.ref x)])) _
          refine OGo.step (fun _ kk => XS.iconst X92.here hx rfl (hb hby own_d_method_2_code_80) kk) ?_
          show OGo p e below (T92.setTop (mkF m 81 #[.val (.int n), .val (.int c0_), .val (.int c1_), .val (.int c2_), .val (.int c3_)] [(.int (2 : Int32)), (.ref b), (.ref b), (.ref x), (.ref x)])) _
          refine OGo.step (fun _ kk => XS.iloadN X92.here hx rfl (hb hby own_d_method_2_code_81) rfl kk) ?_
          show OGo p e below (T92.setTop (mkF m 82 #[.val (.int n), .val (.int c0_), .val (.int c1_), .val (.int c2_), .val (.int c3_)] [(.int c2_), (.int (2 : Int32)), (.ref b), (.ref b), (.ref x), (.ref x)])) _
          obtain ⟨cA96, A96, q96, S96, M96, H96, G96⟩ := Va91
          obtain ⟨T97, h97, X97, e97, W97, st97⟩ := stC X92 hx hZ e92 A96 (j := (2 : Int32)) (inb_of S96 ⟨by decide, by decide⟩) (g := (mkF m 82 #[.val (.int n), .val (.int c0_), .val (.int c1_), .val (.int c2_), .val (.int c3_)] [(.int c2_), (.int (2 : Int32)), (.ref b), (.ref b), (.ref x), (.ref x)])) rfl rfl (hb hby own_d_method_2_code_82)
          refine OGo.step st97 ?_
          show OGo p e below (T97.setTop (mkF m 83 #[.val (.int n), .val (.int c0_), .val (.int c1_), .val (.int c2_), .val (.int c3_)] [(.ref b), (.ref x), (.ref x)])) _
          have Va96 : Arv Z h97 b k82 .char (3 : Int32) [(.int (nar .char c0_)), (.int (nar .char c1_)), (.int (nar .char c2_))] (.int (0 : Int32)) := Arv.set A96 q96 S96 M96 H96 G96 (fits_nar_char _) W97 2 rfl (Nat.le_of_ble_eq_true rfl)
          have Nf97 := Fr.snoc X97 Nf92 gf_b
          have sz97 : n0 ≤ h97.size := by rw [W97.size]; exact sz92
          have sw98 := (Safe.arr (EL := consts_1) OW95.2.1.alike A96 (by decide))
          have sf99 := Safe.wr W97 sw98 OW95.chv sf94
          have OW100 := OW95.wr W97 sw98
          have fc101 := ((((A79.ext E82).wr W87).wr W92).wr W97)
          have fc102 := ((((F79_value.ext E82).other W87 (Or.inl ne_x_b)).other W92 (Or.inl ne_x_b)).other W97 (Or.inl ne_x_b))
          have fc103 := ((((F79_coder.ext E82).other W87 (Or.inl ne_x_b)).other W92 (Or.inl ne_x_b)).other W97 (Or.inl ne_x_b))
          have xt104 := (own_ext_trans E79 E82)
          have xt105 := (own_ext_wr xt104 W87 (Nat.le_trans E79.1 (Nat.le_of_eq g82.symm)))
          have xt106 := (own_ext_wr xt105 W92 (Nat.le_trans E79.1 (Nat.le_of_eq g82.symm)))
          have xt107 := (own_ext_wr xt106 W97 (Nat.le_trans E79.1 (Nat.le_of_eq g82.symm)))
          have fx108 := SC.ext xt107
          have fx109 := SA.ext xt107
          have fx110 := SH.ext xt107
          have fx111 := SL.ext xt107
          by_cases hall : (255 : Int32) < (nar .char c0_) ∨ (255 : Int32) < (nar .char c1_) ∨ (255 : Int32) < (nar .char c2_)
          · refine own_special X97 hx hZ (y := (⟨"java/lang/String", "<init>", "([C)V"⟩ : MethodName)) rfl hown (hw _ (List.mem_of_getElem? (i := 10) rfl)) (hw _ (List.mem_of_getElem? (i := 11) rfl)) (hw _ (List.mem_of_getElem? (i := 12) rfl)) (hw _ (List.mem_of_getElem? (i := 8) rfl)) (by decide) (a := x) (W := 1) (own_new1U3 l Z a0 hw [] x b _ (nar .char c0_) (nar .char c1_) (nar .char c2_) zc h97 n0 sz97 fx108 hzc fx109 fx110 fx111 fc101 fc102 fc103 gf_x Va96 (own_nar16 _) (own_nar16 _) (own_nar16 _) hall) e97  (pc := 83) (Ls := #[.val (.int n), .val (.int c0_), .val (.int c1_), .val (.int c2_), .val (.int c3_)]) (argsL := [(.ref b)]) (rest := [(.ref x)]) (by rw [hml]; rfl) (lenOf own_pd0 rfl) rfl (hb hby own_d_method_2_code_83) (by decide) (by decide) (by decide) (by decide) ?_
            intro v112 T112 L112 X112 hQ112
            obtain ⟨rfl, N112, K112, O112⟩ := hQ112
            show OGo p e below (T112.setTop (mkF m 86 #[.val (.int n), .val (.int c0_), .val (.int c1_), .val (.int c2_), .val (.int c3_)] [(.ref x)])) _
            have Nc112 := Fr.app Nf97 N112
            have sz112 : n0 ≤ T112.heap.size := Nat.le_trans sz97 K112.1
            have sf113 := Safe.keep K112 (sfS sf99 sf0) OW100.chv sf99
            have OW114 := OW100.keep K112 (sfS sf99 sf0)
            have xt115 := (own_ext_keep xt107 K112 (allS (Nat.le_of_eq g79.symm) all0))
            exact own_retW X112 hx hlk hEL OW114 rfl hret rfl (Or.inr (Or.inr (Or.inr (Or.inr ⟨rfl, rfl, rfl⟩)))) (hb hby own_d_method_2_code_86) ⟨x, rfl, Nc112, xt115, by rw [own_mk, if_neg hn0, if_neg hn1, if_neg hn2, if_pos hn3]; exact O112⟩ (by decide) (by decide)
          · have hpx : ∀ c ∈ ([(nar .char c0_), (nar .char c1_), (nar .char c2_)] : List Int32), ¬ c < 0 ∧ ¬ (255 : Int32) < c := (own_allS ⟨(own_nar16 _).1, (fun z => hall (Or.inl z))⟩ (own_allS ⟨(own_nar16 _).1, (fun z => hall (Or.inr (Or.inl z)))⟩ (own_allS ⟨(own_nar16 _).1, (fun z => hall (Or.inr (Or.inr z)))⟩ own_all0)))
            refine own_specialK X97 hx hZ (y := (⟨"java/lang/String", "<init>", "([C)V"⟩ : MethodName)) rfl hown (hw _ (List.mem_of_getElem? (i := 10) rfl)) (hw _ (List.mem_of_getElem? (i := 11) rfl)) (hw _ (List.mem_of_getElem? (i := 12) rfl)) (by decide) (a := x) (W := 1) (StrChars.Road.backV (W := 1) hZ (fun d hd => hw d ((by decide +kernel : ∀ d ∈ StrChars.Road.words, d ∈ tables_1) d hd)) (kI := 4) (hw _ (List.mem_of_getElem? (i := 7) rfl)) (cs := ([(nar .char c0_), (nar .char c1_), (nar .char c2_)] : List Int32)) (bs := (([(nar .char c0_), (nar .char c1_), (nar .char c2_)] : List Int32)).map (fun c => c.toInt8.toInt32)) (n := 3) gf_x sz97 fc101 fc102 fc103 Va96 fx108 hzc rfl rfl (by decide) (by decide) hpx rfl (by decide) (by decide)) e97 (pc := 83) (Ls := #[.val (.int n), .val (.int c0_), .val (.int c1_), .val (.int c2_), .val (.int c3_)]) (argsL := [(.ref b)]) (rest := [(.ref x)]) (by rw [hml]; rfl) (lenOf own_pd0 rfl) rfl (hb hby own_d_method_2_code_83) (by decide) (by decide) ?_
            intro v116 T116 L116 X116 hQ116
            obtain ⟨rfl, N116, K116, Ex116, Fc116, t116, kb116, u1116, u2116, u3116, Fv116, Av116⟩ := hQ116
            show OGo p e below (T116.setTop (mkF m 86 #[.val (.int n), .val (.int c0_), .val (.int c1_), .val (.int c2_), .val (.int c3_)] [(.ref x)])) _
            have Nc116 := Fr.app Nf97 N116
            have sz116 : n0 ≤ T116.heap.size := Nat.le_trans sz97 K116.1
            have sf117 := Safe.keep K116 (sfS sf99 sf0) OW100.chv sf99
            have OW118 := OW100.keep K116 (sfS sf99 sf0)
            have O116 : OStr Z T116.heap x ([(nar .char c0_), (nar .char c1_), (nar .char c2_)] : List Int32) := ⟨t116, kb116, 0, (3 : Int32), _, Ex116, Fv116, Fc116, Av116, StrChars.Road.codOf (n := 3) rfl (fun c hc => (hpx c hc).2), own_up _ hpx, Nat.le_of_ble_eq_true rfl⟩
            have xt119 := (own_ext_keep xt107 K116 (allS (Nat.le_of_eq g79.symm) all0))
            exact own_retW X116 hx hlk hEL OW118 rfl hret rfl (Or.inr (Or.inr (Or.inr (Or.inr ⟨rfl, rfl, rfl⟩)))) (hb hby own_d_method_2_code_86) ⟨x, rfl, Nc116, xt119, by rw [own_mk, if_neg hn0, if_neg hn1, if_neg hn2, if_pos hn3]; exact O116⟩ (by decide) (by decide)
        · refine OGo.step (fun _ kk => XS.icmpYes X0.here hx rfl (pc0 := 61) (pc' := 87) rfl (hb hby own_d_method_2_code_61) rfl (feq hn3).2 (by decide) (by decide) kk) ?_
          show OGo p e below (s₁.setTop (mkF m 87 #[.val (.int n), .val (.int c0_), .val (.int c1_), .val (.int c2_), .val (.int c3_)] [])) _
          obtain ⟨T120, h120, X120, e120, E120, A120, D120, U120, st120⟩ := newO X0 hx hZ hown (hw _ (List.mem_of_getElem? (i := 6) rfl)) (hw _ (List.mem_of_getElem? (i := 7) rfl)) (hw _ (List.mem_of_getElem? (i := 8) rfl)) e0 (g := (mkF m 87 #[.val (.int n), .val (.int c0_), .val (.int c1_), .val (.int c2_), .val (.int c3_)] [])) rfl (hb hby own_d_method_2_code_87) (by decide) (by decide)
          obtain ⟨x, g120⟩ : ∃ z, z = h0.size := ⟨_, rfl⟩
          rw [← g120] at A120 D120 U120 st120
          refine OGo.step st120 ?_
          show OGo p e below (T120.setTop (mkF m 90 #[.val (.int n), .val (.int c0_), .val (.int c1_), .val (.int c2_), .val (.int c3_)] [(.ref x)])) _
          have gf_x : n0 ≤ x := Nat.le_trans Z0 (Nat.le_of_eq g120.symm)
          have sz120 : n0 ≤ h120.size := Nat.le_trans Z0 E120.1
          have OW121 := OW0.ext E120
          have F120_coder : Fld Z h120 x "java/lang/String" "coder" "B" (.int (0 : Int32)) := D120 (Or.inr (hw _ (List.mem_of_getElem? (i := 33) rfl))) (ty := .byte) (by decide)
          have F120_value : Fld Z h120 x "java/lang/String" "value" "[B" .null := D120 (Or.inr (hw _ (List.mem_of_getElem? (i := 35) rfl))) (ty := (.array .byte)) (by decide)
          have sf122 := own_safe_null (EL := consts_1) OW121.2.1.alike A120 F120_value
          refine OGo.step (fun _ kk => XS.dup X120.here hx rfl (hb hby own_d_method_2_code_90) rfl rfl kk) ?_
          show OGo p e below (T120.setTop (mkF m 91 #[.val (.int n), .val (.int c0_), .val (.int c1_), .val (.int c2_), .val (.int c3_)] [(.ref x), (.ref x)])) _
          refine OGo.step (fun _ kk => XS.iconst X120.here hx rfl (hb hby own_d_method_2_code_91) kk) ?_
          show OGo p e below (T120.setTop (mkF m 92 #[.val (.int n), .val (.int c0_), .val (.int c1_), .val (.int c2_), .val (.int c3_)] [(.int (4 : Int32)), (.ref x), (.ref x)])) _
          obtain ⟨T123, h123, k123, X123, e123, E123, A123, st123⟩ := newP X120 hx hZ (hw _ (List.mem_of_getElem? (i := 9) rfl)) e120 (g := (mkF m 92 #[.val (.int n), .val (.int c0_), .val (.int c1_), .val (.int c2_), .val (.int c3_)] [(.int (4 : Int32)), (.ref x), (.ref x)])) rfl (hb hby own_d_method_2_code_92) rfl (by decide) (cap := 4) (by decide) (by decide) (by decide) (by decide)
          obtain ⟨b, g123⟩ : ∃ z, z = h120.size := ⟨_, rfl⟩
          rw [← g123] at A123 st123
          refine OGo.step st123 ?_
          show OGo p e below (T123.setTop (mkF m 94 #[.val (.int n), .val (.int c0_), .val (.int c1_), .val (.int c2_), .val (.int c3_)] [(.ref b), (.ref x), (.ref x)])) _
          have ne_x_b : x ≠ b := Nat.ne_of_lt (Nat.lt_of_lt_of_le A120.lt (Nat.le_of_eq g123.symm))
          have gf_b : n0 ≤ b := Nat.le_trans sz120 (Nat.le_of_eq g123.symm)
          have sz123 : n0 ≤ h123.size := Nat.le_trans sz120 E123.1
          have sf124 := Safe.ext E123 OW121.chv sf122
          have OW125 := OW121.ext E123
          have Va126 : Arv Z h123 b k123 .char (4 : Int32) [(.int (0 : Int32)), (.int (0 : Int32)), (.int (0 : Int32)), (.int (0 : Int32))] (.int (0 : Int32)) := (Arv.new A123 (by decide)).pad (pad_rep [] (.int (0 : Int32)) 4)
          refine OGo.step (fun _ kk => XS.dup X123.here hx rfl (hb hby own_d_method_2_code_94) rfl rfl kk) ?_
          show OGo p e below (T123.setTop (mkF m 95 #[.val (.int n), .val (.int c0_), .val (.int c1_), .val (.int c2_), .val (.int c3_)] [(.ref b), (.ref b), (.ref x), (.ref x)])) _
          refine OGo.step (fun _ kk => XS.iconst X123.here hx rfl (hb hby own_d_method_2_code_95) kk) ?_
          show OGo p e below (T123.setTop (mkF m 96 #[.val (.int n), .val (.int c0_), .val (.int c1_), .val (.int c2_), .val (.int c3_)] [(.int (0 : Int32)), (.ref b), (.ref b), (.ref x), (.ref x)])) _
          refine OGo.step (fun _ kk => XS.iloadN X123.here hx rfl (hb hby own_d_method_2_code_96) rfl kk) ?_
          show OGo p e below (T123.setTop (mkF m 97 #[.val (.int n), .val (.int c0_), .val (.int c1_), .val (.int c2_), .val (.int c3_)] [(.int c0_), (.int (0 : Int32)), (.ref b), (.ref b), (.ref x), (.ref x)])) _
          obtain ⟨cA127, A127, q127, S127, M127, H127, G127⟩ := Va126
          obtain ⟨T128, h128, X128, e128, W128, st128⟩ := stC X123 hx hZ e123 A127 (j := (0 : Int32)) (inb_of S127 ⟨by decide, by decide⟩) (g := (mkF m 97 #[.val (.int n), .val (.int c0_), .val (.int c1_), .val (.int c2_), .val (.int c3_)] [(.int c0_), (.int (0 : Int32)), (.ref b), (.ref b), (.ref x), (.ref x)])) rfl rfl (hb hby own_d_method_2_code_97)
          refine OGo.step st128 ?_
          show OGo p e below (T128.setTop (mkF m 98 #[.val (.int n), .val (.int c0_), .val (.int c1_), .val (.int c2_), .val (.int c3_)] [(.ref b), (.ref x), (.ref x)])) _
          have Va127 : Arv Z h128 b k123 .char (4 : Int32) [(.int (nar .char c0_)), (.int (0 : Int32)), (.int (0 : Int32)), (.int (0 : Int32))] (.int (0 : Int32)) := Arv.set A127 q127 S127 M127 H127 G127 (fits_nar_char _) W128 0 rfl (Nat.le_of_ble_eq_true rfl)
          have Nf128 := Fr.snoc X128 (Fr.nil n0) gf_b
          have sz128 : n0 ≤ h128.size := by rw [W128.size]; exact sz123
          have sw129 := (Safe.arr (EL := consts_1) OW125.2.1.alike A127 (by decide))
          have sf130 := Safe.wr W128 sw129 OW125.chv sf124
          have OW131 := OW125.wr W128 sw129
          refine OGo.step (fun _ kk => XS.dup X128.here hx rfl (hb hby own_d_method_2_code_98) rfl rfl kk) ?_
          show OGo p e below (T128.setTop (mkF m 99 #[.val (.int n), .val (.int c0_), .val (.int c1_), .val (.int c2_), .val (.int c3_)] [(.ref b), (.ref b), (.ref x), (.ref x)])) _
          refine OGo.step (fun _ kk => XS.iconst X128.here hx rfl (hb hby own_d_method_2_code_99) kk) ?_
          show OGo p e below (T128.setTop (mkF m 100 #[.val (.int n), .val (.int c0_), .val (.int c1_), .val (.int c2_), .val (.int c3_)] [(.int (1 : Int32)), (.ref b), (.ref b), (.ref x), (.ref x)])) _
          refine OGo.step (fun _ kk => XS.iloadN X128.here hx rfl (hb hby own_d_method_2_code_100) rfl kk) ?_
          show OGo p e below (T128.setTop (mkF m 101 #[.val (.int n), .val (.int c0_), .val (.int c1_), .val (.int c2_), .val (.int c3_)] [(.int c1_), (.int (1 : Int32)), (.ref b), (.ref b), (.ref x), (.ref x)])) _
          obtain ⟨cA132, A132, q132, S132, M132, H132, G132⟩ := Va127
          obtain ⟨T133, h133, X133, e133, W133, st133⟩ := stC X128 hx hZ e128 A132 (j := (1 : Int32)) (inb_of S132 ⟨by decide, by decide⟩) (g := (mkF m 101 #[.val (.int n), .val (.int c0_), .val (.int c1_), .val (.int c2_), .val (.int c3_)] [(.int c1_), (.int (1 : Int32)), (.ref b), (.ref b), (.ref x), (.ref x)])) rfl rfl (hb hby own_d_method_2_code_101)
          refine OGo.step st133 ?_
          show OGo p e below (T133.setTop (mkF m 102 #[.val (.int n), .val (.int c0_), .val (.int c1_), .val (.int c2_), .val (.int c3_)] [(.ref b), (.ref x), (.ref x)])) _
          have Va132 : Arv Z h133 b k123 .char (4 : Int32) [(.int (nar .char c0_)), (.int (nar .char c1_)), (.int (0 : Int32)), (.int (0 : Int32))] (.int (0 : Int32)) := Arv.set A132 q132 S132 M132 H132 G132 (fits_nar_char _) W133 1 rfl (Nat.le_of_ble_eq_true rfl)
          have Nf133 := Fr.snoc X133 Nf128 gf_b
          have sz133 : n0 ≤ h133.size := by rw [W133.size]; exact sz128
          have sw134 := (Safe.arr (EL := consts_1) OW131.2.1.alike A132 (by decide))
          have sf135 := Safe.wr W133 sw134 OW131.chv sf130
          have OW136 := OW131.wr W133 sw134
          refine OGo.step (fun _ kk => XS.dup X133.here hx rfl (hb hby own_d_method_2_code_102) rfl rfl kk) ?_
          show OGo p e below (T133.setTop (mkF m 103 #[.val (.int n), .val (.int c0_), .val (.int c1_), .val (.int c2_), .val (.int c3_)] [(.ref b), (.ref b), (.ref x), (.ref x)])) _
          refine OGo.step (fun _ kk => XS.iconst X133.here hx rfl (hb hby own_d_method_2_code_103) kk) ?_
          show OGo p e below (T133.setTop (mkF m 104 #[.val (.int n), .val (.int c0_), .val (.int c1_), .val (.int c2_), .val (.int c3_)] [(.int (2 : Int32)), (.ref b), (.ref b), (.ref x), (.ref x)])) _
          refine OGo.step (fun _ kk => XS.iloadN X133.here hx rfl (hb hby own_d_method_2_code_104) rfl kk) ?_
          show OGo p e below (T133.setTop (mkF m 105 #[.val (.int n), .val (.int c0_), .val (.int c1_), .val (.int c2_), .val (.int c3_)] [(.int c2_), (.int (2 : Int32)), (.ref b), (.ref b), (.ref x), (.ref x)])) _
          obtain ⟨cA137, A137, q137, S137, M137, H137, G137⟩ := Va132
          obtain ⟨T138, h138, X138, e138, W138, st138⟩ := stC X133 hx hZ e133 A137 (j := (2 : Int32)) (inb_of S137 ⟨by decide, by decide⟩) (g := (mkF m 105 #[.val (.int n), .val (.int c0_), .val (.int c1_), .val (.int c2_), .val (.int c3_)] [(.int c2_), (.int (2 : Int32)), (.ref b), (.ref b), (.ref x), (.ref x)])) rfl rfl (hb hby own_d_method_2_code_105)
          refine OGo.step st138 ?_
          show OGo p e below (T138.setTop (mkF m 106 #[.val (.int n), .val (.int c0_), .val (.int c1_), .val (.int c2_), .val (.int c3_)] [(.ref b), (.ref x), (.ref x)])) _
          have Va137 : Arv Z h138 b k123 .char (4 : Int32) [(.int (nar .char c0_)), (.int (nar .char c1_)), (.int (nar .char c2_)), (.int (0 : Int32))] (.int (0 : Int32)) := Arv.set A137 q137 S137 M137 H137 G137 (fits_nar_char _) W138 2 rfl (Nat.le_of_ble_eq_true rfl)
          have Nf138 := Fr.snoc X138 Nf133 gf_b
          have sz138 : n0 ≤ h138.size := by rw [W138.size]; exact sz133
          have sw139 := (Safe.arr (EL := consts_1) OW136.2.1.alike A137 (by decide))
          have sf140 := Safe.wr W138 sw139 OW136.chv sf135
          have OW141 := OW136.wr W138 sw139
          refine OGo.step (fun _ kk => XS.dup X138.here hx rfl (hb hby own_d_method_2_code_106) rfl rfl kk) ?_
          show OGo p e below (T138.setTop (mkF m 107 #[.val (.int n), .val (.int c0_), .val (.int c1_), .val (.int c2_), .val (.int c3_)] [(.ref b), (.ref b), (.ref x), (.ref x)])) _
          refine OGo.step (fun _ kk => XS.iconst X138.here hx rfl (hb hby own_d_method_2_code_107) kk) ?_
          show OGo p e below (T138.setTop (mkF m 108 #[.val (.int n), .val (.int c0_), .val (.int c1_), .val (.int c2_), .val (.int c3_)] [(.int (3 : Int32)), (.ref b), (.ref b), (.ref x), (.ref x)])) _
          refine OGo.step (fun _ kk => XS.iload X138.here hx rfl (hb hby own_d_method_2_code_108) rfl kk) ?_
          show OGo p e below (T138.setTop (mkF m 110 #[.val (.int n), .val (.int c0_), .val (.int c1_), .val (.int c2_), .val (.int c3_)] [(.int c3_), (.int (3 : Int32)), (.ref b), (.ref b), (.ref x), (.ref x)])) _
          obtain ⟨cA142, A142, q142, S142, M142, H142, G142⟩ := Va137
          obtain ⟨T143, h143, X143, e143, W143, st143⟩ := stC X138 hx hZ e138 A142 (j := (3 : Int32)) (inb_of S142 ⟨by decide, by decide⟩) (g := (mkF m 110 #[.val (.int n), .val (.int c0_), .val (.int c1_), .val (.int c2_), .val (.int c3_)] [(.int c3_), (.int (3 : Int32)), (.ref b), (.ref b), (.ref x), (.ref x)])) rfl rfl (hb hby own_d_method_2_code_110)
          refine OGo.step st143 ?_
          show OGo p e below (T143.setTop (mkF m 111 #[.val (.int n), .val (.int c0_), .val (.int c1_), .val (.int c2_), .val (.int c3_)] [(.ref b), (.ref x), (.ref x)])) _
          have Va142 : Arv Z h143 b k123 .char (4 : Int32) [(.int (nar .char c0_)), (.int (nar .char c1_)), (.int (nar .char c2_)), (.int (nar .char c3_))] (.int (0 : Int32)) := Arv.set A142 q142 S142 M142 H142 G142 (fits_nar_char _) W143 3 rfl (Nat.le_of_ble_eq_true rfl)
          have Nf143 := Fr.snoc X143 Nf138 gf_b
          have sz143 : n0 ≤ h143.size := by rw [W143.size]; exact sz138
          have sw144 := (Safe.arr (EL := consts_1) OW141.2.1.alike A142 (by decide))
          have sf145 := Safe.wr W143 sw144 OW141.chv sf140
          have OW146 := OW141.wr W143 sw144
          have fc147 := (((((A120.ext E123).wr W128).wr W133).wr W138).wr W143)
          have fc148 := (((((F120_value.ext E123).other W128 (Or.inl ne_x_b)).other W133 (Or.inl ne_x_b)).other W138 (Or.inl ne_x_b)).other W143 (Or.inl ne_x_b))
          have fc149 := (((((F120_coder.ext E123).other W128 (Or.inl ne_x_b)).other W133 (Or.inl ne_x_b)).other W138 (Or.inl ne_x_b)).other W143 (Or.inl ne_x_b))
          have xt150 := (own_ext_trans E120 E123)
          have xt151 := (own_ext_wr xt150 W128 (Nat.le_trans E120.1 (Nat.le_of_eq g123.symm)))
          have xt152 := (own_ext_wr xt151 W133 (Nat.le_trans E120.1 (Nat.le_of_eq g123.symm)))
          have xt153 := (own_ext_wr xt152 W138 (Nat.le_trans E120.1 (Nat.le_of_eq g123.symm)))
          have xt154 := (own_ext_wr xt153 W143 (Nat.le_trans E120.1 (Nat.le_of_eq g123.symm)))
          have fx155 := SC.ext xt154
          have fx156 := SA.ext xt154
          have fx157 := SH.ext xt154
          have fx158 := SL.ext xt154
          by_cases hall : (255 : Int32) < (nar .char c0_) ∨ (255 : Int32) < (nar .char c1_) ∨ (255 : Int32) < (nar .char c2_) ∨ (255 : Int32) < (nar .char c3_)
          · refine own_special X143 hx hZ (y := (⟨"java/lang/String", "<init>", "([C)V"⟩ : MethodName)) rfl hown (hw _ (List.mem_of_getElem? (i := 10) rfl)) (hw _ (List.mem_of_getElem? (i := 11) rfl)) (hw _ (List.mem_of_getElem? (i := 12) rfl)) (hw _ (List.mem_of_getElem? (i := 8) rfl)) (by decide) (a := x) (W := 1) (own_new1U4 l Z a0 hw [] x b _ (nar .char c0_) (nar .char c1_) (nar .char c2_) (nar .char c3_) zc h143 n0 sz143 fx155 hzc fx156 fx157 fx158 fc147 fc148 fc149 gf_x Va142 (own_nar16 _) (own_nar16 _) (own_nar16 _) (own_nar16 _) hall) e143  (pc := 111) (Ls := #[.val (.int n), .val (.int c0_), .val (.int c1_), .val (.int c2_), .val (.int c3_)]) (argsL := [(.ref b)]) (rest := [(.ref x)]) (by rw [hml]; rfl) (lenOf own_pd0 rfl) rfl (hb hby own_d_method_2_code_111) (by decide) (by decide) (by decide) (by decide) ?_
            intro v159 T159 L159 X159 hQ159
            obtain ⟨rfl, N159, K159, O159⟩ := hQ159
            show OGo p e below (T159.setTop (mkF m 114 #[.val (.int n), .val (.int c0_), .val (.int c1_), .val (.int c2_), .val (.int c3_)] [(.ref x)])) _
            have Nc159 := Fr.app Nf143 N159
            have sz159 : n0 ≤ T159.heap.size := Nat.le_trans sz143 K159.1
            have sf160 := Safe.keep K159 (sfS sf145 sf0) OW146.chv sf145
            have OW161 := OW146.keep K159 (sfS sf145 sf0)
            have xt162 := (own_ext_keep xt154 K159 (allS (Nat.le_of_eq g120.symm) all0))
            exact own_retW X159 hx hlk hEL OW161 rfl hret rfl (Or.inr (Or.inr (Or.inr (Or.inr ⟨rfl, rfl, rfl⟩)))) (hb hby own_d_method_2_code_114) ⟨x, rfl, Nc159, xt162, by rw [own_mk, if_neg hn0, if_neg hn1, if_neg hn2, if_neg hn3]; exact O159⟩ (by decide) (by decide)
          · have hpx : ∀ c ∈ ([(nar .char c0_), (nar .char c1_), (nar .char c2_), (nar .char c3_)] : List Int32), ¬ c < 0 ∧ ¬ (255 : Int32) < c := (own_allS ⟨(own_nar16 _).1, (fun z => hall (Or.inl z))⟩ (own_allS ⟨(own_nar16 _).1, (fun z => hall (Or.inr (Or.inl z)))⟩ (own_allS ⟨(own_nar16 _).1, (fun z => hall (Or.inr (Or.inr (Or.inl z))))⟩ (own_allS ⟨(own_nar16 _).1, (fun z => hall (Or.inr (Or.inr (Or.inr z))))⟩ own_all0))))
            refine own_specialK X143 hx hZ (y := (⟨"java/lang/String", "<init>", "([C)V"⟩ : MethodName)) rfl hown (hw _ (List.mem_of_getElem? (i := 10) rfl)) (hw _ (List.mem_of_getElem? (i := 11) rfl)) (hw _ (List.mem_of_getElem? (i := 12) rfl)) (by decide) (a := x) (W := 1) (StrChars.Road.backV (W := 1) hZ (fun d hd => hw d ((by decide +kernel : ∀ d ∈ StrChars.Road.words, d ∈ tables_1) d hd)) (kI := 4) (hw _ (List.mem_of_getElem? (i := 7) rfl)) (cs := ([(nar .char c0_), (nar .char c1_), (nar .char c2_), (nar .char c3_)] : List Int32)) (bs := (([(nar .char c0_), (nar .char c1_), (nar .char c2_), (nar .char c3_)] : List Int32)).map (fun c => c.toInt8.toInt32)) (n := 4) gf_x sz143 fc147 fc148 fc149 Va142 fx155 hzc rfl rfl (by decide) (by decide) hpx rfl (by decide) (by decide)) e143 (pc := 111) (Ls := #[.val (.int n), .val (.int c0_), .val (.int c1_), .val (.int c2_), .val (.int c3_)]) (argsL := [(.ref b)]) (rest := [(.ref x)]) (by rw [hml]; rfl) (lenOf own_pd0 rfl) rfl (hb hby own_d_method_2_code_111) (by decide) (by decide) ?_
            intro v163 T163 L163 X163 hQ163
            obtain ⟨rfl, N163, K163, Ex163, Fc163, t163, kb163, u1163, u2163, u3163, Fv163, Av163⟩ := hQ163
            show OGo p e below (T163.setTop (mkF m 114 #[.val (.int n), .val (.int c0_), .val (.int c1_), .val (.int c2_), .val (.int c3_)] [(.ref x)])) _
            have Nc163 := Fr.app Nf143 N163
            have sz163 : n0 ≤ T163.heap.size := Nat.le_trans sz143 K163.1
            have sf164 := Safe.keep K163 (sfS sf145 sf0) OW146.chv sf145
            have OW165 := OW146.keep K163 (sfS sf145 sf0)
            have O163 : OStr Z T163.heap x ([(nar .char c0_), (nar .char c1_), (nar .char c2_), (nar .char c3_)] : List Int32) := ⟨t163, kb163, 0, (4 : Int32), _, Ex163, Fv163, Fc163, Av163, StrChars.Road.codOf (n := 4) rfl (fun c hc => (hpx c hc).2), own_up _ hpx, Nat.le_of_ble_eq_true rfl⟩
            have xt166 := (own_ext_keep xt154 K163 (allS (Nat.le_of_eq g120.symm) all0))
            exact own_retW X163 hx hlk hEL OW165 rfl hret rfl (Or.inr (Or.inr (Or.inr (Or.inr ⟨rfl, rfl, rfl⟩)))) (hb hby own_d_method_2_code_114) ⟨x, rfl, Nc163, xt166, by rw [own_mk, if_neg hn0, if_neg hn1, if_neg hn2, if_neg hn3]; exact O163⟩ (by decide) (by decide)

set_option maxRecDepth 65536 in
set_option maxHeartbeats 40000000 in
theorem own_rnn2 (l : Launch) (Z : State) (a0 : Array Value) (hw : ∀ d ∈ tables_1, d.before a0 Z = true) (ws : List Jvm.Cond) (a1 b1 : Addr) (h0 : Heap) (n0 : Nat) (Z0 : n0 ≤ h0.size)  :
    OMet l Z (⟨"java/util/Objects", "requireNonNull", "(Ljava/lang/Object;Ljava/lang/String;)Ljava/lang/Object;"⟩ : MethodName) jdk_31_method_11_code 2 (some (.object "java/lang/Object")) ws ({ frames := 0, cells := 0, slots := 0, locals := 0 } : Room) #[(.ref a1), (.ref b1)] h0 (fun v h L => v = some (.ref a1) ∧ Fr n0 L ∧ h = h0) := by
  refine OMet.body (plainFor_of_name own_pn1) ?_
  intro p e s m below meth c s₁ hx hby hml hown hnm hret hlk hZ X0 e0
  refine OGo.step (fun _ kk => castTop (show entryFrame m #[(.ref a1), (.ref b1)] 2 = (mkF m 0 #[.val (.ref a1), .val (.ref b1)] []) from by first | (simp [entryFrame, mkF, argsToLocals, Value.category]; done) | rfl) kk) ?_
  show OGo p e below (s₁.setTop (mkF m 0 #[.val (.ref a1), .val (.ref b1)] [])) _
  refine OGo.step (fun _ kk => XS.aloadN X0.here hx rfl (hb hby own_d_jdk_31_method_11_code_0) rfl rfl kk) ?_
  show OGo p e below (s₁.setTop (mkF m 1 #[.val (.ref a1), .val (.ref b1)] [(.ref a1)])) _
  refine OGo.step (fun _ kk => XS.ifnonnullYes X0.here hx rfl (pc0 := 1) (pc' := 13) rfl (hb hby own_d_jdk_31_method_11_code_1) rfl (by decide) (by decide) kk) ?_
  show OGo p e below (s₁.setTop (mkF m 13 #[.val (.ref a1), .val (.ref b1)] [])) _
  refine OGo.step (fun _ kk => XS.aloadN X0.here hx rfl (hb hby own_d_jdk_31_method_11_code_13) rfl rfl kk) ?_
  show OGo p e below (s₁.setTop (mkF m 14 #[.val (.ref a1), .val (.ref b1)] [(.ref a1)])) _
  exact own_ret X0 hx hlk hret rfl (Or.inr (Or.inr (Or.inr (Or.inr ⟨rfl, rfl, rfl⟩)))) (hb hby own_d_jdk_31_method_11_code_14) ⟨rfl, Fr.nil n0, e0⟩ (by decide) (by decide)

set_option maxRecDepth 65536 in
set_option maxHeartbeats 40000000 in
theorem own_atinit (l : Launch) (Z : State) (a0 : Array Value) (hw : ∀ d ∈ tables_1, d.before a0 Z = true) (ws : List Jvm.Cond) (a x : Addr) (cs : List Int32) (q1 : Int64) (h0 : Heap) (n0 : Nat) (Z0 : n0 ≤ h0.size) (E1 : Exa Z h0 a "com/example/lease/lease/model/AddToken") (Ft : Fld Z h0 a "com/example/lease/lease/model/AddToken" "text" "Ljava/lang/String;" .null) (Fk : Fld Z h0 a "com/example/lease/lease/model/AddToken" "keptMillis" "J" (.long (0 : Int64))) (ga : n0 ≤ a) (G : OStr Z h0 x cs) :
    OMetW l Z consts_1 (⟨"com/example/lease/lease/model/AddToken", "<init>", "(Ljava/lang/String;J)V"⟩ : MethodName) prog_4_method_1_code 4 none ws ({ frames := 1, cells := 2, slots := 20, locals := 15 } : Room) #[(.ref a), (.ref x), (.long q1)] h0 (fun v h L => v = none ∧ Fr n0 L ∧ Keep h0 h [a] ∧ Exa Z h a "com/example/lease/lease/model/AddToken" ∧ Fld Z h a "com/example/lease/lease/model/AddToken" "text" "Ljava/lang/String;" (.ref x) ∧ Fld Z h a "com/example/lease/lease/model/AddToken" "keptMillis" "J" (.long q1)) := by
  refine OMetW.body (plainFor_of_name own_pn2) ?_
  intro p e s m below meth c s₁ hx hby hml hown hnm hret hlk hZ X0 e0 OW0
  have hEL := own_hEL hw
  have wS := own_wS hw
  refine OGo.step (fun _ kk => castTop (show entryFrame m #[(.ref a), (.ref x), (.long q1)] 4 = (mkF m 0 #[.val (.ref a), .val (.ref x), .val (.long q1), .second] []) from by first | (simp [entryFrame, mkF, argsToLocals, Value.category]; done) | rfl) kk) ?_
  show OGo p e below (s₁.setTop (mkF m 0 #[.val (.ref a), .val (.ref x), .val (.long q1), .second] [])) _
  refine OGo.step (fun _ kk => XS.aloadN X0.here hx rfl (hb hby own_d_prog_4_method_1_code_0) rfl rfl kk) ?_
  show OGo p e below (s₁.setTop (mkF m 1 #[.val (.ref a), .val (.ref x), .val (.long q1), .second] [(.ref a)])) _
  obtain ⟨T167, X167, e167, st167⟩ := initO X0 hx hZ hown (hw _ (List.mem_of_getElem? (i := 46) rfl)) (hw _ (List.mem_of_getElem? (i := 18) rfl)) (hw _ (List.mem_of_getElem? (i := 19) rfl)) e0 (g := (mkF m 1 #[.val (.ref a), .val (.ref x), .val (.long q1), .second] [(.ref a)])) rfl (by rw [hml]; rfl) rfl (hb hby own_d_prog_4_method_1_code_1) (by decide) (W := 0) (by show 2 * 0 + _ ≤ _; exact Nat.le_of_eq rfl) (by decide)
  refine OGo.step st167 ?_
  show OGo p e below (T167.setTop (mkF m 4 #[.val (.ref a), .val (.ref x), .val (.long q1), .second] [])) _
  refine OGo.step (fun _ kk => XS.aloadN X167.here hx rfl (hb hby own_d_prog_4_method_1_code_4) rfl rfl kk) ?_
  show OGo p e below (T167.setTop (mkF m 5 #[.val (.ref a), .val (.ref x), .val (.long q1), .second] [(.ref a)])) _
  refine OGo.step (fun _ kk => XS.aloadN X167.here hx rfl (hb hby own_d_prog_4_method_1_code_5) rfl rfl kk) ?_
  show OGo p e below (T167.setTop (mkF m 6 #[.val (.ref a), .val (.ref x), .val (.long q1), .second] [(.ref x), (.ref a)])) _
  refine own_ldcW X167 hx hown (hw _ (List.mem_of_getElem? (i := 47) rfl)) wS hEL OW0 e167 (by decide) (vs := [.int (116 : Int32), .int (101 : Int32), .int (120 : Int32), .int (116 : Int32)]) (z := (4 : Int32)) ⟨by decide, by decide⟩ (by decide) (by decide) (pc := 6) (Ls := #[.val (.ref a), .val (.ref x), .val (.long q1), .second]) (st := [(.ref x), (.ref a)]) (hb hby own_d_prog_4_method_1_code_6) (n := 16) (by decide) (by decide) (by decide) (by decide) ?_
  intro z zb kb168 T168 X168 E168 OW168 hZ hown CH168 Es168 Fc168 Fv168 Av168 Ns168
  have sz168 : n0 ≤ T168.heap.size := Nat.le_trans Z0 E168.1
  show OGo p e below (T168.setTop (mkF m 8 #[.val (.ref a), .val (.ref x), .val (.long q1), .second] [(.ref z), (.ref x), (.ref a)])) _
  have cd168 : StrChars.Road.CodA ([116, 101, 120, 116] : List Int32) 0 (4 : Int32) [.int (116 : Int32), .int (101 : Int32), .int (120 : Int32), .int (116 : Int32)] := StrChars.Road.codOf (cs := [116, 101, 120, 116]) (n := 4) rfl (by decide)
  have O168 : OStr Z T168.heap z ([116, 101, 120, 116] : List Int32) := ⟨zb, kb168, 0, (4 : Int32), _, Es168, Fv168, Fc168, Av168, cd168, by decide, by decide⟩
  refine own_callS X168 hx hZ (y := (⟨"java/util/Objects", "requireNonNull", "(Ljava/lang/Object;Ljava/lang/String;)Ljava/lang/Object;"⟩ : MethodName)) hown (hw _ (List.mem_of_getElem? (i := 50) rfl)) (hw _ (List.mem_of_getElem? (i := 51) rfl)) (hw _ (List.mem_of_getElem? (i := 52) rfl)) (hw _ (List.mem_of_getElem? (i := 53) rfl)) (by decide) (W := 1) (own_rnn2 l Z a0 hw [] x z T168.heap n0 sz168) rfl  (pc := 8) (Ls := #[.val (.ref a), .val (.ref x), .val (.long q1), .second]) (argsL := [(.ref x), (.ref z)]) (rest := [(.ref a)]) (by rw [hml]; rfl) (lenOf own_pd1 rfl) rfl (hb hby own_d_prog_4_method_1_code_8) (by decide) (by decide) (by decide) (by decide) ?_
  intro v169 T169 L169 X169 hQ169
  obtain ⟨rfl, N169, e169⟩ := hQ169
  show OGo p e below (T169.setTop (mkF m 11 #[.val (.ref a), .val (.ref x), .val (.long q1), .second] [(.ref x), (.ref a)])) _
  have Nc169 := Fr.app (Fr.nil n0) N169
  have fx170 := G.ext E168
  obtain ⟨T171, X171, e171, st171⟩ := castY X169 hx hZ hown (hw _ (List.mem_of_getElem? (i := 54) rfl)) e169 (Ins.self (fx170).exa) (g := (mkF m 11 #[.val (.ref a), .val (.ref x), .val (.long q1), .second] [(.ref x), (.ref a)])) rfl rfl (hb hby own_d_prog_4_method_1_code_11)
  refine OGo.step st171 ?_
  show OGo p e below (T171.setTop (mkF m 14 #[.val (.ref a), .val (.ref x), .val (.long q1), .second] [(.ref x), (.ref a)])) _
  have fc172 := (E1.ext E168)
  have fc173 := (Ft.ext E168)
  obtain ⟨T174, h174, X174, e174, W174, st174⟩ := putF X171 hx hZ hown (host := "") (Or.inl (hw _ (List.mem_of_getElem? (i := 55) rfl))) Via.refl e171 fc173 fc172 (Or.inr ⟨(hw _ (List.mem_of_getElem? (i := 56) rfl)), rfl, hnm⟩) (hw _ (List.mem_of_getElem? (i := 41) rfl)) (ty := (.object "java/lang/String")) (by decide) rfl rfl (g := (mkF m 14 #[.val (.ref a), .val (.ref x), .val (.long q1), .second] [(.ref x), (.ref a)])) rfl rfl (hb hby own_d_prog_4_method_1_code_14)
  refine OGo.step st174 ?_
  show OGo p e below (T174.setTop (mkF m 17 #[.val (.ref a), .val (.ref x), .val (.long q1), .second] [])) _
  have Fw174 := fc173.same W174
  have Nf174 := Fr.snoc X174 Nc169 ga
  have sz174 : n0 ≤ h174.size := by rw [W174.size]; exact sz168
  have sw175 := (Safe.exa (EL := consts_1) OW168.2.1.alike fc172 (by decide) (by decide))
  have OW176 := OW168.wr W174 sw175
  refine OGo.step (fun _ kk => XS.aloadN X174.here hx rfl (hb hby own_d_prog_4_method_1_code_17) rfl rfl kk) ?_
  show OGo p e below (T174.setTop (mkF m 18 #[.val (.ref a), .val (.ref x), .val (.long q1), .second] [(.ref a)])) _
  refine OGo.step (fun _ kk => XS.lloadN X174.here hx rfl (hb hby own_d_prog_4_method_1_code_18) rfl kk) ?_
  show OGo p e below (T174.setTop (mkF m 19 #[.val (.ref a), .val (.ref x), .val (.long q1), .second] [(.long q1), (.ref a)])) _
  have fc177 := (fc172.wr W174)
  have fc178 := ((Fk.ext E168).other W174 (Or.inr (slot_ne (Or.inr (hw _ (List.mem_of_getElem? (i := 58) rfl))) (Or.inr (hw _ (List.mem_of_getElem? (i := 56) rfl))) (by decide) (t := .long) (t' := (.object "java/lang/String")) (by decide) (by decide))))
  obtain ⟨T179, h179, X179, e179, W179, st179⟩ := putF X174 hx hZ hown (host := "") (Or.inl (hw _ (List.mem_of_getElem? (i := 57) rfl))) Via.refl e174 fc178 fc177 (Or.inr ⟨(hw _ (List.mem_of_getElem? (i := 58) rfl)), rfl, hnm⟩) (hw _ (List.mem_of_getElem? (i := 41) rfl)) (ty := .long) (by decide) rfl rfl (g := (mkF m 19 #[.val (.ref a), .val (.ref x), .val (.long q1), .second] [(.long q1), (.ref a)])) rfl rfl (hb hby own_d_prog_4_method_1_code_19)
  refine OGo.step st179 ?_
  show OGo p e below (T179.setTop (mkF m 22 #[.val (.ref a), .val (.ref x), .val (.long q1), .second] [])) _
  have Fw179 := fc178.same W179
  have Nf179 := Fr.snoc X179 Nf174 ga
  have sz179 : n0 ≤ h179.size := by rw [W179.size]; exact sz174
  have sw180 := (Safe.exa (EL := consts_1) OW176.2.1.alike fc177 (by decide) (by decide))
  have OW181 := OW176.wr W179 sw180
  have fc182 := (fc177.wr W179)
  have fc183 := (Fw174.other W179 (Or.inr (slot_ne (Or.inr (hw _ (List.mem_of_getElem? (i := 56) rfl))) (Or.inr (hw _ (List.mem_of_getElem? (i := 58) rfl))) (by decide) (t := (.object "java/lang/String")) (t' := .long) (by decide) (by decide))))
  have HK := ((((Keep.refl h0 [a]).ext E168).wr W174 (Or.inl (List.mem_of_getElem? (i := 0) rfl))).wr W179 (Or.inl (List.mem_of_getElem? (i := 0) rfl)))
  exact own_ret0W X179 hx hlk hEL OW181 e179 hret (hb hby own_d_prog_4_method_1_code_22) (by rw [e179]; exact ⟨rfl, Nf179, HK, fc182, fc183, Fw179⟩) (by decide) (by decide)

set_option maxRecDepth 65536 in
set_option maxHeartbeats 40000000 in
theorem own_of (l : Launch) (Z : State) (a0 : Array Value) (hw : ∀ d ∈ tables_1, d.before a0 Z = true) (ws : List Jvm.Cond) (x : Addr) (cs : List Int32) (h0 : Heap) (n0 : Nat) (Z0 : n0 ≤ h0.size) (G : OStr Z h0 x cs) :
    OMetW l Z consts_1 (⟨"com/example/lease/lease/model/AddToken", "of", "(Ljava/lang/String;)Lcom/example/lease/lease/model/AddToken;"⟩ : MethodName) prog_4_method_2_code 1 (some (.object "com/example/lease/lease/model/AddToken")) ws ({ frames := 2, cells := 3, slots := 22, locals := 31 } : Room) #[(.ref x)] h0 (fun v h L => ∃ a : Addr, v = some (.ref a) ∧ Fr n0 L ∧ Ext h0 h ∧ Exa Z h a "com/example/lease/lease/model/AddToken" ∧ Fld Z h a "com/example/lease/lease/model/AddToken" "text" "Ljava/lang/String;" (.ref x) ∧ Fld Z h a "com/example/lease/lease/model/AddToken" "keptMillis" "J" (.long (86400000 : Int64))) := by
  refine OMetW.body (plainFor_of_name own_pn2) ?_
  intro p e s m below meth c s₁ hx hby hml hown hnm hret hlk hZ X0 e0 OW0
  have hEL := own_hEL hw
  have wS := own_wS hw
  refine OGo.step (fun _ kk => castTop (show entryFrame m #[(.ref x)] 1 = (mkF m 0 #[.val (.ref x)] []) from by first | (simp [entryFrame, mkF, argsToLocals, Value.category]; done) | rfl) kk) ?_
  show OGo p e below (s₁.setTop (mkF m 0 #[.val (.ref x)] [])) _
  obtain ⟨T184, h184, X184, e184, E184, A184, D184, U184, st184⟩ := newO X0 hx hZ hown (hw _ (List.mem_of_getElem? (i := 40) rfl)) (hw _ (List.mem_of_getElem? (i := 41) rfl)) (hw _ (List.mem_of_getElem? (i := 38) rfl)) e0 (g := (mkF m 0 #[.val (.ref x)] [])) rfl (hb hby own_d_prog_4_method_2_code_0) (by decide) (by decide)
  obtain ⟨a, g184⟩ : ∃ z, z = h0.size := ⟨_, rfl⟩
  rw [← g184] at A184 D184 U184 st184
  refine OGo.step st184 ?_
  show OGo p e below (T184.setTop (mkF m 3 #[.val (.ref x)] [(.ref a)])) _
  have gf_a : n0 ≤ a := Nat.le_trans Z0 (Nat.le_of_eq g184.symm)
  have sz184 : n0 ≤ h184.size := Nat.le_trans Z0 E184.1
  have OW185 := OW0.ext E184
  have F184_text : Fld Z h184 a "com/example/lease/lease/model/AddToken" "text" "Ljava/lang/String;" .null := D184 (Or.inr (hw _ (List.mem_of_getElem? (i := 56) rfl))) (ty := (.object "java/lang/String")) (by decide)
  have F184_keptMillis : Fld Z h184 a "com/example/lease/lease/model/AddToken" "keptMillis" "J" (.long (0 : Int64)) := D184 (Or.inr (hw _ (List.mem_of_getElem? (i := 58) rfl))) (ty := .long) (by decide)
  refine OGo.step (fun _ kk => XS.dup X184.here hx rfl (hb hby own_d_prog_4_method_2_code_3) rfl rfl kk) ?_
  show OGo p e below (T184.setTop (mkF m 4 #[.val (.ref x)] [(.ref a), (.ref a)])) _
  refine OGo.step (fun _ kk => XS.aloadN X184.here hx rfl (hb hby own_d_prog_4_method_2_code_4) rfl rfl kk) ?_
  show OGo p e below (T184.setTop (mkF m 5 #[.val (.ref x)] [(.ref x), (.ref a), (.ref a)])) _
  refine OGo.step (fun _ kk => X184.ldc2Long hx hown (mvT hZ (hw _ (List.mem_of_getElem? (i := 42) rfl))) (g := (mkF m 5 #[.val (.ref x)] [(.ref x), (.ref a), (.ref a)])) rfl (hb hby own_d_prog_4_method_2_code_5) _ kk) ?_
  show OGo p e below (T184.setTop (mkF m 8 #[.val (.ref x)] [(.long (86400000 : Int64)), (.ref x), (.ref a), (.ref a)])) _
  have fx186 := G.ext E184
  refine own_specialW X184 hx hZ (y := (⟨"com/example/lease/lease/model/AddToken", "<init>", "(Ljava/lang/String;J)V"⟩ : MethodName)) rfl hown (hw _ (List.mem_of_getElem? (i := 43) rfl)) (hw _ (List.mem_of_getElem? (i := 44) rfl)) (hw _ (List.mem_of_getElem? (i := 45) rfl)) (hw _ (List.mem_of_getElem? (i := 38) rfl)) (by decide) hEL OW185 (a := a) (W := 1) (own_atinit l Z a0 hw [] a x cs (86400000 : Int64) h184 n0 sz184 A184 F184_text F184_keptMillis gf_a fx186) e184  (pc := 8) (Ls := #[.val (.ref x)]) (argsL := [(.ref x), (.long (86400000 : Int64))]) (rest := [(.ref a)]) (by rw [hml]; rfl) (lenOf own_pd2 rfl) rfl (hb hby own_d_prog_4_method_2_code_8) (by decide) (by decide) (by decide) (by decide) ?_
  intro v187 T187 L187 X187 hQ187 OW187 hZ hown CH187
  obtain ⟨rfl, N187, K187, Ea187, Fa187, Fb187⟩ := hQ187
  show OGo p e below (T187.setTop (mkF m 11 #[.val (.ref x)] [(.ref a)])) _
  have Nc187 := Fr.app (Fr.nil n0) N187
  have sz187 : n0 ≤ T187.heap.size := Nat.le_trans sz184 K187.1
  have xt188 := (own_ext_keep E184 K187 (allS (Nat.le_of_eq g184.symm) all0))
  exact own_retW X187 hx hlk hEL OW187 rfl hret rfl (Or.inr (Or.inr (Or.inr (Or.inr ⟨rfl, rfl, rfl⟩)))) (hb hby own_d_prog_4_method_2_code_11) ⟨a, rfl, Nc187, xt188, Ea187, Fa187, Fb187⟩ (by decide) (by decide)

set_option maxRecDepth 65536 in
set_option maxHeartbeats 40000000 in
theorem own_text (l : Launch) (Z : State) (a0 : Array Value) (hw : ∀ d ∈ tables_1, d.before a0 Z = true) (ws : List Jvm.Cond) (a1 : Addr) (x : Addr) (h0 : Heap) (n0 : Nat) (Z0 : n0 ≤ h0.size) (F1 : Fld Z h0 a1 "com/example/lease/lease/model/AddToken" "text" "Ljava/lang/String;" (.ref x)) :
    OMet l Z (⟨"com/example/lease/lease/model/AddToken", "text", "()Ljava/lang/String;"⟩ : MethodName) prog_4_method_4_code 1 (some (.object "java/lang/String")) ws ({ frames := 0, cells := 0, slots := 0, locals := 0 } : Room) #[(.ref a1)] h0 (fun v h L => v = some (.ref x) ∧ Fr n0 L ∧ h = h0) := by
  refine OMet.body (plainFor_of_name own_pn2) ?_
  intro p e s m below meth c s₁ hx hby hml hown hnm hret hlk hZ X0 e0
  refine OGo.step (fun _ kk => castTop (show entryFrame m #[(.ref a1)] 1 = (mkF m 0 #[.val (.ref a1)] []) from by first | (simp [entryFrame, mkF, argsToLocals, Value.category]; done) | rfl) kk) ?_
  show OGo p e below (s₁.setTop (mkF m 0 #[.val (.ref a1)] [])) _
  refine OGo.step (fun _ kk => XS.aloadN X0.here hx rfl (hb hby own_d_prog_4_method_4_code_0) rfl rfl kk) ?_
  show OGo p e below (s₁.setTop (mkF m 1 #[.val (.ref a1)] [(.ref a1)])) _
  obtain ⟨T189, X189, e189, st189⟩ := getF X0 hx hZ hown (host := "") (Or.inl (hw _ (List.mem_of_getElem? (i := 55) rfl))) Via.refl e0 F1 (g := (mkF m 1 #[.val (.ref a1)] [(.ref a1)])) rfl rfl (hb hby own_d_prog_4_method_4_code_1)
  refine OGo.step st189 ?_
  show OGo p e below (T189.setTop (mkF m 4 #[.val (.ref a1)] [(.ref x)])) _
  exact own_ret X189 hx hlk hret rfl (Or.inr (Or.inr (Or.inr (Or.inr ⟨rfl, rfl, rfl⟩)))) (hb hby own_d_prog_4_method_4_code_4) ⟨rfl, Fr.nil n0, e189⟩ (by decide) (by decide)

set_option maxRecDepth 65536 in
set_option maxHeartbeats 40000000 in
theorem own_kept (l : Launch) (Z : State) (a0 : Array Value) (hw : ∀ d ∈ tables_1, d.before a0 Z = true) (ws : List Jvm.Cond) (a1 : Addr) (q1 : Int64) (h0 : Heap) (n0 : Nat) (Z0 : n0 ≤ h0.size) (F1 : Fld Z h0 a1 "com/example/lease/lease/model/AddToken" "keptMillis" "J" (.long q1)) :
    OMet l Z (⟨"com/example/lease/lease/model/AddToken", "keptMillis", "()J"⟩ : MethodName) prog_4_method_5_code 1 (some .long) ws ({ frames := 0, cells := 0, slots := 0, locals := 0 } : Room) #[(.ref a1)] h0 (fun v h L => v = some (.long q1) ∧ Fr n0 L ∧ h = h0) := by
  refine OMet.body (plainFor_of_name own_pn2) ?_
  intro p e s m below meth c s₁ hx hby hml hown hnm hret hlk hZ X0 e0
  refine OGo.step (fun _ kk => castTop (show entryFrame m #[(.ref a1)] 1 = (mkF m 0 #[.val (.ref a1)] []) from by first | (simp [entryFrame, mkF, argsToLocals, Value.category]; done) | rfl) kk) ?_
  show OGo p e below (s₁.setTop (mkF m 0 #[.val (.ref a1)] [])) _
  refine OGo.step (fun _ kk => XS.aloadN X0.here hx rfl (hb hby own_d_prog_4_method_5_code_0) rfl rfl kk) ?_
  show OGo p e below (s₁.setTop (mkF m 1 #[.val (.ref a1)] [(.ref a1)])) _
  obtain ⟨T190, X190, e190, st190⟩ := getF X0 hx hZ hown (host := "") (Or.inl (hw _ (List.mem_of_getElem? (i := 57) rfl))) Via.refl e0 F1 (g := (mkF m 1 #[.val (.ref a1)] [(.ref a1)])) rfl rfl (hb hby own_d_prog_4_method_5_code_1)
  refine OGo.step st190 ?_
  show OGo p e below (T190.setTop (mkF m 4 #[.val (.ref a1)] [(.long q1)])) _
  exact own_ret X190 hx hlk hret rfl (Or.inr (Or.inl ⟨rfl, rfl, _, rfl⟩)) (hb hby own_d_prog_4_method_5_code_4) ⟨rfl, Fr.nil n0, e190⟩ (by decide) (by decide)

set_option maxRecDepth 65536 in
set_option maxHeartbeats 40000000 in
theorem own_rm0 (l : Launch) (Z : State) (a0 : Array Value) (hw : ∀ d ∈ tables_1, d.before a0 Z = true) (ws : List Jvm.Cond) (p1 p2 p3 zc : Int32) (h0 : Heap) (n0 : Nat) (Z0 : n0 ≤ h0.size) (SC : Sta Z h0 "java/lang/String" "COMPACT_STRINGS" "Z" (.int zc)) (hzc : ¬ zc = 0) (SA : Sta Z h0 "java/lang/StringUTF16" "$assertionsDisabled" "Z" (.int (1 : Int32))) (SH : Sta Z h0 "java/lang/StringUTF16" "HI_BYTE_SHIFT" "I" (.int (0 : Int32))) (SL : Sta Z h0 "java/lang/StringUTF16" "LO_BYTE_SHIFT" "I" (.int (8 : Int32))) :
    OMetW l Z consts_1 x code maxLocals ret ws room_1 #[(.int p1), (.int p2), (.int p3)] h0 (fun v h L => v = some (.int (1 : Int32)) ∧ Fr n0 L) := by
  refine OMetW.body (plainFor_of_name own_pn0) ?_
  intro p e s m below meth c s₁ hx hby hml hown hnm hret hlk hZ X0 e0 OW0
  have hml : c.maxLocals = 12 := hml
  have hEL := own_hEL hw
  have wS := own_wS hw
  refine OGo.step (fun _ kk => castTop (show entryFrame m #[(.int p1), (.int p2), (.int p3)] maxLocals = (mkF m 0 #[.val (.int p1), .val (.int p2), .val (.int p3), .unset, .unset, .unset, .unset, .unset, .unset, .unset, .unset, .unset] []) from by first | (simp [entryFrame, mkF, argsToLocals, Value.category, maxLocals]; done) | rfl) kk) ?_
  show OGo p e below (s₁.setTop (mkF m 0 #[.val (.int p1), .val (.int p2), .val (.int p3), .unset, .unset, .unset, .unset, .unset, .unset, .unset, .unset, .unset] [])) _
  refine OGo.step (fun _ kk => XS.iloadN X0.here hx rfl (hb hby at_0) rfl kk) ?_
  show OGo p e below (s₁.setTop (mkF m 1 #[.val (.int p1), .val (.int p2), .val (.int p3), .unset, .unset, .unset, .unset, .unset, .unset, .unset, .unset, .unset] [(.int p1)])) _
  refine OGo.step (fun _ kk => X0.ldcInt hx hown (mvT hZ (hw _ (List.mem_of_getElem? (i := 0) rfl))) (g := (mkF m 1 #[.val (.int p1), .val (.int p2), .val (.int p3), .unset, .unset, .unset, .unset, .unset, .unset, .unset, .unset, .unset] [(.int p1)])) rfl (hb hby at_1) _ kk) ?_
  show OGo p e below (s₁.setTop (mkF m 3 #[.val (.int p1), .val (.int p2), .val (.int p3), .unset, .unset, .unset, .unset, .unset, .unset, .unset, .unset, .unset] [(.int (65535 : Int32)), (.int p1)])) _
  refine OGo.step (fun _ kk => XS.iand X0.here hx rfl (hb hby at_3) rfl kk) ?_
  show OGo p e below (s₁.setTop (mkF m 4 #[.val (.int p1), .val (.int p2), .val (.int p3), .unset, .unset, .unset, .unset, .unset, .unset, .unset, .unset, .unset] [(.int (p1 &&& (65535 : Int32)))])) _
  refine OGo.step (fun _ kk => XS.i2c X0.here hx rfl (hb hby at_4) rfl kk) ?_
  show OGo p e below (s₁.setTop (mkF m 5 #[.val (.int p1), .val (.int p2), .val (.int p3), .unset, .unset, .unset, .unset, .unset, .unset, .unset, .unset, .unset] [(.int ((p1 &&& (65535 : Int32)).toUInt32.toUInt16.toUInt32.toInt32))])) _
  refine OGo.step (fun _ kk => XS.istoreN X0.here hx rfl (hb hby at_5) rfl (l' := #[.val (.int p1), .val (.int p2), .val (.int p3), .val (.int ((p1 &&& (65535 : Int32)).toUInt32.toUInt16.toUInt32.toInt32)), .unset, .unset, .unset, .unset, .unset, .unset, .unset, .unset]) rfl kk) ?_
  show OGo p e below (s₁.setTop (mkF m 6 #[.val (.int p1), .val (.int p2), .val (.int p3), .val (.int ((p1 &&& (65535 : Int32)).toUInt32.toUInt16.toUInt32.toInt32)), .unset, .unset, .unset, .unset, .unset, .unset, .unset, .unset] [])) _
  refine OGo.step (fun _ kk => XS.iloadN X0.here hx rfl (hb hby at_6) rfl kk) ?_
  show OGo p e below (s₁.setTop (mkF m 7 #[.val (.int p1), .val (.int p2), .val (.int p3), .val (.int ((p1 &&& (65535 : Int32)).toUInt32.toUInt16.toUInt32.toInt32)), .unset, .unset, .unset, .unset, .unset, .unset, .unset, .unset] [(.int p1)])) _
  refine OGo.step (fun _ kk => XS.bipush X0.here hx rfl (hb hby at_7) kk) ?_
  show OGo p e below (s₁.setTop (mkF m 9 #[.val (.int p1), .val (.int p2), .val (.int p3), .val (.int ((p1 &&& (65535 : Int32)).toUInt32.toUInt16.toUInt32.toInt32)), .unset, .unset, .unset, .unset, .unset, .unset, .unset, .unset] [(.int (16 : Int32)), (.int p1)])) _
  refine OGo.step (fun _ kk => XS.iushr X0.here hx rfl (hb hby at_9) rfl kk) ?_
  show OGo p e below (s₁.setTop (mkF m 10 #[.val (.int p1), .val (.int p2), .val (.int p3), .val (.int ((p1 &&& (65535 : Int32)).toUInt32.toUInt16.toUInt32.toInt32)), .unset, .unset, .unset, .unset, .unset, .unset, .unset, .unset] [(.int ((p1.toUInt32 >>> ((16 : Int32) &&& 31).toUInt32).toInt32))])) _
  refine OGo.step (fun _ kk => XS.i2c X0.here hx rfl (hb hby at_10) rfl kk) ?_
  show OGo p e below (s₁.setTop (mkF m 11 #[.val (.int p1), .val (.int p2), .val (.int p3), .val (.int ((p1 &&& (65535 : Int32)).toUInt32.toUInt16.toUInt32.toInt32)), .unset, .unset, .unset, .unset, .unset, .unset, .unset, .unset] [(.int (((p1.toUInt32 >>> ((16 : Int32) &&& 31).toUInt32).toInt32).toUInt32.toUInt16.toUInt32.toInt32))])) _
  refine OGo.step (fun _ kk => XS.istore X0.here hx rfl (hb hby at_11) rfl (l' := #[.val (.int p1), .val (.int p2), .val (.int p3), .val (.int ((p1 &&& (65535 : Int32)).toUInt32.toUInt16.toUInt32.toInt32)), .val (.int (((p1.toUInt32 >>> ((16 : Int32) &&& 31).toUInt32).toInt32).toUInt32.toUInt16.toUInt32.toInt32)), .unset, .unset, .unset, .unset, .unset, .unset, .unset]) rfl kk) ?_
  show OGo p e below (s₁.setTop (mkF m 13 #[.val (.int p1), .val (.int p2), .val (.int p3), .val (.int ((p1 &&& (65535 : Int32)).toUInt32.toUInt16.toUInt32.toInt32)), .val (.int (((p1.toUInt32 >>> ((16 : Int32) &&& 31).toUInt32).toInt32).toUInt32.toUInt16.toUInt32.toInt32)), .unset, .unset, .unset, .unset, .unset, .unset, .unset] [])) _
  refine OGo.step (fun _ kk => XS.iloadN X0.here hx rfl (hb hby at_13) rfl kk) ?_
  show OGo p e below (s₁.setTop (mkF m 14 #[.val (.int p1), .val (.int p2), .val (.int p3), .val (.int ((p1 &&& (65535 : Int32)).toUInt32.toUInt16.toUInt32.toInt32)), .val (.int (((p1.toUInt32 >>> ((16 : Int32) &&& 31).toUInt32).toInt32).toUInt32.toUInt16.toUInt32.toInt32)), .unset, .unset, .unset, .unset, .unset, .unset, .unset] [(.int p2)])) _
  refine OGo.step (fun _ kk => X0.ldcInt hx hown (mvT hZ (hw _ (List.mem_of_getElem? (i := 0) rfl))) (g := (mkF m 14 #[.val (.int p1), .val (.int p2), .val (.int p3), .val (.int ((p1 &&& (65535 : Int32)).toUInt32.toUInt16.toUInt32.toInt32)), .val (.int (((p1.toUInt32 >>> ((16 : Int32) &&& 31).toUInt32).toInt32).toUInt32.toUInt16.toUInt32.toInt32)), .unset, .unset, .unset, .unset, .unset, .unset, .unset] [(.int p2)])) rfl (hb hby at_14) _ kk) ?_
  show OGo p e below (s₁.setTop (mkF m 16 #[.val (.int p1), .val (.int p2), .val (.int p3), .val (.int ((p1 &&& (65535 : Int32)).toUInt32.toUInt16.toUInt32.toInt32)), .val (.int (((p1.toUInt32 >>> ((16 : Int32) &&& 31).toUInt32).toInt32).toUInt32.toUInt16.toUInt32.toInt32)), .unset, .unset, .unset, .unset, .unset, .unset, .unset] [(.int (65535 : Int32)), (.int p2)])) _
  refine OGo.step (fun _ kk => XS.iand X0.here hx rfl (hb hby at_16) rfl kk) ?_
  show OGo p e below (s₁.setTop (mkF m 17 #[.val (.int p1), .val (.int p2), .val (.int p3), .val (.int ((p1 &&& (65535 : Int32)).toUInt32.toUInt16.toUInt32.toInt32)), .val (.int (((p1.toUInt32 >>> ((16 : Int32) &&& 31).toUInt32).toInt32).toUInt32.toUInt16.toUInt32.toInt32)), .unset, .unset, .unset, .unset, .unset, .unset, .unset] [(.int (p2 &&& (65535 : Int32)))])) _
  refine OGo.step (fun _ kk => XS.i2c X0.here hx rfl (hb hby at_17) rfl kk) ?_
  show OGo p e below (s₁.setTop (mkF m 18 #[.val (.int p1), .val (.int p2), .val (.int p3), .val (.int ((p1 &&& (65535 : Int32)).toUInt32.toUInt16.toUInt32.toInt32)), .val (.int (((p1.toUInt32 >>> ((16 : Int32) &&& 31).toUInt32).toInt32).toUInt32.toUInt16.toUInt32.toInt32)), .unset, .unset, .unset, .unset, .unset, .unset, .unset] [(.int ((p2 &&& (65535 : Int32)).toUInt32.toUInt16.toUInt32.toInt32))])) _
  refine OGo.step (fun _ kk => XS.istore X0.here hx rfl (hb hby at_18) rfl (l' := #[.val (.int p1), .val (.int p2), .val (.int p3), .val (.int ((p1 &&& (65535 : Int32)).toUInt32.toUInt16.toUInt32.toInt32)), .val (.int (((p1.toUInt32 >>> ((16 : Int32) &&& 31).toUInt32).toInt32).toUInt32.toUInt16.toUInt32.toInt32)), .val (.int ((p2 &&& (65535 : Int32)).toUInt32.toUInt16.toUInt32.toInt32)), .unset, .unset, .unset, .unset, .unset, .unset]) rfl kk) ?_
  show OGo p e below (s₁.setTop (mkF m 20 #[.val (.int p1), .val (.int p2), .val (.int p3), .val (.int ((p1 &&& (65535 : Int32)).toUInt32.toUInt16.toUInt32.toInt32)), .val (.int (((p1.toUInt32 >>> ((16 : Int32) &&& 31).toUInt32).toInt32).toUInt32.toUInt16.toUInt32.toInt32)), .val (.int ((p2 &&& (65535 : Int32)).toUInt32.toUInt16.toUInt32.toInt32)), .unset, .unset, .unset, .unset, .unset, .unset] [])) _
  refine OGo.step (fun _ kk => XS.iloadN X0.here hx rfl (hb hby at_20) rfl kk) ?_
  show OGo p e below (s₁.setTop (mkF m 21 #[.val (.int p1), .val (.int p2), .val (.int p3), .val (.int ((p1 &&& (65535 : Int32)).toUInt32.toUInt16.toUInt32.toInt32)), .val (.int (((p1.toUInt32 >>> ((16 : Int32) &&& 31).toUInt32).toInt32).toUInt32.toUInt16.toUInt32.toInt32)), .val (.int ((p2 &&& (65535 : Int32)).toUInt32.toUInt16.toUInt32.toInt32)), .unset, .unset, .unset, .unset, .unset, .unset] [(.int p2)])) _
  refine OGo.step (fun _ kk => XS.bipush X0.here hx rfl (hb hby at_21) kk) ?_
  show OGo p e below (s₁.setTop (mkF m 23 #[.val (.int p1), .val (.int p2), .val (.int p3), .val (.int ((p1 &&& (65535 : Int32)).toUInt32.toUInt16.toUInt32.toInt32)), .val (.int (((p1.toUInt32 >>> ((16 : Int32) &&& 31).toUInt32).toInt32).toUInt32.toUInt16.toUInt32.toInt32)), .val (.int ((p2 &&& (65535 : Int32)).toUInt32.toUInt16.toUInt32.toInt32)), .unset, .unset, .unset, .unset, .unset, .unset] [(.int (16 : Int32)), (.int p2)])) _
  refine OGo.step (fun _ kk => XS.iushr X0.here hx rfl (hb hby at_23) rfl kk) ?_
  show OGo p e below (s₁.setTop (mkF m 24 #[.val (.int p1), .val (.int p2), .val (.int p3), .val (.int ((p1 &&& (65535 : Int32)).toUInt32.toUInt16.toUInt32.toInt32)), .val (.int (((p1.toUInt32 >>> ((16 : Int32) &&& 31).toUInt32).toInt32).toUInt32.toUInt16.toUInt32.toInt32)), .val (.int ((p2 &&& (65535 : Int32)).toUInt32.toUInt16.toUInt32.toInt32)), .unset, .unset, .unset, .unset, .unset, .unset] [(.int ((p2.toUInt32 >>> ((16 : Int32) &&& 31).toUInt32).toInt32))])) _
  refine OGo.step (fun _ kk => XS.i2c X0.here hx rfl (hb hby at_24) rfl kk) ?_
  show OGo p e below (s₁.setTop (mkF m 25 #[.val (.int p1), .val (.int p2), .val (.int p3), .val (.int ((p1 &&& (65535 : Int32)).toUInt32.toUInt16.toUInt32.toInt32)), .val (.int (((p1.toUInt32 >>> ((16 : Int32) &&& 31).toUInt32).toInt32).toUInt32.toUInt16.toUInt32.toInt32)), .val (.int ((p2 &&& (65535 : Int32)).toUInt32.toUInt16.toUInt32.toInt32)), .unset, .unset, .unset, .unset, .unset, .unset] [(.int (((p2.toUInt32 >>> ((16 : Int32) &&& 31).toUInt32).toInt32).toUInt32.toUInt16.toUInt32.toInt32))])) _
  refine OGo.step (fun _ kk => XS.istore X0.here hx rfl (hb hby at_25) rfl (l' := #[.val (.int p1), .val (.int p2), .val (.int p3), .val (.int ((p1 &&& (65535 : Int32)).toUInt32.toUInt16.toUInt32.toInt32)), .val (.int (((p1.toUInt32 >>> ((16 : Int32) &&& 31).toUInt32).toInt32).toUInt32.toUInt16.toUInt32.toInt32)), .val (.int ((p2 &&& (65535 : Int32)).toUInt32.toUInt16.toUInt32.toInt32)), .val (.int (((p2.toUInt32 >>> ((16 : Int32) &&& 31).toUInt32).toInt32).toUInt32.toUInt16.toUInt32.toInt32)), .unset, .unset, .unset, .unset, .unset]) rfl kk) ?_
  show OGo p e below (s₁.setTop (mkF m 27 #[.val (.int p1), .val (.int p2), .val (.int p3), .val (.int ((p1 &&& (65535 : Int32)).toUInt32.toUInt16.toUInt32.toInt32)), .val (.int (((p1.toUInt32 >>> ((16 : Int32) &&& 31).toUInt32).toInt32).toUInt32.toUInt16.toUInt32.toInt32)), .val (.int ((p2 &&& (65535 : Int32)).toUInt32.toUInt16.toUInt32.toInt32)), .val (.int (((p2.toUInt32 >>> ((16 : Int32) &&& 31).toUInt32).toInt32).toUInt32.toUInt16.toUInt32.toInt32)), .unset, .unset, .unset, .unset, .unset] [])) _
  refine OGo.step (fun _ kk => XS.iloadN X0.here hx rfl (hb hby at_27) rfl kk) ?_
  show OGo p e below (s₁.setTop (mkF m 28 #[.val (.int p1), .val (.int p2), .val (.int p3), .val (.int ((p1 &&& (65535 : Int32)).toUInt32.toUInt16.toUInt32.toInt32)), .val (.int (((p1.toUInt32 >>> ((16 : Int32) &&& 31).toUInt32).toInt32).toUInt32.toUInt16.toUInt32.toInt32)), .val (.int ((p2 &&& (65535 : Int32)).toUInt32.toUInt16.toUInt32.toInt32)), .val (.int (((p2.toUInt32 >>> ((16 : Int32) &&& 31).toUInt32).toInt32).toUInt32.toUInt16.toUInt32.toInt32)), .unset, .unset, .unset, .unset, .unset] [(.int p3)])) _
  refine OGo.step (fun _ kk => X0.ldcInt hx hown (mvT hZ (hw _ (List.mem_of_getElem? (i := 1) rfl))) (g := (mkF m 28 #[.val (.int p1), .val (.int p2), .val (.int p3), .val (.int ((p1 &&& (65535 : Int32)).toUInt32.toUInt16.toUInt32.toInt32)), .val (.int (((p1.toUInt32 >>> ((16 : Int32) &&& 31).toUInt32).toInt32).toUInt32.toUInt16.toUInt32.toInt32)), .val (.int ((p2 &&& (65535 : Int32)).toUInt32.toUInt16.toUInt32.toInt32)), .val (.int (((p2.toUInt32 >>> ((16 : Int32) &&& 31).toUInt32).toInt32).toUInt32.toUInt16.toUInt32.toInt32)), .unset, .unset, .unset, .unset, .unset] [(.int p3)])) rfl (hb hby at_28) _ kk) ?_
  show OGo p e below (s₁.setTop (mkF m 30 #[.val (.int p1), .val (.int p2), .val (.int p3), .val (.int ((p1 &&& (65535 : Int32)).toUInt32.toUInt16.toUInt32.toInt32)), .val (.int (((p1.toUInt32 >>> ((16 : Int32) &&& 31).toUInt32).toInt32).toUInt32.toUInt16.toUInt32.toInt32)), .val (.int ((p2 &&& (65535 : Int32)).toUInt32.toUInt16.toUInt32.toInt32)), .val (.int (((p2.toUInt32 >>> ((16 : Int32) &&& 31).toUInt32).toInt32).toUInt32.toUInt16.toUInt32.toInt32)), .unset, .unset, .unset, .unset, .unset] [(.int (2147483647 : Int32)), (.int p3)])) _
  refine OGo.step (fun _ kk => XS.iand X0.here hx rfl (hb hby at_30) rfl kk) ?_
  show OGo p e below (s₁.setTop (mkF m 31 #[.val (.int p1), .val (.int p2), .val (.int p3), .val (.int ((p1 &&& (65535 : Int32)).toUInt32.toUInt16.toUInt32.toInt32)), .val (.int (((p1.toUInt32 >>> ((16 : Int32) &&& 31).toUInt32).toInt32).toUInt32.toUInt16.toUInt32.toInt32)), .val (.int ((p2 &&& (65535 : Int32)).toUInt32.toUInt16.toUInt32.toInt32)), .val (.int (((p2.toUInt32 >>> ((16 : Int32) &&& 31).toUInt32).toInt32).toUInt32.toUInt16.toUInt32.toInt32)), .unset, .unset, .unset, .unset, .unset] [(.int (p3 &&& (2147483647 : Int32)))])) _
  refine OGo.step (fun _ kk => XS.iconst X0.here hx rfl (hb hby at_31) kk) ?_
  show OGo p e below (s₁.setTop (mkF m 32 #[.val (.int p1), .val (.int p2), .val (.int p3), .val (.int ((p1 &&& (65535 : Int32)).toUInt32.toUInt16.toUInt32.toInt32)), .val (.int (((p1.toUInt32 >>> ((16 : Int32) &&& 31).toUInt32).toInt32).toUInt32.toUInt16.toUInt32.toInt32)), .val (.int ((p2 &&& (65535 : Int32)).toUInt32.toUInt16.toUInt32.toInt32)), .val (.int (((p2.toUInt32 >>> ((16 : Int32) &&& 31).toUInt32).toInt32).toUInt32.toUInt16.toUInt32.toInt32)), .unset, .unset, .unset, .unset, .unset] [(.int (5 : Int32)), (.int (p3 &&& (2147483647 : Int32)))])) _
  refine OGo.step (fun _ kk => Jvm.RoadKit.iremM X0 hx rfl (hb hby at_32) rfl (by decide) kk) ?_
  show OGo p e below (s₁.setTop (mkF m 33 #[.val (.int p1), .val (.int p2), .val (.int p3), .val (.int ((p1 &&& (65535 : Int32)).toUInt32.toUInt16.toUInt32.toInt32)), .val (.int (((p1.toUInt32 >>> ((16 : Int32) &&& 31).toUInt32).toInt32).toUInt32.toUInt16.toUInt32.toInt32)), .val (.int ((p2 &&& (65535 : Int32)).toUInt32.toUInt16.toUInt32.toInt32)), .val (.int (((p2.toUInt32 >>> ((16 : Int32) &&& 31).toUInt32).toInt32).toUInt32.toUInt16.toUInt32.toInt32)), .unset, .unset, .unset, .unset, .unset] [(.int ((p3 &&& (2147483647 : Int32)) % (5 : Int32)))])) _
  have h5 := own_five p3
  obtain ⟨n, hn⟩ : ∃ z, z = ((p3 &&& (2147483647 : Int32)) % (5 : Int32)) := ⟨_, rfl⟩
  rw [← hn] at h5
  rw [← hn]
  show OGo p e below (s₁.setTop (mkF m 33 #[.val (.int p1), .val (.int p2), .val (.int p3), .val (.int ((p1 &&& (65535 : Int32)).toUInt32.toUInt16.toUInt32.toInt32)), .val (.int (((p1.toUInt32 >>> ((16 : Int32) &&& 31).toUInt32).toInt32).toUInt32.toUInt16.toUInt32.toInt32)), .val (.int ((p2 &&& (65535 : Int32)).toUInt32.toUInt16.toUInt32.toInt32)), .val (.int (((p2.toUInt32 >>> ((16 : Int32) &&& 31).toUInt32).toInt32).toUInt32.toUInt16.toUInt32.toInt32)), .unset, .unset, .unset, .unset, .unset] [(.int n)])) _
  refine OGo.step (fun _ kk => XS.istore X0.here hx rfl (hb hby at_33) rfl (l' := #[.val (.int p1), .val (.int p2), .val (.int p3), .val (.int ((p1 &&& (65535 : Int32)).toUInt32.toUInt16.toUInt32.toInt32)), .val (.int (((p1.toUInt32 >>> ((16 : Int32) &&& 31).toUInt32).toInt32).toUInt32.toUInt16.toUInt32.toInt32)), .val (.int ((p2 &&& (65535 : Int32)).toUInt32.toUInt16.toUInt32.toInt32)), .val (.int (((p2.toUInt32 >>> ((16 : Int32) &&& 31).toUInt32).toInt32).toUInt32.toUInt16.toUInt32.toInt32)), .val (.int n), .unset, .unset, .unset, .unset]) rfl kk) ?_
  show OGo p e below (s₁.setTop (mkF m 35 #[.val (.int p1), .val (.int p2), .val (.int p3), .val (.int ((p1 &&& (65535 : Int32)).toUInt32.toUInt16.toUInt32.toInt32)), .val (.int (((p1.toUInt32 >>> ((16 : Int32) &&& 31).toUInt32).toInt32).toUInt32.toUInt16.toUInt32.toInt32)), .val (.int ((p2 &&& (65535 : Int32)).toUInt32.toUInt16.toUInt32.toInt32)), .val (.int (((p2.toUInt32 >>> ((16 : Int32) &&& 31).toUInt32).toInt32).toUInt32.toUInt16.toUInt32.toInt32)), .val (.int n), .unset, .unset, .unset, .unset] [])) _
  refine OGo.step (fun _ kk => XS.iload X0.here hx rfl (hb hby at_35) rfl kk) ?_
  show OGo p e below (s₁.setTop (mkF m 37 #[.val (.int p1), .val (.int p2), .val (.int p3), .val (.int ((p1 &&& (65535 : Int32)).toUInt32.toUInt16.toUInt32.toInt32)), .val (.int (((p1.toUInt32 >>> ((16 : Int32) &&& 31).toUInt32).toInt32).toUInt32.toUInt16.toUInt32.toInt32)), .val (.int ((p2 &&& (65535 : Int32)).toUInt32.toUInt16.toUInt32.toInt32)), .val (.int (((p2.toUInt32 >>> ((16 : Int32) &&& 31).toUInt32).toInt32).toUInt32.toUInt16.toUInt32.toInt32)), .val (.int n), .unset, .unset, .unset, .unset] [(.int n)])) _
  refine OGo.step (fun _ kk => XS.iloadN X0.here hx rfl (hb hby at_37) rfl kk) ?_
  show OGo p e below (s₁.setTop (mkF m 38 #[.val (.int p1), .val (.int p2), .val (.int p3), .val (.int ((p1 &&& (65535 : Int32)).toUInt32.toUInt16.toUInt32.toInt32)), .val (.int (((p1.toUInt32 >>> ((16 : Int32) &&& 31).toUInt32).toInt32).toUInt32.toUInt16.toUInt32.toInt32)), .val (.int ((p2 &&& (65535 : Int32)).toUInt32.toUInt16.toUInt32.toInt32)), .val (.int (((p2.toUInt32 >>> ((16 : Int32) &&& 31).toUInt32).toInt32).toUInt32.toUInt16.toUInt32.toInt32)), .val (.int n), .unset, .unset, .unset, .unset] [(.int ((p1 &&& (65535 : Int32)).toUInt32.toUInt16.toUInt32.toInt32)), (.int n)])) _
  refine OGo.step (fun _ kk => XS.iload X0.here hx rfl (hb hby at_38) rfl kk) ?_
  show OGo p e below (s₁.setTop (mkF m 40 #[.val (.int p1), .val (.int p2), .val (.int p3), .val (.int ((p1 &&& (65535 : Int32)).toUInt32.toUInt16.toUInt32.toInt32)), .val (.int (((p1.toUInt32 >>> ((16 : Int32) &&& 31).toUInt32).toInt32).toUInt32.toUInt16.toUInt32.toInt32)), .val (.int ((p2 &&& (65535 : Int32)).toUInt32.toUInt16.toUInt32.toInt32)), .val (.int (((p2.toUInt32 >>> ((16 : Int32) &&& 31).toUInt32).toInt32).toUInt32.toUInt16.toUInt32.toInt32)), .val (.int n), .unset, .unset, .unset, .unset] [(.int (((p1.toUInt32 >>> ((16 : Int32) &&& 31).toUInt32).toInt32).toUInt32.toUInt16.toUInt32.toInt32)), (.int ((p1 &&& (65535 : Int32)).toUInt32.toUInt16.toUInt32.toInt32)), (.int n)])) _
  refine OGo.step (fun _ kk => XS.iload X0.here hx rfl (hb hby at_40) rfl kk) ?_
  show OGo p e below (s₁.setTop (mkF m 42 #[.val (.int p1), .val (.int p2), .val (.int p3), .val (.int ((p1 &&& (65535 : Int32)).toUInt32.toUInt16.toUInt32.toInt32)), .val (.int (((p1.toUInt32 >>> ((16 : Int32) &&& 31).toUInt32).toInt32).toUInt32.toUInt16.toUInt32.toInt32)), .val (.int ((p2 &&& (65535 : Int32)).toUInt32.toUInt16.toUInt32.toInt32)), .val (.int (((p2.toUInt32 >>> ((16 : Int32) &&& 31).toUInt32).toInt32).toUInt32.toUInt16.toUInt32.toInt32)), .val (.int n), .unset, .unset, .unset, .unset] [(.int ((p2 &&& (65535 : Int32)).toUInt32.toUInt16.toUInt32.toInt32)), (.int (((p1.toUInt32 >>> ((16 : Int32) &&& 31).toUInt32).toInt32).toUInt32.toUInt16.toUInt32.toInt32)), (.int ((p1 &&& (65535 : Int32)).toUInt32.toUInt16.toUInt32.toInt32)), (.int n)])) _
  refine OGo.step (fun _ kk => XS.iload X0.here hx rfl (hb hby at_42) rfl kk) ?_
  show OGo p e below (s₁.setTop (mkF m 44 #[.val (.int p1), .val (.int p2), .val (.int p3), .val (.int ((p1 &&& (65535 : Int32)).toUInt32.toUInt16.toUInt32.toInt32)), .val (.int (((p1.toUInt32 >>> ((16 : Int32) &&& 31).toUInt32).toInt32).toUInt32.toUInt16.toUInt32.toInt32)), .val (.int ((p2 &&& (65535 : Int32)).toUInt32.toUInt16.toUInt32.toInt32)), .val (.int (((p2.toUInt32 >>> ((16 : Int32) &&& 31).toUInt32).toInt32).toUInt32.toUInt16.toUInt32.toInt32)), .val (.int n), .unset, .unset, .unset, .unset] [(.int (((p2.toUInt32 >>> ((16 : Int32) &&& 31).toUInt32).toInt32).toUInt32.toUInt16.toUInt32.toInt32)), (.int ((p2 &&& (65535 : Int32)).toUInt32.toUInt16.toUInt32.toInt32)), (.int (((p1.toUInt32 >>> ((16 : Int32) &&& 31).toUInt32).toInt32).toUInt32.toUInt16.toUInt32.toInt32)), (.int ((p1 &&& (65535 : Int32)).toUInt32.toUInt16.toUInt32.toInt32)), (.int n)])) _
  refine own_callSW X0 hx hZ (y := (⟨"com/example/lease/lease/model/AddTokenOfPinLaw", "make", "(ICCCC)Ljava/lang/String;"⟩ : MethodName)) hown (hw _ (List.mem_of_getElem? (i := 2) rfl)) (hw _ (List.mem_of_getElem? (i := 3) rfl)) (hw _ (List.mem_of_getElem? (i := 4) rfl)) (hw _ (List.mem_of_getElem? (i := 5) rfl)) (by decide) hEL OW0 (W := 0) (own_make l Z a0 hw [] n ((p1 &&& (65535 : Int32)).toUInt32.toUInt16.toUInt32.toInt32) (((p1.toUInt32 >>> ((16 : Int32) &&& 31).toUInt32).toInt32).toUInt32.toUInt16.toUInt32.toInt32) ((p2 &&& (65535 : Int32)).toUInt32.toUInt16.toUInt32.toInt32) (((p2.toUInt32 >>> ((16 : Int32) &&& 31).toUInt32).toInt32).toUInt32.toUInt16.toUInt32.toInt32) zc h0 n0 Z0 SC hzc SA SH SL) e0  (pc := 44) (Ls := #[.val (.int p1), .val (.int p2), .val (.int p3), .val (.int ((p1 &&& (65535 : Int32)).toUInt32.toUInt16.toUInt32.toInt32)), .val (.int (((p1.toUInt32 >>> ((16 : Int32) &&& 31).toUInt32).toInt32).toUInt32.toUInt16.toUInt32.toInt32)), .val (.int ((p2 &&& (65535 : Int32)).toUInt32.toUInt16.toUInt32.toInt32)), .val (.int (((p2.toUInt32 >>> ((16 : Int32) &&& 31).toUInt32).toInt32).toUInt32.toUInt16.toUInt32.toInt32)), .val (.int n), .unset, .unset, .unset, .unset]) (argsL := [(.int n), (.int ((p1 &&& (65535 : Int32)).toUInt32.toUInt16.toUInt32.toInt32)), (.int (((p1.toUInt32 >>> ((16 : Int32) &&& 31).toUInt32).toInt32).toUInt32.toUInt16.toUInt32.toInt32)), (.int ((p2 &&& (65535 : Int32)).toUInt32.toUInt16.toUInt32.toInt32)), (.int (((p2.toUInt32 >>> ((16 : Int32) &&& 31).toUInt32).toInt32).toUInt32.toUInt16.toUInt32.toInt32))]) (rest := []) (by rw [hml]; rfl) (lenOf own_pd3 rfl) rfl (hb hby at_44) (by decide) (by decide) (by decide) (by decide) ?_
  intro v191 T191 L191 X191 hQ191 OW191 hZ hown CH191
  obtain ⟨x, rfl, N191, Xe191, O191⟩ := hQ191
  show OGo p e below (T191.setTop (mkF m 47 #[.val (.int p1), .val (.int p2), .val (.int p3), .val (.int ((p1 &&& (65535 : Int32)).toUInt32.toUInt16.toUInt32.toInt32)), .val (.int (((p1.toUInt32 >>> ((16 : Int32) &&& 31).toUInt32).toInt32).toUInt32.toUInt16.toUInt32.toInt32)), .val (.int ((p2 &&& (65535 : Int32)).toUInt32.toUInt16.toUInt32.toInt32)), .val (.int (((p2.toUInt32 >>> ((16 : Int32) &&& 31).toUInt32).toInt32).toUInt32.toUInt16.toUInt32.toInt32)), .val (.int n), .unset, .unset, .unset, .unset] [(.ref x)])) _
  have Nc191 := Fr.app (Fr.nil n0) N191
  have sz191 : n0 ≤ T191.heap.size := Nat.le_trans Z0 Xe191.1
  refine OGo.step (fun _ kk => XS.astore X191.here hx rfl (hb hby at_47) rfl rfl (l' := #[.val (.int p1), .val (.int p2), .val (.int p3), .val (.int ((p1 &&& (65535 : Int32)).toUInt32.toUInt16.toUInt32.toInt32)), .val (.int (((p1.toUInt32 >>> ((16 : Int32) &&& 31).toUInt32).toInt32).toUInt32.toUInt16.toUInt32.toInt32)), .val (.int ((p2 &&& (65535 : Int32)).toUInt32.toUInt16.toUInt32.toInt32)), .val (.int (((p2.toUInt32 >>> ((16 : Int32) &&& 31).toUInt32).toInt32).toUInt32.toUInt16.toUInt32.toInt32)), .val (.int n), .val (.ref x), .unset, .unset, .unset]) rfl kk) ?_
  show OGo p e below (T191.setTop (mkF m 49 #[.val (.int p1), .val (.int p2), .val (.int p3), .val (.int ((p1 &&& (65535 : Int32)).toUInt32.toUInt16.toUInt32.toInt32)), .val (.int (((p1.toUInt32 >>> ((16 : Int32) &&& 31).toUInt32).toInt32).toUInt32.toUInt16.toUInt32.toInt32)), .val (.int ((p2 &&& (65535 : Int32)).toUInt32.toUInt16.toUInt32.toInt32)), .val (.int (((p2.toUInt32 >>> ((16 : Int32) &&& 31).toUInt32).toInt32).toUInt32.toUInt16.toUInt32.toInt32)), .val (.int n), .val (.ref x), .unset, .unset, .unset] [])) _
  refine OGo.step (fun _ kk => XS.iload X191.here hx rfl (hb hby at_49) rfl kk) ?_
  show OGo p e below (T191.setTop (mkF m 51 #[.val (.int p1), .val (.int p2), .val (.int p3), .val (.int ((p1 &&& (65535 : Int32)).toUInt32.toUInt16.toUInt32.toInt32)), .val (.int (((p1.toUInt32 >>> ((16 : Int32) &&& 31).toUInt32).toInt32).toUInt32.toUInt16.toUInt32.toInt32)), .val (.int ((p2 &&& (65535 : Int32)).toUInt32.toUInt16.toUInt32.toInt32)), .val (.int (((p2.toUInt32 >>> ((16 : Int32) &&& 31).toUInt32).toInt32).toUInt32.toUInt16.toUInt32.toInt32)), .val (.int n), .val (.ref x), .unset, .unset, .unset] [(.int n)])) _
  refine OGo.step (fun _ kk => XS.iloadN X191.here hx rfl (hb hby at_51) rfl kk) ?_
  show OGo p e below (T191.setTop (mkF m 52 #[.val (.int p1), .val (.int p2), .val (.int p3), .val (.int ((p1 &&& (65535 : Int32)).toUInt32.toUInt16.toUInt32.toInt32)), .val (.int (((p1.toUInt32 >>> ((16 : Int32) &&& 31).toUInt32).toInt32).toUInt32.toUInt16.toUInt32.toInt32)), .val (.int ((p2 &&& (65535 : Int32)).toUInt32.toUInt16.toUInt32.toInt32)), .val (.int (((p2.toUInt32 >>> ((16 : Int32) &&& 31).toUInt32).toInt32).toUInt32.toUInt16.toUInt32.toInt32)), .val (.int n), .val (.ref x), .unset, .unset, .unset] [(.int ((p1 &&& (65535 : Int32)).toUInt32.toUInt16.toUInt32.toInt32)), (.int n)])) _
  refine OGo.step (fun _ kk => XS.iload X191.here hx rfl (hb hby at_52) rfl kk) ?_
  show OGo p e below (T191.setTop (mkF m 54 #[.val (.int p1), .val (.int p2), .val (.int p3), .val (.int ((p1 &&& (65535 : Int32)).toUInt32.toUInt16.toUInt32.toInt32)), .val (.int (((p1.toUInt32 >>> ((16 : Int32) &&& 31).toUInt32).toInt32).toUInt32.toUInt16.toUInt32.toInt32)), .val (.int ((p2 &&& (65535 : Int32)).toUInt32.toUInt16.toUInt32.toInt32)), .val (.int (((p2.toUInt32 >>> ((16 : Int32) &&& 31).toUInt32).toInt32).toUInt32.toUInt16.toUInt32.toInt32)), .val (.int n), .val (.ref x), .unset, .unset, .unset] [(.int (((p1.toUInt32 >>> ((16 : Int32) &&& 31).toUInt32).toInt32).toUInt32.toUInt16.toUInt32.toInt32)), (.int ((p1 &&& (65535 : Int32)).toUInt32.toUInt16.toUInt32.toInt32)), (.int n)])) _
  refine OGo.step (fun _ kk => XS.iload X191.here hx rfl (hb hby at_54) rfl kk) ?_
  show OGo p e below (T191.setTop (mkF m 56 #[.val (.int p1), .val (.int p2), .val (.int p3), .val (.int ((p1 &&& (65535 : Int32)).toUInt32.toUInt16.toUInt32.toInt32)), .val (.int (((p1.toUInt32 >>> ((16 : Int32) &&& 31).toUInt32).toInt32).toUInt32.toUInt16.toUInt32.toInt32)), .val (.int ((p2 &&& (65535 : Int32)).toUInt32.toUInt16.toUInt32.toInt32)), .val (.int (((p2.toUInt32 >>> ((16 : Int32) &&& 31).toUInt32).toInt32).toUInt32.toUInt16.toUInt32.toInt32)), .val (.int n), .val (.ref x), .unset, .unset, .unset] [(.int ((p2 &&& (65535 : Int32)).toUInt32.toUInt16.toUInt32.toInt32)), (.int (((p1.toUInt32 >>> ((16 : Int32) &&& 31).toUInt32).toInt32).toUInt32.toUInt16.toUInt32.toInt32)), (.int ((p1 &&& (65535 : Int32)).toUInt32.toUInt16.toUInt32.toInt32)), (.int n)])) _
  refine OGo.step (fun _ kk => XS.iload X191.here hx rfl (hb hby at_56) rfl kk) ?_
  show OGo p e below (T191.setTop (mkF m 58 #[.val (.int p1), .val (.int p2), .val (.int p3), .val (.int ((p1 &&& (65535 : Int32)).toUInt32.toUInt16.toUInt32.toInt32)), .val (.int (((p1.toUInt32 >>> ((16 : Int32) &&& 31).toUInt32).toInt32).toUInt32.toUInt16.toUInt32.toInt32)), .val (.int ((p2 &&& (65535 : Int32)).toUInt32.toUInt16.toUInt32.toInt32)), .val (.int (((p2.toUInt32 >>> ((16 : Int32) &&& 31).toUInt32).toInt32).toUInt32.toUInt16.toUInt32.toInt32)), .val (.int n), .val (.ref x), .unset, .unset, .unset] [(.int (((p2.toUInt32 >>> ((16 : Int32) &&& 31).toUInt32).toInt32).toUInt32.toUInt16.toUInt32.toInt32)), (.int ((p2 &&& (65535 : Int32)).toUInt32.toUInt16.toUInt32.toInt32)), (.int (((p1.toUInt32 >>> ((16 : Int32) &&& 31).toUInt32).toInt32).toUInt32.toUInt16.toUInt32.toInt32)), (.int ((p1 &&& (65535 : Int32)).toUInt32.toUInt16.toUInt32.toInt32)), (.int n)])) _
  have fx192 := SC.ext Xe191
  have fx193 := SA.ext Xe191
  have fx194 := SH.ext Xe191
  have fx195 := SL.ext Xe191
  refine own_callSW X191 hx hZ (y := (⟨"com/example/lease/lease/model/AddTokenOfPinLaw", "make", "(ICCCC)Ljava/lang/String;"⟩ : MethodName)) hown (hw _ (List.mem_of_getElem? (i := 2) rfl)) (hw _ (List.mem_of_getElem? (i := 3) rfl)) (hw _ (List.mem_of_getElem? (i := 4) rfl)) (hw _ (List.mem_of_getElem? (i := 5) rfl)) (by decide) hEL OW191 (W := 0) (own_make l Z a0 hw [] n ((p1 &&& (65535 : Int32)).toUInt32.toUInt16.toUInt32.toInt32) (((p1.toUInt32 >>> ((16 : Int32) &&& 31).toUInt32).toInt32).toUInt32.toUInt16.toUInt32.toInt32) ((p2 &&& (65535 : Int32)).toUInt32.toUInt16.toUInt32.toInt32) (((p2.toUInt32 >>> ((16 : Int32) &&& 31).toUInt32).toInt32).toUInt32.toUInt16.toUInt32.toInt32) zc T191.heap n0 sz191 fx192 hzc fx193 fx194 fx195) rfl  (pc := 58) (Ls := #[.val (.int p1), .val (.int p2), .val (.int p3), .val (.int ((p1 &&& (65535 : Int32)).toUInt32.toUInt16.toUInt32.toInt32)), .val (.int (((p1.toUInt32 >>> ((16 : Int32) &&& 31).toUInt32).toInt32).toUInt32.toUInt16.toUInt32.toInt32)), .val (.int ((p2 &&& (65535 : Int32)).toUInt32.toUInt16.toUInt32.toInt32)), .val (.int (((p2.toUInt32 >>> ((16 : Int32) &&& 31).toUInt32).toInt32).toUInt32.toUInt16.toUInt32.toInt32)), .val (.int n), .val (.ref x), .unset, .unset, .unset]) (argsL := [(.int n), (.int ((p1 &&& (65535 : Int32)).toUInt32.toUInt16.toUInt32.toInt32)), (.int (((p1.toUInt32 >>> ((16 : Int32) &&& 31).toUInt32).toInt32).toUInt32.toUInt16.toUInt32.toInt32)), (.int ((p2 &&& (65535 : Int32)).toUInt32.toUInt16.toUInt32.toInt32)), (.int (((p2.toUInt32 >>> ((16 : Int32) &&& 31).toUInt32).toInt32).toUInt32.toUInt16.toUInt32.toInt32))]) (rest := []) (by rw [hml]; rfl) (lenOf own_pd3 rfl) rfl (hb hby at_58) (by decide) (by decide) (by decide) (by decide) ?_
  intro v196 T196 L196 X196 hQ196 OW196 hZ hown CH196
  obtain ⟨y, rfl, N196, Xe196, O196⟩ := hQ196
  show OGo p e below (T196.setTop (mkF m 61 #[.val (.int p1), .val (.int p2), .val (.int p3), .val (.int ((p1 &&& (65535 : Int32)).toUInt32.toUInt16.toUInt32.toInt32)), .val (.int (((p1.toUInt32 >>> ((16 : Int32) &&& 31).toUInt32).toInt32).toUInt32.toUInt16.toUInt32.toInt32)), .val (.int ((p2 &&& (65535 : Int32)).toUInt32.toUInt16.toUInt32.toInt32)), .val (.int (((p2.toUInt32 >>> ((16 : Int32) &&& 31).toUInt32).toInt32).toUInt32.toUInt16.toUInt32.toInt32)), .val (.int n), .val (.ref x), .unset, .unset, .unset] [(.ref y)])) _
  have Nc196 := Fr.app Nc191 N196
  have sz196 : n0 ≤ T196.heap.size := Nat.le_trans sz191 Xe196.1
  refine OGo.step (fun _ kk => XS.astore X196.here hx rfl (hb hby at_61) rfl rfl (l' := #[.val (.int p1), .val (.int p2), .val (.int p3), .val (.int ((p1 &&& (65535 : Int32)).toUInt32.toUInt16.toUInt32.toInt32)), .val (.int (((p1.toUInt32 >>> ((16 : Int32) &&& 31).toUInt32).toInt32).toUInt32.toUInt16.toUInt32.toInt32)), .val (.int ((p2 &&& (65535 : Int32)).toUInt32.toUInt16.toUInt32.toInt32)), .val (.int (((p2.toUInt32 >>> ((16 : Int32) &&& 31).toUInt32).toInt32).toUInt32.toUInt16.toUInt32.toInt32)), .val (.int n), .val (.ref x), .val (.ref y), .unset, .unset]) rfl kk) ?_
  show OGo p e below (T196.setTop (mkF m 63 #[.val (.int p1), .val (.int p2), .val (.int p3), .val (.int ((p1 &&& (65535 : Int32)).toUInt32.toUInt16.toUInt32.toInt32)), .val (.int (((p1.toUInt32 >>> ((16 : Int32) &&& 31).toUInt32).toInt32).toUInt32.toUInt16.toUInt32.toInt32)), .val (.int ((p2 &&& (65535 : Int32)).toUInt32.toUInt16.toUInt32.toInt32)), .val (.int (((p2.toUInt32 >>> ((16 : Int32) &&& 31).toUInt32).toInt32).toUInt32.toUInt16.toUInt32.toInt32)), .val (.int n), .val (.ref x), .val (.ref y), .unset, .unset] [])) _
  refine OGo.step (fun _ kk => XS.aload X196.here hx rfl (hb hby at_63) rfl rfl kk) ?_
  show OGo p e below (T196.setTop (mkF m 65 #[.val (.int p1), .val (.int p2), .val (.int p3), .val (.int ((p1 &&& (65535 : Int32)).toUInt32.toUInt16.toUInt32.toInt32)), .val (.int (((p1.toUInt32 >>> ((16 : Int32) &&& 31).toUInt32).toInt32).toUInt32.toUInt16.toUInt32.toInt32)), .val (.int ((p2 &&& (65535 : Int32)).toUInt32.toUInt16.toUInt32.toInt32)), .val (.int (((p2.toUInt32 >>> ((16 : Int32) &&& 31).toUInt32).toInt32).toUInt32.toUInt16.toUInt32.toInt32)), .val (.int n), .val (.ref x), .val (.ref y), .unset, .unset] [(.ref x)])) _
  have fx197 := O191.ext Xe196
  refine own_callSW X196 hx hZ (y := (⟨"com/example/lease/lease/model/AddToken", "of", "(Ljava/lang/String;)Lcom/example/lease/lease/model/AddToken;"⟩ : MethodName)) hown (hw _ (List.mem_of_getElem? (i := 36) rfl)) (hw _ (List.mem_of_getElem? (i := 37) rfl)) (hw _ (List.mem_of_getElem? (i := 38) rfl)) (hw _ (List.mem_of_getElem? (i := 39) rfl)) (by decide) hEL OW196 (W := 0) (own_of l Z a0 hw [] x (own_mk n ((p1 &&& (65535 : Int32)).toUInt32.toUInt16.toUInt32.toInt32) (((p1.toUInt32 >>> ((16 : Int32) &&& 31).toUInt32).toInt32).toUInt32.toUInt16.toUInt32.toInt32) ((p2 &&& (65535 : Int32)).toUInt32.toUInt16.toUInt32.toInt32) (((p2.toUInt32 >>> ((16 : Int32) &&& 31).toUInt32).toInt32).toUInt32.toUInt16.toUInt32.toInt32)) T196.heap n0 sz196 fx197) rfl  (pc := 65) (Ls := #[.val (.int p1), .val (.int p2), .val (.int p3), .val (.int ((p1 &&& (65535 : Int32)).toUInt32.toUInt16.toUInt32.toInt32)), .val (.int (((p1.toUInt32 >>> ((16 : Int32) &&& 31).toUInt32).toInt32).toUInt32.toUInt16.toUInt32.toInt32)), .val (.int ((p2 &&& (65535 : Int32)).toUInt32.toUInt16.toUInt32.toInt32)), .val (.int (((p2.toUInt32 >>> ((16 : Int32) &&& 31).toUInt32).toInt32).toUInt32.toUInt16.toUInt32.toInt32)), .val (.int n), .val (.ref x), .val (.ref y), .unset, .unset]) (argsL := [(.ref x)]) (rest := []) (by rw [hml]; rfl) (lenOf own_pd4 rfl) rfl (hb hby at_65) (by decide) (by decide) (by decide) (by decide) ?_
  intro v198 T198 L198 X198 hQ198 OW198 hZ hown CH198
  obtain ⟨a, rfl, N198, Xe198, Ea, Ft, Fk⟩ := hQ198
  show OGo p e below (T198.setTop (mkF m 68 #[.val (.int p1), .val (.int p2), .val (.int p3), .val (.int ((p1 &&& (65535 : Int32)).toUInt32.toUInt16.toUInt32.toInt32)), .val (.int (((p1.toUInt32 >>> ((16 : Int32) &&& 31).toUInt32).toInt32).toUInt32.toUInt16.toUInt32.toInt32)), .val (.int ((p2 &&& (65535 : Int32)).toUInt32.toUInt16.toUInt32.toInt32)), .val (.int (((p2.toUInt32 >>> ((16 : Int32) &&& 31).toUInt32).toInt32).toUInt32.toUInt16.toUInt32.toInt32)), .val (.int n), .val (.ref x), .val (.ref y), .unset, .unset] [(.ref a)])) _
  have Nc198 := Fr.app Nc196 N198
  have sz198 : n0 ≤ T198.heap.size := Nat.le_trans sz196 Xe198.1
  refine OGo.step (fun _ kk => XS.astore X198.here hx rfl (hb hby at_68) rfl rfl (l' := #[.val (.int p1), .val (.int p2), .val (.int p3), .val (.int ((p1 &&& (65535 : Int32)).toUInt32.toUInt16.toUInt32.toInt32)), .val (.int (((p1.toUInt32 >>> ((16 : Int32) &&& 31).toUInt32).toInt32).toUInt32.toUInt16.toUInt32.toInt32)), .val (.int ((p2 &&& (65535 : Int32)).toUInt32.toUInt16.toUInt32.toInt32)), .val (.int (((p2.toUInt32 >>> ((16 : Int32) &&& 31).toUInt32).toInt32).toUInt32.toUInt16.toUInt32.toInt32)), .val (.int n), .val (.ref x), .val (.ref y), .val (.ref a), .unset]) rfl kk) ?_
  show OGo p e below (T198.setTop (mkF m 70 #[.val (.int p1), .val (.int p2), .val (.int p3), .val (.int ((p1 &&& (65535 : Int32)).toUInt32.toUInt16.toUInt32.toInt32)), .val (.int (((p1.toUInt32 >>> ((16 : Int32) &&& 31).toUInt32).toInt32).toUInt32.toUInt16.toUInt32.toInt32)), .val (.int ((p2 &&& (65535 : Int32)).toUInt32.toUInt16.toUInt32.toInt32)), .val (.int (((p2.toUInt32 >>> ((16 : Int32) &&& 31).toUInt32).toInt32).toUInt32.toUInt16.toUInt32.toInt32)), .val (.int n), .val (.ref x), .val (.ref y), .val (.ref a), .unset] [])) _
  refine OGo.step (fun _ kk => XS.aload X198.here hx rfl (hb hby at_70) rfl rfl kk) ?_
  show OGo p e below (T198.setTop (mkF m 72 #[.val (.int p1), .val (.int p2), .val (.int p3), .val (.int ((p1 &&& (65535 : Int32)).toUInt32.toUInt16.toUInt32.toInt32)), .val (.int (((p1.toUInt32 >>> ((16 : Int32) &&& 31).toUInt32).toInt32).toUInt32.toUInt16.toUInt32.toInt32)), .val (.int ((p2 &&& (65535 : Int32)).toUInt32.toUInt16.toUInt32.toInt32)), .val (.int (((p2.toUInt32 >>> ((16 : Int32) &&& 31).toUInt32).toInt32).toUInt32.toUInt16.toUInt32.toInt32)), .val (.int n), .val (.ref x), .val (.ref y), .val (.ref a), .unset] [(.ref a)])) _
  refine own_virtual X198 hx hZ (y := (⟨"com/example/lease/lease/model/AddToken", "text", "()Ljava/lang/String;"⟩ : MethodName)) (z := (⟨"com/example/lease/lease/model/AddToken", "text", "()Ljava/lang/String;"⟩ : MethodName)) hown (hw _ (List.mem_of_getElem? (i := 59) rfl)) (hw _ (List.mem_of_getElem? (i := 60) rfl)) (notFace_of_selects (args := #[]) (mvT hZ (hw _ (List.mem_of_getElem? (i := 62) rfl)))) (hw _ (List.mem_of_getElem? (i := 62) rfl)) (hw _ (List.mem_of_getElem? (i := 61) rfl)) (by decide) (hw _ (List.mem_of_getElem? (i := 63) rfl)) (hw _ (List.mem_of_getElem? (i := 38) rfl)) (b := a) Ea (W := 0) (own_text l Z a0 hw [] a x T198.heap n0 sz198 Ft) rfl  (pc := 72) (Ls := #[.val (.int p1), .val (.int p2), .val (.int p3), .val (.int ((p1 &&& (65535 : Int32)).toUInt32.toUInt16.toUInt32.toInt32)), .val (.int (((p1.toUInt32 >>> ((16 : Int32) &&& 31).toUInt32).toInt32).toUInt32.toUInt16.toUInt32.toInt32)), .val (.int ((p2 &&& (65535 : Int32)).toUInt32.toUInt16.toUInt32.toInt32)), .val (.int (((p2.toUInt32 >>> ((16 : Int32) &&& 31).toUInt32).toInt32).toUInt32.toUInt16.toUInt32.toInt32)), .val (.int n), .val (.ref x), .val (.ref y), .val (.ref a), .unset]) (argsL := []) (rest := []) (by rw [hml]; rfl) (lenOf own_pd5 rfl) rfl (hb hby at_72) (by decide) (by decide) (by decide) (by decide) ?_
  intro v199 T199 L199 X199 hQ199
  obtain ⟨rfl, N199, e199⟩ := hQ199
  show OGo p e below (T199.setTop (mkF m 75 #[.val (.int p1), .val (.int p2), .val (.int p3), .val (.int ((p1 &&& (65535 : Int32)).toUInt32.toUInt16.toUInt32.toInt32)), .val (.int (((p1.toUInt32 >>> ((16 : Int32) &&& 31).toUInt32).toInt32).toUInt32.toUInt16.toUInt32.toInt32)), .val (.int ((p2 &&& (65535 : Int32)).toUInt32.toUInt16.toUInt32.toInt32)), .val (.int (((p2.toUInt32 >>> ((16 : Int32) &&& 31).toUInt32).toInt32).toUInt32.toUInt16.toUInt32.toInt32)), .val (.int n), .val (.ref x), .val (.ref y), .val (.ref a), .unset] [(.ref x)])) _
  have Nc199 := Fr.app Nc198 N199
  refine OGo.step (fun _ kk => XS.astore X199.here hx rfl (hb hby at_75) rfl rfl (l' := #[.val (.int p1), .val (.int p2), .val (.int p3), .val (.int ((p1 &&& (65535 : Int32)).toUInt32.toUInt16.toUInt32.toInt32)), .val (.int (((p1.toUInt32 >>> ((16 : Int32) &&& 31).toUInt32).toInt32).toUInt32.toUInt16.toUInt32.toInt32)), .val (.int ((p2 &&& (65535 : Int32)).toUInt32.toUInt16.toUInt32.toInt32)), .val (.int (((p2.toUInt32 >>> ((16 : Int32) &&& 31).toUInt32).toInt32).toUInt32.toUInt16.toUInt32.toInt32)), .val (.int n), .val (.ref x), .val (.ref y), .val (.ref a), .val (.ref x)]) rfl kk) ?_
  show OGo p e below (T199.setTop (mkF m 77 #[.val (.int p1), .val (.int p2), .val (.int p3), .val (.int ((p1 &&& (65535 : Int32)).toUInt32.toUInt16.toUInt32.toInt32)), .val (.int (((p1.toUInt32 >>> ((16 : Int32) &&& 31).toUInt32).toInt32).toUInt32.toUInt16.toUInt32.toInt32)), .val (.int ((p2 &&& (65535 : Int32)).toUInt32.toUInt16.toUInt32.toInt32)), .val (.int (((p2.toUInt32 >>> ((16 : Int32) &&& 31).toUInt32).toInt32).toUInt32.toUInt16.toUInt32.toInt32)), .val (.int n), .val (.ref x), .val (.ref y), .val (.ref a), .val (.ref x)] [])) _
  refine OGo.step (fun _ kk => XS.aload X199.here hx rfl (hb hby at_77) rfl rfl kk) ?_
  show OGo p e below (T199.setTop (mkF m 79 #[.val (.int p1), .val (.int p2), .val (.int p3), .val (.int ((p1 &&& (65535 : Int32)).toUInt32.toUInt16.toUInt32.toInt32)), .val (.int (((p1.toUInt32 >>> ((16 : Int32) &&& 31).toUInt32).toInt32).toUInt32.toUInt16.toUInt32.toInt32)), .val (.int ((p2 &&& (65535 : Int32)).toUInt32.toUInt16.toUInt32.toInt32)), .val (.int (((p2.toUInt32 >>> ((16 : Int32) &&& 31).toUInt32).toInt32).toUInt32.toUInt16.toUInt32.toInt32)), .val (.int n), .val (.ref x), .val (.ref y), .val (.ref a), .val (.ref x)] [(.ref x)])) _
  refine OGo.step (fun _ kk => XS.ifnullNo X199.here hx rfl (hb hby at_79) rfl kk) ?_
  show OGo p e below (T199.setTop (mkF m 82 #[.val (.int p1), .val (.int p2), .val (.int p3), .val (.int ((p1 &&& (65535 : Int32)).toUInt32.toUInt16.toUInt32.toInt32)), .val (.int (((p1.toUInt32 >>> ((16 : Int32) &&& 31).toUInt32).toInt32).toUInt32.toUInt16.toUInt32.toInt32)), .val (.int ((p2 &&& (65535 : Int32)).toUInt32.toUInt16.toUInt32.toInt32)), .val (.int (((p2.toUInt32 >>> ((16 : Int32) &&& 31).toUInt32).toInt32).toUInt32.toUInt16.toUInt32.toInt32)), .val (.int n), .val (.ref x), .val (.ref y), .val (.ref a), .val (.ref x)] [])) _
  refine OGo.step (fun _ kk => XS.aload X199.here hx rfl (hb hby at_82) rfl rfl kk) ?_
  show OGo p e below (T199.setTop (mkF m 84 #[.val (.int p1), .val (.int p2), .val (.int p3), .val (.int ((p1 &&& (65535 : Int32)).toUInt32.toUInt16.toUInt32.toInt32)), .val (.int (((p1.toUInt32 >>> ((16 : Int32) &&& 31).toUInt32).toInt32).toUInt32.toUInt16.toUInt32.toInt32)), .val (.int ((p2 &&& (65535 : Int32)).toUInt32.toUInt16.toUInt32.toInt32)), .val (.int (((p2.toUInt32 >>> ((16 : Int32) &&& 31).toUInt32).toInt32).toUInt32.toUInt16.toUInt32.toInt32)), .val (.int n), .val (.ref x), .val (.ref y), .val (.ref a), .val (.ref x)] [(.ref x)])) _
  have xt200 := (own_ext_trans Xe196 Xe198)
  have fx201 := O191.ext xt200
  have xt202 := (own_ext_trans Xe191 Xe196)
  have xt203 := (own_ext_trans xt202 Xe198)
  have fx204 := SC.ext xt203
  refine own_virtualK X199 hx hZ (y := (⟨"java/lang/String", "length", "()I"⟩ : MethodName)) (z := (⟨"java/lang/String", "length", "()I"⟩ : MethodName)) hown (hw _ (List.mem_of_getElem? (i := 64) rfl)) (hw _ (List.mem_of_getElem? (i := 65) rfl)) (notFace_of_selects (args := #[]) (mvT hZ (hw _ (List.mem_of_getElem? (i := 67) rfl)))) (hw _ (List.mem_of_getElem? (i := 67) rfl)) (hw _ (List.mem_of_getElem? (i := 66) rfl)) (by decide) (b := x) (fx201).exa (W := 0) (own_slen (W := 0) hZ (fun d hd => hw d ((by decide +kernel : ∀ d ∈ StrChars.Road.wordsLen, d ∈ tables_1) d hd)) (kI := 4) (hw _ (List.mem_of_getElem? (i := 7) rfl)) fx201 fx204 hzc n0 (by decide) (by decide)) e199 (pc := 84) (Ls := #[.val (.int p1), .val (.int p2), .val (.int p3), .val (.int ((p1 &&& (65535 : Int32)).toUInt32.toUInt16.toUInt32.toInt32)), .val (.int (((p1.toUInt32 >>> ((16 : Int32) &&& 31).toUInt32).toInt32).toUInt32.toUInt16.toUInt32.toInt32)), .val (.int ((p2 &&& (65535 : Int32)).toUInt32.toUInt16.toUInt32.toInt32)), .val (.int (((p2.toUInt32 >>> ((16 : Int32) &&& 31).toUInt32).toInt32).toUInt32.toUInt16.toUInt32.toInt32)), .val (.int n), .val (.ref x), .val (.ref y), .val (.ref a), .val (.ref x)]) (argsL := []) (rest := []) (by rw [hml]; rfl) (lenOf own_pd6 rfl) rfl (hb hby at_84) (by decide) (by decide) ?_
  intro v205 T205 L205 X205 hQ205
  obtain ⟨rfl, N205, e205⟩ := hQ205
  show OGo p e below (T205.setTop (mkF m 87 #[.val (.int p1), .val (.int p2), .val (.int p3), .val (.int ((p1 &&& (65535 : Int32)).toUInt32.toUInt16.toUInt32.toInt32)), .val (.int (((p1.toUInt32 >>> ((16 : Int32) &&& 31).toUInt32).toInt32).toUInt32.toUInt16.toUInt32.toInt32)), .val (.int ((p2 &&& (65535 : Int32)).toUInt32.toUInt16.toUInt32.toInt32)), .val (.int (((p2.toUInt32 >>> ((16 : Int32) &&& 31).toUInt32).toInt32).toUInt32.toUInt16.toUInt32.toInt32)), .val (.int n), .val (.ref x), .val (.ref y), .val (.ref a), .val (.ref x)] [(.int (Int32.ofNat (own_mk n ((p1 &&& (65535 : Int32)).toUInt32.toUInt16.toUInt32.toInt32) (((p1.toUInt32 >>> ((16 : Int32) &&& 31).toUInt32).toInt32).toUInt32.toUInt16.toUInt32.toInt32) ((p2 &&& (65535 : Int32)).toUInt32.toUInt16.toUInt32.toInt32) (((p2.toUInt32 >>> ((16 : Int32) &&& 31).toUInt32).toInt32).toUInt32.toUInt16.toUInt32.toInt32)).length))])) _
  have Nc205 := Fr.app Nc199 N205
  refine OGo.step (fun _ kk => XS.iload X205.here hx rfl (hb hby at_87) rfl kk) ?_
  show OGo p e below (T205.setTop (mkF m 89 #[.val (.int p1), .val (.int p2), .val (.int p3), .val (.int ((p1 &&& (65535 : Int32)).toUInt32.toUInt16.toUInt32.toInt32)), .val (.int (((p1.toUInt32 >>> ((16 : Int32) &&& 31).toUInt32).toInt32).toUInt32.toUInt16.toUInt32.toInt32)), .val (.int ((p2 &&& (65535 : Int32)).toUInt32.toUInt16.toUInt32.toInt32)), .val (.int (((p2.toUInt32 >>> ((16 : Int32) &&& 31).toUInt32).toInt32).toUInt32.toUInt16.toUInt32.toInt32)), .val (.int n), .val (.ref x), .val (.ref y), .val (.ref a), .val (.ref x)] [(.int n), (.int (Int32.ofNat (own_mk n ((p1 &&& (65535 : Int32)).toUInt32.toUInt16.toUInt32.toInt32) (((p1.toUInt32 >>> ((16 : Int32) &&& 31).toUInt32).toInt32).toUInt32.toUInt16.toUInt32.toInt32) ((p2 &&& (65535 : Int32)).toUInt32.toUInt16.toUInt32.toInt32) (((p2.toUInt32 >>> ((16 : Int32) &&& 31).toUInt32).toInt32).toUInt32.toUInt16.toUInt32.toInt32)).length))])) _
  refine OGo.step (fun _ kk => XS.icmpNo X205.here hx rfl (hb hby at_89) rfl (teq (own_mk_len n _ _ _ _ h5)).2 kk) ?_
  show OGo p e below (T205.setTop (mkF m 92 #[.val (.int p1), .val (.int p2), .val (.int p3), .val (.int ((p1 &&& (65535 : Int32)).toUInt32.toUInt16.toUInt32.toInt32)), .val (.int (((p1.toUInt32 >>> ((16 : Int32) &&& 31).toUInt32).toInt32).toUInt32.toUInt16.toUInt32.toInt32)), .val (.int ((p2 &&& (65535 : Int32)).toUInt32.toUInt16.toUInt32.toInt32)), .val (.int (((p2.toUInt32 >>> ((16 : Int32) &&& 31).toUInt32).toInt32).toUInt32.toUInt16.toUInt32.toInt32)), .val (.int n), .val (.ref x), .val (.ref y), .val (.ref a), .val (.ref x)] [])) _
  refine OGo.step (fun _ kk => XS.aload X205.here hx rfl (hb hby at_92) rfl rfl kk) ?_
  show OGo p e below (T205.setTop (mkF m 94 #[.val (.int p1), .val (.int p2), .val (.int p3), .val (.int ((p1 &&& (65535 : Int32)).toUInt32.toUInt16.toUInt32.toInt32)), .val (.int (((p1.toUInt32 >>> ((16 : Int32) &&& 31).toUInt32).toInt32).toUInt32.toUInt16.toUInt32.toInt32)), .val (.int ((p2 &&& (65535 : Int32)).toUInt32.toUInt16.toUInt32.toInt32)), .val (.int (((p2.toUInt32 >>> ((16 : Int32) &&& 31).toUInt32).toInt32).toUInt32.toUInt16.toUInt32.toInt32)), .val (.int n), .val (.ref x), .val (.ref y), .val (.ref a), .val (.ref x)] [(.ref x)])) _
  refine OGo.step (fun _ kk => XS.aload X205.here hx rfl (hb hby at_94) rfl rfl kk) ?_
  show OGo p e below (T205.setTop (mkF m 96 #[.val (.int p1), .val (.int p2), .val (.int p3), .val (.int ((p1 &&& (65535 : Int32)).toUInt32.toUInt16.toUInt32.toInt32)), .val (.int (((p1.toUInt32 >>> ((16 : Int32) &&& 31).toUInt32).toInt32).toUInt32.toUInt16.toUInt32.toInt32)), .val (.int ((p2 &&& (65535 : Int32)).toUInt32.toUInt16.toUInt32.toInt32)), .val (.int (((p2.toUInt32 >>> ((16 : Int32) &&& 31).toUInt32).toInt32).toUInt32.toUInt16.toUInt32.toInt32)), .val (.int n), .val (.ref x), .val (.ref y), .val (.ref a), .val (.ref x)] [(.ref y), (.ref x)])) _
  have fx206 := O196.ext Xe198
  refine own_virtualK X205 hx hZ (y := (⟨"java/lang/String", "equals", "(Ljava/lang/Object;)Z"⟩ : MethodName)) (z := (⟨"java/lang/String", "equals", "(Ljava/lang/Object;)Z"⟩ : MethodName)) hown (hw _ (List.mem_of_getElem? (i := 74) rfl)) (hw _ (List.mem_of_getElem? (i := 75) rfl)) (notFace_of_selects (args := #[]) (mvT hZ (hw _ (List.mem_of_getElem? (i := 77) rfl)))) (hw _ (List.mem_of_getElem? (i := 77) rfl)) (hw _ (List.mem_of_getElem? (i := 76) rfl)) (by decide) (b := x) (fx201).exa (W := 0) (own_seq (W := 0) hZ (fun d hd => hw d ((by decide +kernel : ∀ d ∈ StrChars.Road.wordsEq, d ∈ tables_1) d hd)) (kI := 4) (hw _ (List.mem_of_getElem? (i := 7) rfl)) fx201 fx206 fx204 hzc n0 (by decide) (by decide)) e205 (pc := 96) (Ls := #[.val (.int p1), .val (.int p2), .val (.int p3), .val (.int ((p1 &&& (65535 : Int32)).toUInt32.toUInt16.toUInt32.toInt32)), .val (.int (((p1.toUInt32 >>> ((16 : Int32) &&& 31).toUInt32).toInt32).toUInt32.toUInt16.toUInt32.toInt32)), .val (.int ((p2 &&& (65535 : Int32)).toUInt32.toUInt16.toUInt32.toInt32)), .val (.int (((p2.toUInt32 >>> ((16 : Int32) &&& 31).toUInt32).toInt32).toUInt32.toUInt16.toUInt32.toInt32)), .val (.int n), .val (.ref x), .val (.ref y), .val (.ref a), .val (.ref x)]) (argsL := [(.ref y)]) (rest := []) (by rw [hml]; rfl) (lenOf own_pd7 rfl) rfl (hb hby at_96) (by decide) (by decide) ?_
  intro v207 T207 L207 X207 hQ207
  obtain ⟨rfl, N207, e207⟩ := hQ207
  show OGo p e below (T207.setTop (mkF m 99 #[.val (.int p1), .val (.int p2), .val (.int p3), .val (.int ((p1 &&& (65535 : Int32)).toUInt32.toUInt16.toUInt32.toInt32)), .val (.int (((p1.toUInt32 >>> ((16 : Int32) &&& 31).toUInt32).toInt32).toUInt32.toUInt16.toUInt32.toInt32)), .val (.int ((p2 &&& (65535 : Int32)).toUInt32.toUInt16.toUInt32.toInt32)), .val (.int (((p2.toUInt32 >>> ((16 : Int32) &&& 31).toUInt32).toInt32).toUInt32.toUInt16.toUInt32.toInt32)), .val (.int n), .val (.ref x), .val (.ref y), .val (.ref a), .val (.ref x)] [(.int (if (own_mk n ((p1 &&& (65535 : Int32)).toUInt32.toUInt16.toUInt32.toInt32) (((p1.toUInt32 >>> ((16 : Int32) &&& 31).toUInt32).toInt32).toUInt32.toUInt16.toUInt32.toInt32) ((p2 &&& (65535 : Int32)).toUInt32.toUInt16.toUInt32.toInt32) (((p2.toUInt32 >>> ((16 : Int32) &&& 31).toUInt32).toInt32).toUInt32.toUInt16.toUInt32.toInt32)) = (own_mk n ((p1 &&& (65535 : Int32)).toUInt32.toUInt16.toUInt32.toInt32) (((p1.toUInt32 >>> ((16 : Int32) &&& 31).toUInt32).toInt32).toUInt32.toUInt16.toUInt32.toInt32) ((p2 &&& (65535 : Int32)).toUInt32.toUInt16.toUInt32.toInt32) (((p2.toUInt32 >>> ((16 : Int32) &&& 31).toUInt32).toInt32).toUInt32.toUInt16.toUInt32.toInt32)) then (1 : Int32) else 0))])) _
  have Nc207 := Fr.app Nc205 N207
  refine OGo.step (fun _ kk => XS.ifNo X207.here hx rfl (hb hby at_99) rfl ((if0 _ _).trans (feq (by rw [if_pos rfl]; decide)).1) kk) ?_
  show OGo p e below (T207.setTop (mkF m 102 #[.val (.int p1), .val (.int p2), .val (.int p3), .val (.int ((p1 &&& (65535 : Int32)).toUInt32.toUInt16.toUInt32.toInt32)), .val (.int (((p1.toUInt32 >>> ((16 : Int32) &&& 31).toUInt32).toInt32).toUInt32.toUInt16.toUInt32.toInt32)), .val (.int ((p2 &&& (65535 : Int32)).toUInt32.toUInt16.toUInt32.toInt32)), .val (.int (((p2.toUInt32 >>> ((16 : Int32) &&& 31).toUInt32).toInt32).toUInt32.toUInt16.toUInt32.toInt32)), .val (.int n), .val (.ref x), .val (.ref y), .val (.ref a), .val (.ref x)] [])) _
  refine OGo.step (fun _ kk => XS.aload X207.here hx rfl (hb hby at_102) rfl rfl kk) ?_
  show OGo p e below (T207.setTop (mkF m 104 #[.val (.int p1), .val (.int p2), .val (.int p3), .val (.int ((p1 &&& (65535 : Int32)).toUInt32.toUInt16.toUInt32.toInt32)), .val (.int (((p1.toUInt32 >>> ((16 : Int32) &&& 31).toUInt32).toInt32).toUInt32.toUInt16.toUInt32.toInt32)), .val (.int ((p2 &&& (65535 : Int32)).toUInt32.toUInt16.toUInt32.toInt32)), .val (.int (((p2.toUInt32 >>> ((16 : Int32) &&& 31).toUInt32).toInt32).toUInt32.toUInt16.toUInt32.toInt32)), .val (.int n), .val (.ref x), .val (.ref y), .val (.ref a), .val (.ref x)] [(.ref a)])) _
  refine own_virtual X207 hx hZ (y := (⟨"com/example/lease/lease/model/AddToken", "keptMillis", "()J"⟩ : MethodName)) (z := (⟨"com/example/lease/lease/model/AddToken", "keptMillis", "()J"⟩ : MethodName)) hown (hw _ (List.mem_of_getElem? (i := 84) rfl)) (hw _ (List.mem_of_getElem? (i := 85) rfl)) (notFace_of_selects (args := #[]) (mvT hZ (hw _ (List.mem_of_getElem? (i := 87) rfl)))) (hw _ (List.mem_of_getElem? (i := 87) rfl)) (hw _ (List.mem_of_getElem? (i := 86) rfl)) (by decide) (hw _ (List.mem_of_getElem? (i := 88) rfl)) (hw _ (List.mem_of_getElem? (i := 38) rfl)) (b := a) Ea (W := 0) (own_kept l Z a0 hw [] a _ T198.heap n0 sz198 Fk) e207  (pc := 104) (Ls := #[.val (.int p1), .val (.int p2), .val (.int p3), .val (.int ((p1 &&& (65535 : Int32)).toUInt32.toUInt16.toUInt32.toInt32)), .val (.int (((p1.toUInt32 >>> ((16 : Int32) &&& 31).toUInt32).toInt32).toUInt32.toUInt16.toUInt32.toInt32)), .val (.int ((p2 &&& (65535 : Int32)).toUInt32.toUInt16.toUInt32.toInt32)), .val (.int (((p2.toUInt32 >>> ((16 : Int32) &&& 31).toUInt32).toInt32).toUInt32.toUInt16.toUInt32.toInt32)), .val (.int n), .val (.ref x), .val (.ref y), .val (.ref a), .val (.ref x)]) (argsL := []) (rest := []) (by rw [hml]; rfl) (lenOf own_pd8 rfl) rfl (hb hby at_104) (by decide) (by decide) (by decide) (by decide) ?_
  intro v208 T208 L208 X208 hQ208
  obtain ⟨rfl, N208, e208⟩ := hQ208
  show OGo p e below (T208.setTop (mkF m 107 #[.val (.int p1), .val (.int p2), .val (.int p3), .val (.int ((p1 &&& (65535 : Int32)).toUInt32.toUInt16.toUInt32.toInt32)), .val (.int (((p1.toUInt32 >>> ((16 : Int32) &&& 31).toUInt32).toInt32).toUInt32.toUInt16.toUInt32.toInt32)), .val (.int ((p2 &&& (65535 : Int32)).toUInt32.toUInt16.toUInt32.toInt32)), .val (.int (((p2.toUInt32 >>> ((16 : Int32) &&& 31).toUInt32).toInt32).toUInt32.toUInt16.toUInt32.toInt32)), .val (.int n), .val (.ref x), .val (.ref y), .val (.ref a), .val (.ref x)] [(.long (86400000 : Int64))])) _
  have Nc208 := Fr.app Nc207 N208
  refine OGo.step (fun _ kk => X208.ldc2Long hx hown (mvT hZ (hw _ (List.mem_of_getElem? (i := 89) rfl))) (g := (mkF m 107 #[.val (.int p1), .val (.int p2), .val (.int p3), .val (.int ((p1 &&& (65535 : Int32)).toUInt32.toUInt16.toUInt32.toInt32)), .val (.int (((p1.toUInt32 >>> ((16 : Int32) &&& 31).toUInt32).toInt32).toUInt32.toUInt16.toUInt32.toInt32)), .val (.int ((p2 &&& (65535 : Int32)).toUInt32.toUInt16.toUInt32.toInt32)), .val (.int (((p2.toUInt32 >>> ((16 : Int32) &&& 31).toUInt32).toInt32).toUInt32.toUInt16.toUInt32.toInt32)), .val (.int n), .val (.ref x), .val (.ref y), .val (.ref a), .val (.ref x)] [(.long (86400000 : Int64))])) rfl (hb hby at_107) _ kk) ?_
  show OGo p e below (T208.setTop (mkF m 110 #[.val (.int p1), .val (.int p2), .val (.int p3), .val (.int ((p1 &&& (65535 : Int32)).toUInt32.toUInt16.toUInt32.toInt32)), .val (.int (((p1.toUInt32 >>> ((16 : Int32) &&& 31).toUInt32).toInt32).toUInt32.toUInt16.toUInt32.toInt32)), .val (.int ((p2 &&& (65535 : Int32)).toUInt32.toUInt16.toUInt32.toInt32)), .val (.int (((p2.toUInt32 >>> ((16 : Int32) &&& 31).toUInt32).toInt32).toUInt32.toUInt16.toUInt32.toInt32)), .val (.int n), .val (.ref x), .val (.ref y), .val (.ref a), .val (.ref x)] [(.long (86400000 : Int64)), (.long (86400000 : Int64))])) _
  refine OGo.step (fun _ kk => XS.lcmp X208.here hx rfl (hb hby at_110) rfl kk) ?_
  show OGo p e below (T208.setTop (mkF m 111 #[.val (.int p1), .val (.int p2), .val (.int p3), .val (.int ((p1 &&& (65535 : Int32)).toUInt32.toUInt16.toUInt32.toInt32)), .val (.int (((p1.toUInt32 >>> ((16 : Int32) &&& 31).toUInt32).toInt32).toUInt32.toUInt16.toUInt32.toInt32)), .val (.int ((p2 &&& (65535 : Int32)).toUInt32.toUInt16.toUInt32.toInt32)), .val (.int (((p2.toUInt32 >>> ((16 : Int32) &&& 31).toUInt32).toInt32).toUInt32.toUInt16.toUInt32.toInt32)), .val (.int n), .val (.ref x), .val (.ref y), .val (.ref a), .val (.ref x)] [(.int (lcmpW (86400000 : Int64) (86400000 : Int64)))])) _
  refine OGo.step (fun _ kk => XS.ifNo X208.here hx rfl (hb hby at_111) rfl ((if0 _ _).trans (teq ((lw_eq _ _).mpr rfl)).2) kk) ?_
  show OGo p e below (T208.setTop (mkF m 114 #[.val (.int p1), .val (.int p2), .val (.int p3), .val (.int ((p1 &&& (65535 : Int32)).toUInt32.toUInt16.toUInt32.toInt32)), .val (.int (((p1.toUInt32 >>> ((16 : Int32) &&& 31).toUInt32).toInt32).toUInt32.toUInt16.toUInt32.toInt32)), .val (.int ((p2 &&& (65535 : Int32)).toUInt32.toUInt16.toUInt32.toInt32)), .val (.int (((p2.toUInt32 >>> ((16 : Int32) &&& 31).toUInt32).toInt32).toUInt32.toUInt16.toUInt32.toInt32)), .val (.int n), .val (.ref x), .val (.ref y), .val (.ref a), .val (.ref x)] [])) _
  refine OGo.step (fun _ kk => XS.iconst X208.here hx rfl (hb hby at_114) kk) ?_
  show OGo p e below (T208.setTop (mkF m 115 #[.val (.int p1), .val (.int p2), .val (.int p3), .val (.int ((p1 &&& (65535 : Int32)).toUInt32.toUInt16.toUInt32.toInt32)), .val (.int (((p1.toUInt32 >>> ((16 : Int32) &&& 31).toUInt32).toInt32).toUInt32.toUInt16.toUInt32.toInt32)), .val (.int ((p2 &&& (65535 : Int32)).toUInt32.toUInt16.toUInt32.toInt32)), .val (.int (((p2.toUInt32 >>> ((16 : Int32) &&& 31).toUInt32).toInt32).toUInt32.toUInt16.toUInt32.toInt32)), .val (.int n), .val (.ref x), .val (.ref y), .val (.ref a), .val (.ref x)] [(.int (1 : Int32))])) _
  refine OGo.step (fun _ kk => XS.goto X208.here hx rfl (pc0 := 115) (pc' := 119) rfl (hb hby at_115) (by decide) (by decide) kk) ?_
  show OGo p e below (T208.setTop (mkF m 119 #[.val (.int p1), .val (.int p2), .val (.int p3), .val (.int ((p1 &&& (65535 : Int32)).toUInt32.toUInt16.toUInt32.toInt32)), .val (.int (((p1.toUInt32 >>> ((16 : Int32) &&& 31).toUInt32).toInt32).toUInt32.toUInt16.toUInt32.toInt32)), .val (.int ((p2 &&& (65535 : Int32)).toUInt32.toUInt16.toUInt32.toInt32)), .val (.int (((p2.toUInt32 >>> ((16 : Int32) &&& 31).toUInt32).toInt32).toUInt32.toUInt16.toUInt32.toInt32)), .val (.int n), .val (.ref x), .val (.ref y), .val (.ref a), .val (.ref x)] [(.int (1 : Int32))])) _
  exact own_retNW X208 hx hlk hEL OW198 e208 hret (by simp) (hb hby at_119) ⟨by rw [own_nar1], Nc208⟩ (by decide) (by decide)

set_option maxRecDepth 65536 in
set_option maxHeartbeats 40000000 in
theorem comes_1 {Post : Tables → Env → Array Value → State → Outcome → State → Prop} (hpost : ∀ tb e args s v u, (limb_1_1.after args s (.returned v) u = true ∧ limb_1_2.after args s (.returned v) u = true ∧ True) → ReturnedEndW s (.returned v) u (Jvm.fieldLocs frame_1_writes args s ++ Jvm.arrayLocs frame_1_arrays args s ++ Jvm.staticLocs frame_1_statics s) 32 2240 → Post tb e args s (.returned v) u) :
    ArmFor flags0 classFile x code maxLocals ret World_1 tables_1 room_1 Calls_1 rest_1 Pre_1 Post := by
  intro l hfl _ _ p e ha hc hk s m args below hf hA hF happ hP
  obtain ⟨hcalls, hrest, hpre⟩ := hP
  obtain ⟨-, -, -, hnamed, -, -, -, hat⟩ := (Spec.applies_iff hf).mp happ
  obtain ⟨hg, hn⟩ := and_e (Cond.before_iff.mp (show (Jvm.Cond.and given_1 narrow_1).before args s = true from hpre))
  obtain ⟨k209, k209'⟩ := and_e hg
  obtain ⟨k210, k210'⟩ := and_e k209'
  obtain ⟨k211, k211'⟩ := and_e k210'
  obtain ⟨w0_, w1_, w2_, rfl⟩ : ∃ w0_ w1_ w2_ : Value, args = #[w0_, w1_, w2_] := by
    have hs : args.size = 3 := by simpa [Cond.value, given_1] using k209
    obtain ⟨L⟩ := args
    match L, hs with
    | [w0_, w1_, w2_], _ => exact ⟨w0_, w1_, w2_, rfl⟩
  have hw := fun d (hd : d ∈ tables_1) => atoms_spec (ws := Jvm.Cond.code x code maxLocals ret :: tables_1) hat d (List.mem_cons_of_mem _ hd)
  have hfit : Fit s := fun {y c} hc i hi => by
    obtain ⟨ha, rfl⟩ := Array.getElem?_eq_some_iff.mp hc
    have q := List.all_eq_true.mp ((Array.all_eq_true_iff_forall_mem.mp hF) _ (Array.getElem_mem ha)) i (List.mem_range.mpr hi)
    simpa [Array.getElem?_eq_getElem hi] using q
  obtain ⟨hsets, hown0⟩ := atoms_of _ (rest_1_c_eq ▸ (show rest_1_c.before _ s = true from hrest))
  obtain ⟨i0, ei0⟩ := is_v k210
  obtain rfl : w0_ = (.int i0) := Option.some.inj ei0
  obtain ⟨i1, ei1⟩ := is_v k211
  obtain rfl : w1_ = (.int i1) := Option.some.inj ei1
  obtain ⟨i2, ei2⟩ := is_v k211'
  obtain rfl : w2_ = (.int i2) := Option.some.inj ei2
  obtain ⟨zc, ezc⟩ := is_v (Cond.before_iff.mp (hsets _ (List.mem_of_getElem? (i := 1) rfl)))
  have SC0 := Sta.start ezc (Or.inl (hsets _ (List.mem_of_getElem? (i := 0) rfl)))
  have hzc : ¬ zc = 0 := gotF (Cond.eq_ints ezc (Term.int_eval (0))) (not_v (Cond.before_iff.mp (hsets _ (List.mem_of_getElem? (i := 2) rfl))))
  have SA0 := Sta.start (own_eqv (Cond.before_iff.mp (hsets _ (List.mem_of_getElem? (i := 12) rfl))) rfl) (Or.inl (hsets _ (List.mem_of_getElem? (i := 11) rfl)))
  have SH0 := Sta.start (own_eqv (Cond.before_iff.mp (hsets _ (List.mem_of_getElem? (i := 15) rfl))) rfl) (Or.inl (hsets _ (List.mem_of_getElem? (i := 14) rfl)))
  have SL0 := Sta.start (own_eqv (Cond.before_iff.mp (hsets _ (List.mem_of_getElem? (i := 18) rfl))) rfl) (Or.inl (hsets _ (List.mem_of_getElem? (i := 17) rfl)))
  have hch : CHv s consts_1 s.vm s.heap := CHv.start (own_hEL hw) (fun p hp => hcalls.1 p hp) (hsets _ (List.mem_of_getElem? (i := 2) rfl)) (own_wS hw _ (by simp [Bundle.stringAtoms])) (own_wS hw _ (by simp [Bundle.stringAtoms, Bundle.sN]))
  obtain ⟨n, o, h1, h2, h3, _, L, rfl, ⟨rfl, N⟩, -, hq⟩ := own_rm0 l s _ hw tables_1 i0 i1 i2 zc s.heap s.heap.size (Nat.le_refl _) SC0 hzc SA0 SH0 SL0 p e ha hc hk s m _ below hf ((Spec.applies_iff_loose hf).mp happ).1 ⟨rfl, State.Warmed39.refl s, rfl, hch⟩ trivial
  exact ⟨n, _, h1, h2, h3, hpost _ _ _ _ _ _ ⟨Cond.after_iff.mpr rfl, Cond.after_iff.mpr (eq_i res_at (Term.int_eval (1)) rfl), trivial⟩ ⟨hq.1, hq.2.1, hq.2.2.1, (hq.2.2.2.sift fun y hy => Or.inr (N y hy)).mono (by decide) (by decide)⟩⟩
theorem main_1_1 : Claimed_1_1 := comes_1 fun _ _ _ _ _ _ h hF => ⟨h.1, hF⟩
theorem main_1_2 : Claimed_1_2 := comes_1 fun _ _ _ _ _ _ h hF => ⟨h.2.1, hF⟩
end Jvm.Pilot.@@N@@
namespace Jvm.Pilot.@@N@@
open Jvm Jvm.ClassFile Sem Op Lib Jvm.Free Jvm.Stand Jvm.Pilot.@@N@@.Jvm.D
/-! MADE BY PROGRAM (witnessworld.py) out of the Statement's table words and the real class files: 21 classes; the members and pool entries that the words name. The judged class is class 1, her method 2. -/
namespace start1
open Jvm.ClassFile
def u (s : String) : CpInfo := .utf8 (stringToUtf16 s)
/-- a pool by its gaps: so many unusable entries, then the entry; so many at the end -/
def gap : Nat → List CpInfo → List CpInfo
  | 0, r => r
  | n + 1, r => .unusable :: gap n r
def poolList (es : List (Nat × CpInfo)) (last : Nat) : List CpInfo := es.foldr (fun e r => gap e.1 (e.2 :: r)) (gap last [])
def pool (es : List (Nat × CpInfo)) (last : Nat) : Array CpInfo := ⟨poolList es last⟩
def fileOf (pool : Array CpInfo) (this : Nat) (attrs : Array Attribute := #[]) (ms : Array MethodInfo := #[]) (fl : Nat := 33) (sup : Nat := 0) (ifs : Array Nat := #[]) (fds : Array FieldInfo := #[]) : ClassFile where
  minorVersion := 0
  majorVersion := 65
  constantPool := pool
  accessFlags := fl
  thisClass := this
  superClass := sup
  interfaces := ifs
  fields := fds
  methods := ms
  attributes := attrs
def plain (name : String) (sup : Option ClassId) : Class where
  name := name
  kind := .ordinary
  loader := none
  accessFlags := 33
  super := sup
  interfaces := #[]
  cf := none
  fields := #[]
  methods := #[]
  instanceTypes := #[]
  staticTypes := #[]
  resolved := #[]
  callSites := []
  init := .initialized
  statics := none
  mirror := none

def pool0 : Array CpInfo := pool [(5, u "<init>"), (0, u "()V"), (1, .class_ 10), (1, u "java/lang/Object")] 113

def k0c0 : Code := { maxStack := 0, maxLocals := 1, code := object_method_1_code, exceptionTable := #[], attributes := #[] }
def k0m0 : Method := { name := "<init>", desc := "()V", sig := { parameters := [], returnType := none }, accessFlags := 1, code := some k0c0 }
/-- java/lang/Object -/
def k0 : Class := { plain "java/lang/Object" none with
  accessFlags := 33
  interfaces := #[]
  cf := some (fileOf pool0 8 #[] #[{ accessFlags := 1, nameIndex := 5, descriptorIndex := 6, attributes := #[] }] 33 0 #[] #[])
  fields := #[]
  methods := #[k0m0]
  instanceTypes := #[]
  staticTypes := #[]
  resolved := Array.replicate 124 none
  statics := none }

def pool1 : Array CpInfo := pool [(2, .class_ 4), (1, u "java/lang/Object"), (0, u "<init>"), (0, u "()V"), (0, .class_ 8), (0, u "java/lang/String"), (0, .methodref 7 10), (0, .nameAndType 5 11), (0, u "([C)V"), (0, .integer 65535), (0, .integer 2147483647), (0, .methodref 15 16), (0, .class_ 17), (0, .nameAndType 18 19), (0, u "com/example/lease/lease/model/AddTokenOfPinLaw"), (0, u "make"), (0, u "(ICCCC)Ljava/lang/String;"), (0, .methodref 21 22), (0, .class_ 23), (0, .nameAndType 24 25), (0, u "com/example/lease/lease/model/AddToken"), (0, u "of"), (0, u "(Ljava/lang/String;)Lcom/example/lease/lease/model/AddToken;"), (0, .methodref 21 27), (0, .nameAndType 28 29), (0, u "text"), (0, u "()Ljava/lang/String;"), (0, .methodref 7 31), (0, .nameAndType 32 33), (0, u "length"), (0, u "()I"), (0, .methodref 7 35), (0, .nameAndType 36 37), (0, u "equals"), (0, u "(Ljava/lang/Object;)Z"), (0, .methodref 21 39), (0, .nameAndType 40 41), (0, u "keptMillis"), (0, u "()J"), (0, .long 86400000), (4, u "law"), (0, u "(III)Z")] 2

def k1m0 : Method := { name := "<init>", desc := "()V", sig := { parameters := [], returnType := none }, accessFlags := 2, code := none }
def k1c1 : Code := { maxStack := 6, maxLocals := 5, code := method_2_code, exceptionTable := #[], attributes := #[] }
def k1m1 : Method := { name := "make", desc := "(ICCCC)Ljava/lang/String;", sig := { parameters := [.int, .char, .char, .char, .char], returnType := some (.object "java/lang/String") }, accessFlags := 10, code := some k1c1 }
def k1c2 : Code := { maxStack := 5, maxLocals := 12, code := code, exceptionTable := #[], attributes := #[] }
def k1m2 : Method := { name := "law", desc := "(III)Z", sig := { parameters := [.int, .int, .int], returnType := some .boolean }, accessFlags := 9, code := some k1c2 }
/-- com/example/lease/lease/model/AddTokenOfPinLaw -/
def k1 : Class := { plain "com/example/lease/lease/model/AddTokenOfPinLaw" (some 0) with
  accessFlags := 49
  interfaces := #[]
  cf := some (fileOf pool1 15 #[] #[{ accessFlags := 2, nameIndex := 5, descriptorIndex := 6, attributes := #[] }, { accessFlags := 10, nameIndex := 18, descriptorIndex := 19, attributes := #[] }, { accessFlags := 9, nameIndex := 47, descriptorIndex := 48, attributes := #[] }] 49 2 #[] #[])
  fields := #[]
  methods := #[k1m0, k1m1, k1m2]
  instanceTypes := #[]
  staticTypes := #[]
  resolved := Array.replicate 51 none
  statics := none }

def pool2 : Array CpInfo := pool [(1, .class_ 2), (0, u "java/io/Serializable"), (0, .class_ 4), (0, u "java/lang/Object")] 2

/-- java/io/Serializable -/
def k2 : Class := { plain "java/io/Serializable" (some 0) with
  accessFlags := 1537
  interfaces := #[]
  cf := some (fileOf pool2 1 #[] #[] 1537 3 #[] #[])
  fields := #[]
  methods := #[]
  instanceTypes := #[]
  staticTypes := #[]
  resolved := Array.replicate 7 none
  statics := none }

def pool3 : Array CpInfo := pool [(1, .class_ 2), (0, u "java/lang/Comparable"), (0, .class_ 4), (0, u "java/lang/Object")] 7

/-- java/lang/Comparable -/
def k3 : Class := { plain "java/lang/Comparable" (some 0) with
  accessFlags := 1537
  interfaces := #[]
  cf := some (fileOf pool3 1 #[] #[] 1537 3 #[] #[])
  fields := #[]
  methods := #[]
  instanceTypes := #[]
  staticTypes := #[]
  resolved := Array.replicate 12 none
  statics := none }

def pool4 : Array CpInfo := pool [(2, .class_ 4), (1, u "java/lang/CharSequence"), (42, .class_ 48), (0, u "java/lang/CharSequence$1CodePointIterator"), (10, .class_ 60), (0, u "java/lang/CharSequence$1CharIterator"), (5, .class_ 67), (0, u "java/lang/Object")] 63

/-- java/lang/CharSequence -/
def k4 : Class := { plain "java/lang/CharSequence" (some 0) with
  accessFlags := 1537
  interfaces := #[]
  cf := some (fileOf pool4 2 #[.nestMembers #[47, 59]] #[] 1537 66 #[] #[])
  fields := #[]
  methods := #[]
  instanceTypes := #[]
  staticTypes := #[]
  resolved := Array.replicate 131 none
  statics := none }

def pool5 : Array CpInfo := pool [(1, .class_ 2), (0, u "java/lang/constant/Constable"), (0, .class_ 4), (0, u "java/lang/Object")] 6

/-- java/lang/constant/Constable -/
def k5 : Class := { plain "java/lang/constant/Constable" (some 0) with
  accessFlags := 1537
  interfaces := #[]
  cf := some (fileOf pool5 1 #[] #[] 1537 3 #[] #[])
  fields := #[]
  methods := #[]
  instanceTypes := #[]
  staticTypes := #[]
  resolved := Array.replicate 11 none
  statics := none }

def pool6 : Array CpInfo := pool [(1, .class_ 2), (0, u "java/lang/constant/ConstantDesc"), (0, .class_ 4), (0, u "java/lang/Object")] 32

/-- java/lang/constant/ConstantDesc -/
def k6 : Class := { plain "java/lang/constant/ConstantDesc" (some 0) with
  accessFlags := 1537
  interfaces := #[]
  cf := some (fileOf pool6 1 #[] #[] 1537 3 #[] #[])
  fields := #[]
  methods := #[]
  instanceTypes := #[]
  staticTypes := #[]
  resolved := Array.replicate 37 none
  statics := none }

def pool7 : Array CpInfo := pool [(1, .methodref 2 3), (0, .class_ 4), (0, .nameAndType 5 6), (0, u "java/lang/Object"), (0, u "<init>"), (0, u "()V"), (0, .string 8), (0, u ""), (0, .fieldref 10 11), (0, .class_ 12), (0, .nameAndType 13 14), (0, u "java/lang/String"), (0, u "value"), (0, u "[B"), (0, .fieldref 10 16), (0, .nameAndType 17 18), (0, u "coder"), (0, u "B"), (2, u "hash"), (0, u "I"), (2, u "hashIsZero"), (0, u "Z"), (0, .methodref 10 28), (0, .nameAndType 5 29), (0, u "([CIILjava/lang/Void;)V"), (8, .fieldref 10 39), (0, .nameAndType 40 26), (0, u "COMPACT_STRINGS"), (1, .class_ 44), (1, u "java/lang/StringUTF16"), (0, u "compress"), (1, .methodref 42 48), (0, .nameAndType 49 50), (0, u "coderFromArrayLen"), (0, u "([BI)B"), (56, .class_ 109), (1, u "java/lang/StringLatin1"), (67, .methodref 42 178), (0, .nameAndType 45 179), (0, u "([CII)[B"), (154, u "()I"), (0, .methodref 10 336), (0, .nameAndType 17 337), (0, u "()B"), (169, u "length"), (33, .methodref 107 542), (0, .nameAndType 543 544), (0, u "equals"), (0, u "([B[B)Z"), (28, u "(Ljava/lang/Object;)Z"), (1, .class_ 576), (0, u "java/lang/CharSequence"), (22, u "CASE_INSENSITIVE_ORDER"), (0, u "Ljava/util/Comparator;"), (409, u "([C)V"), (90, u "serialPersistentFields"), (0, u "[Ljava/io/ObjectStreamField;"), (0, .class_ 1104), (0, u "java/lang/String$CaseInsensitiveComparator"), (1, .class_ 1107), (0, u "java/io/Serializable"), (0, .class_ 1109), (0, u "java/lang/Comparable"), (0, .class_ 1111), (0, u "java/lang/constant/Constable"), (0, .class_ 1113), (0, u "java/lang/constant/ConstantDesc"), (2, u "serialVersionUID"), (0, u "J"), (3, u "REPL"), (0, u "C"), (2, u "LATIN1"), (1, u "UTF16")] 323

def k7m0 : Method := { name := "<init>", desc := "()V", sig := { parameters := [], returnType := none }, accessFlags := 1, code := none }
def k7c1 : Code := { maxStack := 5, maxLocals := 2, code := jdk_42_method_3_code, exceptionTable := #[], attributes := #[] }
def k7m1 : Method := { name := "<init>", desc := "([C)V", sig := { parameters := [(.array .char)], returnType := none }, accessFlags := 1, code := some k7c1 }
def k7c2 : Code := { maxStack := 2, maxLocals := 1, code := jdk_42_method_54_code, exceptionTable := #[], attributes := #[] }
def k7m2 : Method := { name := "length", desc := "()I", sig := { parameters := [], returnType := some .int }, accessFlags := 1, code := some k7c2 }
def k7c3 : Code := { maxStack := 2, maxLocals := 3, code := jdk_42_method_66_code, exceptionTable := #[], attributes := #[] }
def k7m3 : Method := { name := "equals", desc := "(Ljava/lang/Object;)Z", sig := { parameters := [(.object "java/lang/Object")], returnType := some .boolean }, accessFlags := 1, code := some k7c3 }
def k7c4 : Code := { maxStack := 4, maxLocals := 6, code := jdk_42_method_149_code, exceptionTable := #[], attributes := #[] }
def k7m4 : Method := { name := "<init>", desc := "([CIILjava/lang/Void;)V", sig := { parameters := [(.array .char), .int, .int, (.object "java/lang/Void")], returnType := none }, accessFlags := 2, code := some k7c4 }
def k7c5 : Code := { maxStack := 1, maxLocals := 1, code := jdk_42_method_152_code, exceptionTable := #[], attributes := #[] }
def k7m5 : Method := { name := "coder", desc := "()B", sig := { parameters := [], returnType := some .byte }, accessFlags := 0, code := some k7c5 }
/-- java/lang/String -/
def k7 : Class := { plain "java/lang/String" (some 0) with
  accessFlags := 49
  interfaces := #[2, 3, 4, 5, 6]
  cf := some (fileOf pool7 10 #[.nestMembers #[1103]] #[{ accessFlags := 1, nameIndex := 5, descriptorIndex := 6, attributes := #[] }, { accessFlags := 1, nameIndex := 5, descriptorIndex := 1010, attributes := #[] }, { accessFlags := 1, nameIndex := 507, descriptorIndex := 334, attributes := #[] }, { accessFlags := 1, nameIndex := 543, descriptorIndex := 573, attributes := #[] }, { accessFlags := 2, nameIndex := 5, descriptorIndex := 29, attributes := #[] }, { accessFlags := 0, nameIndex := 17, descriptorIndex := 337, attributes := #[] }] 49 2 #[1106, 1108, 575, 1110, 1112] #[{ accessFlags := 18, nameIndex := 13, descriptorIndex := 14, attributes := #[] }, { accessFlags := 18, nameIndex := 17, descriptorIndex := 18, attributes := #[] }, { accessFlags := 2, nameIndex := 21, descriptorIndex := 22, attributes := #[] }, { accessFlags := 2, nameIndex := 25, descriptorIndex := 26, attributes := #[] }, { accessFlags := 26, nameIndex := 1116, descriptorIndex := 1117, attributes := #[] }, { accessFlags := 24, nameIndex := 40, descriptorIndex := 26, attributes := #[] }, { accessFlags := 26, nameIndex := 1101, descriptorIndex := 1102, attributes := #[] }, { accessFlags := 26, nameIndex := 1121, descriptorIndex := 1122, attributes := #[] }, { accessFlags := 25, nameIndex := 599, descriptorIndex := 600, attributes := #[] }, { accessFlags := 24, nameIndex := 1125, descriptorIndex := 18, attributes := #[] }, { accessFlags := 24, nameIndex := 1127, descriptorIndex := 18, attributes := #[] }])
  fields := #[{ name := "value", type := (.array .byte), accessFlags := 18, slot := 0, constantValue := 0 }, { name := "coder", type := .byte, accessFlags := 18, slot := 1, constantValue := 0 }, { name := "hash", type := .int, accessFlags := 2, slot := 2, constantValue := 0 }, { name := "hashIsZero", type := .boolean, accessFlags := 2, slot := 3, constantValue := 0 }, { name := "serialVersionUID", type := .long, accessFlags := 26, slot := 0, constantValue := 0 }, { name := "COMPACT_STRINGS", type := .boolean, accessFlags := 24, slot := 1, constantValue := 0 }, { name := "serialPersistentFields", type := (.array (.object "java/io/ObjectStreamField")), accessFlags := 26, slot := 2, constantValue := 0 }, { name := "REPL", type := .char, accessFlags := 26, slot := 3, constantValue := 0 }, { name := "CASE_INSENSITIVE_ORDER", type := (.object "java/util/Comparator"), accessFlags := 25, slot := 4, constantValue := 0 }, { name := "LATIN1", type := .byte, accessFlags := 24, slot := 5, constantValue := 0 }, { name := "UTF16", type := .byte, accessFlags := 24, slot := 6, constantValue := 0 }]
  methods := #[k7m0, k7m1, k7m2, k7m3, k7m4, k7m5]
  instanceTypes := #[(.array .byte), .byte, .int, .boolean]
  staticTypes := #[.long, .boolean, (.array (.object "java/io/ObjectStreamField")), .char, (.object "java/util/Comparator"), .byte, .byte]
  resolved := Array.replicate 1451 none
  statics := some 0 }

def pool8 : Array CpInfo := pool [(6, .class_ 8), (1, u "java/lang/Object"), (0, u "<init>"), (0, u "()V"), (0, .methodref 12 13), (0, .class_ 14), (0, .nameAndType 15 16), (0, u "java/lang/StringUTF16"), (0, u "newBytesLength"), (0, u "(I)I"), (3, .integer 1073741823), (23, .fieldref 12 45), (0, .nameAndType 46 47), (0, u "$assertionsDisabled"), (0, u "Z"), (11, .fieldref 12 60), (0, .nameAndType 61 62), (0, u "HI_BYTE_SHIFT"), (0, u "I"), (0, .fieldref 12 64), (0, .nameAndType 65 62), (0, u "LO_BYTE_SHIFT"), (5, .methodref 12 72), (0, .nameAndType 73 74), (0, u "getChar"), (0, u "([BI)C"), (32, .methodref 12 108), (0, .nameAndType 109 110), (0, u "newBytesFor"), (0, u "(I)[B"), (0, .methodref 12 112), (0, .nameAndType 113 114), (0, u "putChar"), (0, u "([BII)V"), (0, .methodref 12 116), (0, .nameAndType 117 118), (0, u "compress"), (0, u "([CI[BII)I"), (0, .methodref 12 120), (0, .nameAndType 121 122), (0, u "toBytes"), (0, u "([CII)[B"), (138, u "coderFromArrayLen"), (0, u "([BI)B"), (106, .class_ 371), (1, u "java/lang/StringUTF16$LinesSpliterator"), (58, u "MAX_LENGTH"), (196, .class_ 628), (0, u "java/lang/StringUTF16$CodePointsSpliterator"), (0, .class_ 630), (0, u "java/lang/StringUTF16$CharsSpliterator")] 4

def k8m0 : Method := { name := "<init>", desc := "()V", sig := { parameters := [], returnType := none }, accessFlags := 0, code := none }
def k8c1 : Code := { maxStack := 1, maxLocals := 1, code := jdk_52_method_2_code, exceptionTable := #[], attributes := #[] }
def k8m1 : Method := { name := "newBytesFor", desc := "(I)[B", sig := { parameters := [.int], returnType := some (.array .byte) }, accessFlags := 9, code := some k8c1 }
def k8c2 : Code := { maxStack := 4, maxLocals := 1, code := jdk_52_method_3_code, exceptionTable := #[], attributes := #[] }
def k8m2 : Method := { name := "newBytesLength", desc := "(I)I", sig := { parameters := [.int], returnType := some .int }, accessFlags := 9, code := some k8c2 }
def k8c3 : Code := { maxStack := 4, maxLocals := 3, code := jdk_52_method_4_code, exceptionTable := #[], attributes := #[] }
def k8m3 : Method := { name := "putChar", desc := "([BII)V", sig := { parameters := [(.array .byte), .int, .int], returnType := none }, accessFlags := 8, code := some k8c3 }
def k8c4 : Code := { maxStack := 3, maxLocals := 2, code := jdk_52_method_5_code, exceptionTable := #[], attributes := #[] }
def k8m4 : Method := { name := "getChar", desc := "([BI)C", sig := { parameters := [(.array .byte), .int], returnType := some .char }, accessFlags := 8, code := some k8c4 }
def k8c5 : Code := { maxStack := 4, maxLocals := 5, code := jdk_52_method_14_code, exceptionTable := #[], attributes := #[] }
def k8m5 : Method := { name := "toBytes", desc := "([CII)[B", sig := { parameters := [(.array .char), .int, .int], returnType := some (.array .byte) }, accessFlags := 9, code := some k8c5 }
def k8c6 : Code := { maxStack := 2, maxLocals := 2, code := jdk_52_method_15_code, exceptionTable := #[], attributes := #[] }
def k8m6 : Method := { name := "coderFromArrayLen", desc := "([BI)B", sig := { parameters := [(.array .byte), .int], returnType := some .byte }, accessFlags := 8, code := some k8c6 }
def k8c7 : Code := { maxStack := 5, maxLocals := 6, code := jdk_52_method_16_code, exceptionTable := #[], attributes := #[] }
def k8m7 : Method := { name := "compress", desc := "([CII)[B", sig := { parameters := [(.array .char), .int, .int], returnType := some (.array .byte) }, accessFlags := 9, code := some k8c7 }
def k8c8 : Code := { maxStack := 3, maxLocals := 7, code := jdk_52_method_21_code, exceptionTable := #[], attributes := #[] }
def k8m8 : Method := { name := "compress", desc := "([CI[BII)I", sig := { parameters := [(.array .char), .int, (.array .byte), .int, .int], returnType := some .int }, accessFlags := 9, code := some k8c8 }
/-- java/lang/StringUTF16 -/
def k8 : Class := { plain "java/lang/StringUTF16" (some 0) with
  accessFlags := 48
  interfaces := #[]
  cf := some (fileOf pool8 12 #[.nestMembers #[627, 629, 369]] #[{ accessFlags := 0, nameIndex := 9, descriptorIndex := 10, attributes := #[] }, { accessFlags := 9, nameIndex := 109, descriptorIndex := 110, attributes := #[] }, { accessFlags := 9, nameIndex := 15, descriptorIndex := 16, attributes := #[] }, { accessFlags := 8, nameIndex := 113, descriptorIndex := 114, attributes := #[] }, { accessFlags := 8, nameIndex := 73, descriptorIndex := 74, attributes := #[] }, { accessFlags := 9, nameIndex := 121, descriptorIndex := 122, attributes := #[] }, { accessFlags := 8, nameIndex := 261, descriptorIndex := 262, attributes := #[] }, { accessFlags := 9, nameIndex := 117, descriptorIndex := 122, attributes := #[] }, { accessFlags := 9, nameIndex := 117, descriptorIndex := 118, attributes := #[] }] 48 6 #[] #[{ accessFlags := 26, nameIndex := 61, descriptorIndex := 62, attributes := #[] }, { accessFlags := 26, nameIndex := 65, descriptorIndex := 62, attributes := #[] }, { accessFlags := 24, nameIndex := 430, descriptorIndex := 62, attributes := #[] }, { accessFlags := 4120, nameIndex := 46, descriptorIndex := 47, attributes := #[] }])
  fields := #[{ name := "HI_BYTE_SHIFT", type := .int, accessFlags := 26, slot := 0, constantValue := 0 }, { name := "LO_BYTE_SHIFT", type := .int, accessFlags := 26, slot := 1, constantValue := 0 }, { name := "MAX_LENGTH", type := .int, accessFlags := 24, slot := 2, constantValue := 0 }, { name := "$assertionsDisabled", type := .boolean, accessFlags := 4120, slot := 3, constantValue := 0 }]
  methods := #[k8m0, k8m1, k8m2, k8m3, k8m4, k8m5, k8m6, k8m7, k8m8]
  instanceTypes := #[]
  staticTypes := #[.int, .int, .int, .boolean]
  resolved := Array.replicate 635 none
  statics := some 1 }

def pool9 : Array CpInfo := pool [(1, .methodref 2 3), (0, .class_ 4), (0, .nameAndType 5 6), (0, u "java/lang/Object"), (0, u "<init>"), (0, u "()V"), (0, .string 8), (0, u "text"), (0, .methodref 10 11), (0, .class_ 12), (0, .nameAndType 13 14), (0, u "java/util/Objects"), (0, u "requireNonNull"), (0, u "(Ljava/lang/Object;Ljava/lang/String;)Ljava/lang/Object;"), (0, .class_ 16), (0, u "java/lang/String"), (0, .fieldref 18 19), (0, .class_ 20), (0, .nameAndType 8 21), (0, u "com/example/lease/lease/model/AddToken"), (0, u "Ljava/lang/String;"), (0, .fieldref 18 23), (0, .nameAndType 24 25), (0, u "keptMillis"), (0, u "J"), (0, .long 86400000), (1, .methodref 18 29), (0, .nameAndType 5 30), (0, u "(Ljava/lang/String;J)V"), (13, u "DEFAULT_KEPT_MILLIS"), (3, u "of"), (0, u "(Ljava/lang/String;)Lcom/example/lease/lease/model/AddToken;"), (3, u "()Ljava/lang/String;"), (0, u "()J")] 17

def k9c0 : Code := { maxStack := 3, maxLocals := 4, code := prog_4_method_1_code, exceptionTable := #[], attributes := #[] }
def k9m0 : Method := { name := "<init>", desc := "(Ljava/lang/String;J)V", sig := { parameters := [(.object "java/lang/String"), .long], returnType := none }, accessFlags := 2, code := some k9c0 }
def k9c1 : Code := { maxStack := 5, maxLocals := 1, code := prog_4_method_2_code, exceptionTable := #[], attributes := #[] }
def k9m1 : Method := { name := "of", desc := "(Ljava/lang/String;)Lcom/example/lease/lease/model/AddToken;", sig := { parameters := [(.object "java/lang/String")], returnType := some (.object "com/example/lease/lease/model/AddToken") }, accessFlags := 9, code := some k9c1 }
def k9c2 : Code := { maxStack := 1, maxLocals := 1, code := prog_4_method_4_code, exceptionTable := #[], attributes := #[] }
def k9m2 : Method := { name := "text", desc := "()Ljava/lang/String;", sig := { parameters := [], returnType := some (.object "java/lang/String") }, accessFlags := 1, code := some k9c2 }
def k9c3 : Code := { maxStack := 2, maxLocals := 1, code := prog_4_method_5_code, exceptionTable := #[], attributes := #[] }
def k9m3 : Method := { name := "keptMillis", desc := "()J", sig := { parameters := [], returnType := some .long }, accessFlags := 1, code := some k9c3 }
/-- com/example/lease/lease/model/AddToken -/
def k9 : Class := { plain "com/example/lease/lease/model/AddToken" (some 0) with
  accessFlags := 49
  interfaces := #[]
  cf := some (fileOf pool9 18 #[] #[{ accessFlags := 2, nameIndex := 5, descriptorIndex := 30, attributes := #[] }, { accessFlags := 9, nameIndex := 48, descriptorIndex := 49, attributes := #[] }, { accessFlags := 1, nameIndex := 8, descriptorIndex := 53, attributes := #[] }, { accessFlags := 1, nameIndex := 24, descriptorIndex := 54, attributes := #[] }] 49 2 #[] #[{ accessFlags := 25, nameIndex := 44, descriptorIndex := 25, attributes := #[] }, { accessFlags := 18, nameIndex := 8, descriptorIndex := 21, attributes := #[] }, { accessFlags := 18, nameIndex := 24, descriptorIndex := 25, attributes := #[] }])
  fields := #[{ name := "DEFAULT_KEPT_MILLIS", type := .long, accessFlags := 25, slot := 0, constantValue := 0 }, { name := "text", type := (.object "java/lang/String"), accessFlags := 18, slot := 0, constantValue := 0 }, { name := "keptMillis", type := .long, accessFlags := 18, slot := 1, constantValue := 0 }]
  methods := #[k9m0, k9m1, k9m2, k9m3]
  instanceTypes := #[(.object "java/lang/String"), .long]
  staticTypes := #[.long]
  resolved := Array.replicate 72 none
  statics := none }

def pool10 : Array CpInfo := pool [(2, .class_ 4), (1, u "java/lang/Object"), (0, u "<init>"), (0, u "()V"), (35, .class_ 44), (1, u "java/util/Objects"), (0, u "requireNonNull"), (48, u "(Ljava/lang/Object;Ljava/lang/String;)Ljava/lang/Object;")] 89

def k10m0 : Method := { name := "<init>", desc := "()V", sig := { parameters := [], returnType := none }, accessFlags := 2, code := none }
def k10c1 : Code := { maxStack := 3, maxLocals := 2, code := jdk_31_method_11_code, exceptionTable := #[], attributes := #[] }
def k10m1 : Method := { name := "requireNonNull", desc := "(Ljava/lang/Object;Ljava/lang/String;)Ljava/lang/Object;", sig := { parameters := [(.object "java/lang/Object"), (.object "java/lang/String")], returnType := some (.object "java/lang/Object") }, accessFlags := 9, code := some k10c1 }
/-- java/util/Objects -/
def k10 : Class := { plain "java/util/Objects" (some 0) with
  accessFlags := 49
  interfaces := #[]
  cf := some (fileOf pool10 42 #[] #[{ accessFlags := 2, nameIndex := 5, descriptorIndex := 6, attributes := #[] }, { accessFlags := 9, nameIndex := 45, descriptorIndex := 94, attributes := #[] }] 49 2 #[] #[])
  fields := #[]
  methods := #[k10m0, k10m1]
  instanceTypes := #[]
  staticTypes := #[]
  resolved := Array.replicate 184 none
  statics := none }

def pool11 : Array CpInfo := pool [(4, .class_ 6), (1, u "java/lang/Object"), (0, u "<init>"), (0, u "()V"), (5, .class_ 16), (1, u "java/lang/StringLatin1"), (104, u "$assertionsDisabled"), (0, u "Z"), (98, .class_ 223), (1, u "java/lang/StringLatin1$LinesSpliterator"), (57, u "equals"), (0, u "([B[B)Z"), (107, .class_ 391), (0, u "java/lang/StringLatin1$CharsSpliterator")] 3

def k11m0 : Method := { name := "<init>", desc := "()V", sig := { parameters := [], returnType := none }, accessFlags := 0, code := none }
def k11c1 : Code := { maxStack := 3, maxLocals := 3, code := jdk_43_method_13_code, exceptionTable := #[], attributes := #[] }
def k11m1 : Method := { name := "equals", desc := "([B[B)Z", sig := { parameters := [(.array .byte), (.array .byte)], returnType := some .boolean }, accessFlags := 9, code := some k11c1 }
/-- java/lang/StringLatin1 -/
def k11 : Class := { plain "java/lang/StringLatin1" (some 0) with
  accessFlags := 48
  interfaces := #[]
  cf := some (fileOf pool11 14 #[.nestMembers #[390, 221]] #[{ accessFlags := 0, nameIndex := 7, descriptorIndex := 8, attributes := #[] }, { accessFlags := 9, nameIndex := 281, descriptorIndex := 282, attributes := #[] }] 48 4 #[] #[{ accessFlags := 4120, nameIndex := 121, descriptorIndex := 122, attributes := #[] }])
  fields := #[{ name := "$assertionsDisabled", type := .boolean, accessFlags := 4120, slot := 0, constantValue := 0 }]
  methods := #[k11m0, k11m1]
  instanceTypes := #[]
  staticTypes := #[.boolean]
  resolved := Array.replicate 395 none
  statics := none }

def pool12 : Array CpInfo := pool [(2, .class_ 4), (1, u "java/lang/Object"), (0, u "<init>"), (0, u "()V"), (17, .class_ 26), (1, u "jdk/internal/util/Preconditions"), (28, .class_ 56), (0, u "jdk/internal/util/Preconditions$4"), (57, .class_ 115), (0, u "jdk/internal/util/Preconditions$1"), (7, u "SIOOBE_FORMATTER"), (0, u "Ljava/util/function/BiFunction;"), (0, .class_ 126), (0, u "jdk/internal/util/Preconditions$2"), (3, u "AIOOBE_FORMATTER"), (0, .class_ 132), (0, u "jdk/internal/util/Preconditions$3"), (3, u "IOOBE_FORMATTER")] 57

def k12m0 : Method := { name := "<init>", desc := "()V", sig := { parameters := [], returnType := none }, accessFlags := 1, code := none }
/-- jdk/internal/util/Preconditions -/
def k12 : Class := { plain "jdk/internal/util/Preconditions" (some 0) with
  accessFlags := 33
  interfaces := #[]
  cf := some (fileOf pool12 24 #[.nestMembers #[55, 131, 125, 114]] #[{ accessFlags := 1, nameIndex := 5, descriptorIndex := 6, attributes := #[] }] 33 2 #[] #[{ accessFlags := 25, nameIndex := 123, descriptorIndex := 124, attributes := #[] }, { accessFlags := 25, nameIndex := 130, descriptorIndex := 124, attributes := #[] }, { accessFlags := 25, nameIndex := 136, descriptorIndex := 124, attributes := #[] }])
  fields := #[{ name := "SIOOBE_FORMATTER", type := (.object "java/util/function/BiFunction"), accessFlags := 25, slot := 0, constantValue := 0 }, { name := "AIOOBE_FORMATTER", type := (.object "java/util/function/BiFunction"), accessFlags := 25, slot := 1, constantValue := 0 }, { name := "IOOBE_FORMATTER", type := (.object "java/util/function/BiFunction"), accessFlags := 25, slot := 2, constantValue := 0 }]
  methods := #[k12m0]
  instanceTypes := #[]
  staticTypes := #[(.object "java/util/function/BiFunction"), (.object "java/util/function/BiFunction"), (.object "java/util/function/BiFunction")]
  resolved := Array.replicate 194 none
  statics := some 2 }

def pool13 : Array CpInfo := pool [(9, u "<init>"), (6, .class_ 18), (1, u "java/lang/Object"), (0, u "()V"), (1, .class_ 23), (1, u "jdk/internal/util/ArraysSupport"), (0, u "LOG2_ARRAY_LONG_INDEX_SCALE"), (0, u "I"), (2, u "U"), (0, u "Ljdk/internal/misc/Unsafe;"), (8, u "BIG_ENDIAN"), (0, u "Z"), (8, u "LOG2_BYTE_BIT_SIZE"), (4, u "LOG2_ARRAY_INT_INDEX_SCALE"), (54, u "JLA"), (0, u "Ljdk/internal/access/JavaLangAccess;"), (11, u "LOG2_ARRAY_BOOLEAN_INDEX_SCALE"), (9, u "LOG2_ARRAY_BYTE_INDEX_SCALE"), (5, u "LOG2_ARRAY_CHAR_INDEX_SCALE"), (5, u "LOG2_ARRAY_SHORT_INDEX_SCALE"), (18, u "LOG2_ARRAY_FLOAT_INDEX_SCALE"), (24, u "LOG2_ARRAY_DOUBLE_INDEX_SCALE"), (89, u "T_BOOLEAN"), (2, u "T_CHAR"), (1, u "T_FLOAT"), (1, u "T_DOUBLE"), (1, u "T_BYTE"), (1, u "T_SHORT"), (1, u "T_INT"), (1, u "T_LONG"), (1, u "SOFT_MAX_ARRAY_LENGTH")] 83

def k13m0 : Method := { name := "<init>", desc := "()V", sig := { parameters := [], returnType := none }, accessFlags := 2, code := none }
/-- jdk/internal/util/ArraysSupport -/
def k13 : Class := { plain "jdk/internal/util/ArraysSupport" (some 0) with
  accessFlags := 33
  interfaces := #[]
  cf := some (fileOf pool13 21 #[] #[{ accessFlags := 2, nameIndex := 9, descriptorIndex := 19, attributes := #[] }] 33 16 #[] #[{ accessFlags := 24, nameIndex := 28, descriptorIndex := 29, attributes := #[] }, { accessFlags := 26, nameIndex := 38, descriptorIndex := 39, attributes := #[] }, { accessFlags := 25, nameIndex := 121, descriptorIndex := 25, attributes := #[] }, { accessFlags := 25, nameIndex := 131, descriptorIndex := 25, attributes := #[] }, { accessFlags := 25, nameIndex := 137, descriptorIndex := 25, attributes := #[] }, { accessFlags := 25, nameIndex := 143, descriptorIndex := 25, attributes := #[] }, { accessFlags := 25, nameIndex := 53, descriptorIndex := 25, attributes := #[] }, { accessFlags := 25, nameIndex := 24, descriptorIndex := 25, attributes := #[] }, { accessFlags := 25, nameIndex := 162, descriptorIndex := 25, attributes := #[] }, { accessFlags := 25, nameIndex := 187, descriptorIndex := 25, attributes := #[] }, { accessFlags := 26, nameIndex := 48, descriptorIndex := 25, attributes := #[] }, { accessFlags := 25, nameIndex := 277, descriptorIndex := 25, attributes := #[] }, { accessFlags := 25, nameIndex := 280, descriptorIndex := 25, attributes := #[] }, { accessFlags := 25, nameIndex := 282, descriptorIndex := 25, attributes := #[] }, { accessFlags := 25, nameIndex := 284, descriptorIndex := 25, attributes := #[] }, { accessFlags := 25, nameIndex := 286, descriptorIndex := 25, attributes := #[] }, { accessFlags := 25, nameIndex := 288, descriptorIndex := 25, attributes := #[] }, { accessFlags := 25, nameIndex := 290, descriptorIndex := 25, attributes := #[] }, { accessFlags := 25, nameIndex := 292, descriptorIndex := 25, attributes := #[] }, { accessFlags := 26, nameIndex := 108, descriptorIndex := 109, attributes := #[] }, { accessFlags := 25, nameIndex := 294, descriptorIndex := 25, attributes := #[] }])
  fields := #[{ name := "U", type := (.object "jdk/internal/misc/Unsafe"), accessFlags := 24, slot := 0, constantValue := 0 }, { name := "BIG_ENDIAN", type := .boolean, accessFlags := 26, slot := 1, constantValue := 0 }, { name := "LOG2_ARRAY_BOOLEAN_INDEX_SCALE", type := .int, accessFlags := 25, slot := 2, constantValue := 0 }, { name := "LOG2_ARRAY_BYTE_INDEX_SCALE", type := .int, accessFlags := 25, slot := 3, constantValue := 0 }, { name := "LOG2_ARRAY_CHAR_INDEX_SCALE", type := .int, accessFlags := 25, slot := 4, constantValue := 0 }, { name := "LOG2_ARRAY_SHORT_INDEX_SCALE", type := .int, accessFlags := 25, slot := 5, constantValue := 0 }, { name := "LOG2_ARRAY_INT_INDEX_SCALE", type := .int, accessFlags := 25, slot := 6, constantValue := 0 }, { name := "LOG2_ARRAY_LONG_INDEX_SCALE", type := .int, accessFlags := 25, slot := 7, constantValue := 0 }, { name := "LOG2_ARRAY_FLOAT_INDEX_SCALE", type := .int, accessFlags := 25, slot := 8, constantValue := 0 }, { name := "LOG2_ARRAY_DOUBLE_INDEX_SCALE", type := .int, accessFlags := 25, slot := 9, constantValue := 0 }, { name := "LOG2_BYTE_BIT_SIZE", type := .int, accessFlags := 26, slot := 10, constantValue := 0 }, { name := "T_BOOLEAN", type := .int, accessFlags := 25, slot := 11, constantValue := 0 }, { name := "T_CHAR", type := .int, accessFlags := 25, slot := 12, constantValue := 0 }, { name := "T_FLOAT", type := .int, accessFlags := 25, slot := 13, constantValue := 0 }, { name := "T_DOUBLE", type := .int, accessFlags := 25, slot := 14, constantValue := 0 }, { name := "T_BYTE", type := .int, accessFlags := 25, slot := 15, constantValue := 0 }, { name := "T_SHORT", type := .int, accessFlags := 25, slot := 16, constantValue := 0 }, { name := "T_INT", type := .int, accessFlags := 25, slot := 17, constantValue := 0 }, { name := "T_LONG", type := .int, accessFlags := 25, slot := 18, constantValue := 0 }, { name := "JLA", type := (.object "jdk/internal/access/JavaLangAccess"), accessFlags := 26, slot := 19, constantValue := 0 }, { name := "SOFT_MAX_ARRAY_LENGTH", type := .int, accessFlags := 25, slot := 20, constantValue := 0 }]
  methods := #[k13m0]
  instanceTypes := #[]
  staticTypes := #[(.object "jdk/internal/misc/Unsafe"), .boolean, .int, .int, .int, .int, .int, .int, .int, .int, .int, .int, .int, .int, .int, .int, .int, .int, .int, (.object "jdk/internal/access/JavaLangAccess"), .int]
  resolved := Array.replicate 378 none
  statics := none }

def pool14 : Array CpInfo := pool [(1, u "java/lang/Cloneable"), (0, .class_ 1), (0, u "java/lang/Object"), (0, .class_ 3)] 3

/-- java/lang/Cloneable -/
def k14 : Class := { plain "java/lang/Cloneable" (some 0) with
  accessFlags := 1537
  interfaces := #[]
  cf := some (fileOf pool14 2 #[] #[] 1537 4 #[] #[])
  fields := #[]
  methods := #[]
  instanceTypes := #[]
  staticTypes := #[]
  resolved := Array.replicate 8 none
  statics := none }

/-- the primitive byte -/
def k15 : Class := { plain "byte" none with kind := .primitive 'B', accessFlags := 0x411 }
/-- [B -/
def k16 : Class := { plain "[B" (some 0) with kind := .array 15 .byte, interfaces := #[14, 2], accessFlags := 1041 }

/-- the primitive char -/
def k17 : Class := { plain "char" none with kind := .primitive 'C', accessFlags := 0x411 }
/-- [C -/
def k18 : Class := { plain "[C" (some 0) with kind := .array 17 .char, interfaces := #[14, 2], accessFlags := 1041 }

/-- the primitive int -/
def k19 : Class := { plain "int" none with kind := .primitive 'I', accessFlags := 0x411 }
/-- [I -/
def k20 : Class := { plain "[I" (some 0) with kind := .array 19 .int, interfaces := #[14, 2], accessFlags := 1041 }

def heap : Heap := #[{ cls := 7, slots := #[.long 0, .int 1, .null, .int 0, .null, .int 0, .int 0], vm := .statics 7 },
  { cls := 8, slots := #[.int 0, .int 8, .int 0, .int 1], vm := .statics 8 },
  { cls := 12, slots := #[.null, .null, .null], vm := .statics 12 }]
def classes : Array Class := #[k0, k1, k2, k3, k4, k5, k6, k7, k8, k9, k10, k11, k12, k13, k14, k15, k16, k17, k18, k19, k20]
def interned : List (Array UInt16 × Addr) := []
def slotsUsed : Nat := 14
def theMethod : MethodId := ⟨1, 2⟩
def args0 : Array Value := #[.int 5, .int 7, .int 3]
def aboutOver (below : List Frame) : State where
  vm := { classes := classes, interned := interned.toArray }
  heap := heap
  slotsUsed := slotsUsed
  threads := #[{ frames := .invoking theMethod args0 :: below }]
def below0 : List Frame := [.native { method := ⟨0, 0⟩, args := #[] }]
def about1 : State := aboutOver below0
def p0 : Program := .bare "" "" ""
def e0 : Env := launch0.env 0 0 0
theorem w_frames : about1.frames = Frame.invoking theMethod args0 :: below0 := rfl
set_option maxRecDepth 65536 in
theorem w_args : argsFit about1.vm theMethod args0 = true := by decide +kernel
set_option maxRecDepth 65536 in
theorem w_heap : heapFits about1 = true := by decide +kernel
set_option maxRecDepth 65536 in
theorem w_runnable : about1.curStatus? = some .runnable := by decide +kernel
set_option maxRecDepth 65536 in
theorem w_alone : about1.alone = true := by decide +kernel
set_option maxRecDepth 65536 in
theorem w_named : about1.methodNamed? x = some theMethod := by decide +kernel
set_option maxRecDepth 65536 in
theorem w_hears : about1.hears theMethod below0 = true := by decide +kernel
set_option maxRecDepth 65536 in
theorem w_ripe : about1.ripe theMethod args0 below0 = true := by decide +kernel
theorem w_running : about1.status = .running := rfl
set_option maxRecDepth 65536 in
theorem w_room : about1.hasRoom e0.platform room_1 = true :=
  launch0.hasRoom_least _ room_1 (by decide +kernel) (by decide +kernel) (by decide +kernel) (by decide +kernel) (by decide +kernel) (by decide +kernel)
theorem allAtoms_all (ts : List Jvm.Cond) (a : Array Jvm.Value) (st : Jvm.State) : (allAtoms ts).before a st = ts.all (fun c => c.before a st) := by
  induction ts with
  | nil => rfl
  | cons c t ih =>
    show (Jvm.Cond.and c (allAtoms t)).before a st = _
    rw [Jvm.Cond.before_and, ih, List.all_cons]
def words1 : List Jvm.Cond := Jvm.Cond.code x code maxLocals ret :: tables_1
/-- a 'code' word, met by the world's own term for the bytes: nothing is compared byte by byte -/
theorem code_word {y : MethodName} {bytes : ByteArray} {mx : Nat} {rt : Option FieldType} {a : Array Value} {s : State} {m : MethodId} {meth : Method} {c : Code} (h1 : s.methodNamed? y = some m) (h2 : s.vm.method? m = some meth) (h3 : meth.code = some c) (h4 : c.code = bytes)
    (h5 : (c.maxLocals == mx && c.exceptionTable.isEmpty && decide (c.maxStack ≤ mostOperands) && decide (meth.sig.returnType = rt) && !meth.locks && decide (parseMethodDescriptor y.desc = some meth.sig)) = true) : (Jvm.Cond.code y bytes mx rt).before a s = true := by
  simp only [Bool.and_eq_true, beq_iff_eq, Bool.not_eq_true', decide_eq_true_eq] at h5
  obtain ⟨⟨⟨⟨⟨g1, g2⟩, g3⟩, g4⟩, g5⟩, g6⟩ := h5
  simp [Cond.before, Cond.holds, Cond.value, h1, h2, h3, h4, g1, g2, g3, g4, g5, g6]
def isCode : Jvm.Cond → Bool
  | .code _ _ _ _ => true
  | _ => false
theorem all_split {L : List Jvm.Cond} {P : Jvm.Cond → Bool} (h1 : L.all (fun c => isCode c || P c) = true) (h2 : ∀ c ∈ L.filter isCode, P c = true) : L.all P = true := by
  refine List.all_eq_true.mpr fun c hc => ?_
  have h := List.all_eq_true.mp h1 c hc
  rcases Bool.eq_false_or_eq_true (isCode c) with hi | hi
  · exact h2 c (List.mem_filter.mpr ⟨hc, hi⟩)
  · simpa [hi] using h
set_option maxRecDepth 65536 in
theorem w_c0 : (Jvm.Cond.code x code maxLocals ret).before args0 about1 = true := code_word (m := ⟨1, 2⟩) (meth := k1m2) (c := k1c2) (by decide +kernel) rfl rfl rfl (by decide +kernel)
set_option maxRecDepth 65536 in
theorem w_c1 : (Jvm.Cond.code ({ cls := "com/example/lease/lease/model/AddTokenOfPinLaw", name := "make", desc := "(ICCCC)Ljava/lang/String;" } : Jvm.MethodName) method_2_code (5 : Nat) (Option.some (Jvm.ClassFile.FieldType.object "java/lang/String"))).before args0 about1 = true := code_word (m := ⟨1, 1⟩) (meth := k1m1) (c := k1c1) (by decide +kernel) rfl rfl rfl (by decide +kernel)
set_option maxRecDepth 65536 in
theorem w_c2 : (Jvm.Cond.code ({ cls := "java/lang/String", name := "<init>", desc := "([C)V" } : Jvm.MethodName) jdk_42_method_3_code (2 : Nat) (Option.none : Option Jvm.ClassFile.FieldType)).before args0 about1 = true := code_word (m := ⟨7, 1⟩) (meth := k7m1) (c := k7c1) (by decide +kernel) rfl rfl rfl (by decide +kernel)
set_option maxRecDepth 65536 in
theorem w_c3 : (Jvm.Cond.code ({ cls := "java/lang/String", name := "<init>", desc := "([CIILjava/lang/Void;)V" } : Jvm.MethodName) jdk_42_method_149_code (6 : Nat) (Option.none : Option Jvm.ClassFile.FieldType)).before args0 about1 = true := code_word (m := ⟨7, 4⟩) (meth := k7m4) (c := k7c4) (by decide +kernel) rfl rfl rfl (by decide +kernel)
set_option maxRecDepth 65536 in
theorem w_c4 : (Jvm.Cond.code ({ cls := "java/lang/Object", name := "<init>", desc := "()V" } : Jvm.MethodName) object_method_1_code (1 : Nat) (Option.none : Option Jvm.ClassFile.FieldType)).before args0 about1 = true := code_word (m := ⟨0, 0⟩) (meth := k0m0) (c := k0c0) (by decide +kernel) rfl rfl rfl (by decide +kernel)
set_option maxRecDepth 65536 in
theorem w_c5 : (Jvm.Cond.code ({ cls := "java/lang/StringUTF16", name := "compress", desc := "([CII)[B" } : Jvm.MethodName) jdk_52_method_16_code (6 : Nat) (Option.some (Jvm.ClassFile.FieldType.array Jvm.ClassFile.FieldType.byte))).before args0 about1 = true := code_word (m := ⟨8, 7⟩) (meth := k8m7) (c := k8c7) (by decide +kernel) rfl rfl rfl (by decide +kernel)
set_option maxRecDepth 65536 in
theorem w_c6 : (Jvm.Cond.code ({ cls := "java/lang/StringUTF16", name := "compress", desc := "([CI[BII)I" } : Jvm.MethodName) jdk_52_method_21_code (7 : Nat) (Option.some Jvm.ClassFile.FieldType.int)).before args0 about1 = true := code_word (m := ⟨8, 8⟩) (meth := k8m8) (c := k8c8) (by decide +kernel) rfl rfl rfl (by decide +kernel)
set_option maxRecDepth 65536 in
theorem w_c7 : (Jvm.Cond.code ({ cls := "java/lang/StringUTF16", name := "coderFromArrayLen", desc := "([BI)B" } : Jvm.MethodName) jdk_52_method_15_code (2 : Nat) (Option.some Jvm.ClassFile.FieldType.byte)).before args0 about1 = true := code_word (m := ⟨8, 6⟩) (meth := k8m6) (c := k8c6) (by decide +kernel) rfl rfl rfl (by decide +kernel)
set_option maxRecDepth 65536 in
theorem w_c8 : (Jvm.Cond.code ({ cls := "com/example/lease/lease/model/AddToken", name := "of", desc := "(Ljava/lang/String;)Lcom/example/lease/lease/model/AddToken;" } : Jvm.MethodName) prog_4_method_2_code (1 : Nat) (Option.some (Jvm.ClassFile.FieldType.object "com/example/lease/lease/model/AddToken"))).before args0 about1 = true := code_word (m := ⟨9, 1⟩) (meth := k9m1) (c := k9c1) (by decide +kernel) rfl rfl rfl (by decide +kernel)
set_option maxRecDepth 65536 in
theorem w_c9 : (Jvm.Cond.code ({ cls := "com/example/lease/lease/model/AddToken", name := "<init>", desc := "(Ljava/lang/String;J)V" } : Jvm.MethodName) prog_4_method_1_code (4 : Nat) (Option.none : Option Jvm.ClassFile.FieldType)).before args0 about1 = true := code_word (m := ⟨9, 0⟩) (meth := k9m0) (c := k9c0) (by decide +kernel) rfl rfl rfl (by decide +kernel)
set_option maxRecDepth 65536 in
theorem w_c10 : (Jvm.Cond.code ({ cls := "java/util/Objects", name := "requireNonNull", desc := "(Ljava/lang/Object;Ljava/lang/String;)Ljava/lang/Object;" } : Jvm.MethodName) jdk_31_method_11_code (2 : Nat) (Option.some (Jvm.ClassFile.FieldType.object "java/lang/Object"))).before args0 about1 = true := code_word (m := ⟨10, 1⟩) (meth := k10m1) (c := k10c1) (by decide +kernel) rfl rfl rfl (by decide +kernel)
set_option maxRecDepth 65536 in
theorem w_c11 : (Jvm.Cond.code ({ cls := "com/example/lease/lease/model/AddToken", name := "text", desc := "()Ljava/lang/String;" } : Jvm.MethodName) prog_4_method_4_code (1 : Nat) (Option.some (Jvm.ClassFile.FieldType.object "java/lang/String"))).before args0 about1 = true := code_word (m := ⟨9, 2⟩) (meth := k9m2) (c := k9c2) (by decide +kernel) rfl rfl rfl (by decide +kernel)
set_option maxRecDepth 65536 in
theorem w_c12 : (Jvm.Cond.code ({ cls := "java/lang/String", name := "length", desc := "()I" } : Jvm.MethodName) jdk_42_method_54_code (1 : Nat) (Option.some Jvm.ClassFile.FieldType.int)).before args0 about1 = true := code_word (m := ⟨7, 2⟩) (meth := k7m2) (c := k7c2) (by decide +kernel) rfl rfl rfl (by decide +kernel)
set_option maxRecDepth 65536 in
theorem w_c13 : (Jvm.Cond.code ({ cls := "java/lang/String", name := "coder", desc := "()B" } : Jvm.MethodName) jdk_42_method_152_code (1 : Nat) (Option.some Jvm.ClassFile.FieldType.byte)).before args0 about1 = true := code_word (m := ⟨7, 5⟩) (meth := k7m5) (c := k7c5) (by decide +kernel) rfl rfl rfl (by decide +kernel)
set_option maxRecDepth 65536 in
theorem w_c14 : (Jvm.Cond.code ({ cls := "java/lang/String", name := "equals", desc := "(Ljava/lang/Object;)Z" } : Jvm.MethodName) jdk_42_method_66_code (3 : Nat) (Option.some Jvm.ClassFile.FieldType.boolean)).before args0 about1 = true := code_word (m := ⟨7, 3⟩) (meth := k7m3) (c := k7c3) (by decide +kernel) rfl rfl rfl (by decide +kernel)
set_option maxRecDepth 65536 in
theorem w_c15 : (Jvm.Cond.code ({ cls := "java/lang/StringLatin1", name := "equals", desc := "([B[B)Z" } : Jvm.MethodName) jdk_43_method_13_code (3 : Nat) (Option.some Jvm.ClassFile.FieldType.boolean)).before args0 about1 = true := code_word (m := ⟨11, 1⟩) (meth := k11m1) (c := k11c1) (by decide +kernel) rfl rfl rfl (by decide +kernel)
set_option maxRecDepth 65536 in
theorem w_c16 : (Jvm.Cond.code ({ cls := "com/example/lease/lease/model/AddToken", name := "keptMillis", desc := "()J" } : Jvm.MethodName) prog_4_method_5_code (1 : Nat) (Option.some Jvm.ClassFile.FieldType.long)).before args0 about1 = true := code_word (m := ⟨9, 3⟩) (meth := k9m3) (c := k9c3) (by decide +kernel) rfl rfl rfl (by decide +kernel)
set_option maxRecDepth 65536 in
theorem w_c17 : (Jvm.Cond.code ({ cls := "java/lang/StringUTF16", name := "toBytes", desc := "([CII)[B" } : Jvm.MethodName) jdk_52_method_14_code (5 : Nat) (Option.some (Jvm.ClassFile.FieldType.array Jvm.ClassFile.FieldType.byte))).before args0 about1 = true := code_word (m := ⟨8, 5⟩) (meth := k8m5) (c := k8c5) (by decide +kernel) rfl rfl rfl (by decide +kernel)
set_option maxRecDepth 65536 in
theorem w_c18 : (Jvm.Cond.code ({ cls := "java/lang/StringUTF16", name := "newBytesFor", desc := "(I)[B" } : Jvm.MethodName) jdk_52_method_2_code (1 : Nat) (Option.some (Jvm.ClassFile.FieldType.array Jvm.ClassFile.FieldType.byte))).before args0 about1 = true := code_word (m := ⟨8, 1⟩) (meth := k8m1) (c := k8c1) (by decide +kernel) rfl rfl rfl (by decide +kernel)
set_option maxRecDepth 65536 in
theorem w_c19 : (Jvm.Cond.code ({ cls := "java/lang/StringUTF16", name := "newBytesLength", desc := "(I)I" } : Jvm.MethodName) jdk_52_method_3_code (1 : Nat) (Option.some Jvm.ClassFile.FieldType.int)).before args0 about1 = true := code_word (m := ⟨8, 2⟩) (meth := k8m2) (c := k8c2) (by decide +kernel) rfl rfl rfl (by decide +kernel)
set_option maxRecDepth 65536 in
theorem w_c20 : (Jvm.Cond.code ({ cls := "java/lang/StringUTF16", name := "putChar", desc := "([BII)V" } : Jvm.MethodName) jdk_52_method_4_code (3 : Nat) (Option.none : Option Jvm.ClassFile.FieldType)).before args0 about1 = true := code_word (m := ⟨8, 3⟩) (meth := k8m3) (c := k8c3) (by decide +kernel) rfl rfl rfl (by decide +kernel)
set_option maxRecDepth 65536 in
theorem w_c21 : (Jvm.Cond.code ({ cls := "java/lang/StringUTF16", name := "getChar", desc := "([BI)C" } : Jvm.MethodName) jdk_52_method_5_code (2 : Nat) (Option.some Jvm.ClassFile.FieldType.char)).before args0 about1 = true := code_word (m := ⟨8, 4⟩) (meth := k8m4) (c := k8c4) (by decide +kernel) rfl rfl rfl (by decide +kernel)
def codes1 : List Jvm.Cond := [Jvm.Cond.code x code maxLocals ret, Jvm.Cond.code ({ cls := "com/example/lease/lease/model/AddTokenOfPinLaw", name := "make", desc := "(ICCCC)Ljava/lang/String;" } : Jvm.MethodName) method_2_code (5 : Nat) (Option.some (Jvm.ClassFile.FieldType.object "java/lang/String")), Jvm.Cond.code ({ cls := "java/lang/String", name := "<init>", desc := "([C)V" } : Jvm.MethodName) jdk_42_method_3_code (2 : Nat) (Option.none : Option Jvm.ClassFile.FieldType), Jvm.Cond.code ({ cls := "java/lang/String", name := "<init>", desc := "([CIILjava/lang/Void;)V" } : Jvm.MethodName) jdk_42_method_149_code (6 : Nat) (Option.none : Option Jvm.ClassFile.FieldType), Jvm.Cond.code ({ cls := "java/lang/Object", name := "<init>", desc := "()V" } : Jvm.MethodName) object_method_1_code (1 : Nat) (Option.none : Option Jvm.ClassFile.FieldType), Jvm.Cond.code ({ cls := "java/lang/StringUTF16", name := "compress", desc := "([CII)[B" } : Jvm.MethodName) jdk_52_method_16_code (6 : Nat) (Option.some (Jvm.ClassFile.FieldType.array Jvm.ClassFile.FieldType.byte)), Jvm.Cond.code ({ cls := "java/lang/StringUTF16", name := "compress", desc := "([CI[BII)I" } : Jvm.MethodName) jdk_52_method_21_code (7 : Nat) (Option.some Jvm.ClassFile.FieldType.int), Jvm.Cond.code ({ cls := "java/lang/StringUTF16", name := "coderFromArrayLen", desc := "([BI)B" } : Jvm.MethodName) jdk_52_method_15_code (2 : Nat) (Option.some Jvm.ClassFile.FieldType.byte), Jvm.Cond.code ({ cls := "com/example/lease/lease/model/AddToken", name := "of", desc := "(Ljava/lang/String;)Lcom/example/lease/lease/model/AddToken;" } : Jvm.MethodName) prog_4_method_2_code (1 : Nat) (Option.some (Jvm.ClassFile.FieldType.object "com/example/lease/lease/model/AddToken")), Jvm.Cond.code ({ cls := "com/example/lease/lease/model/AddToken", name := "<init>", desc := "(Ljava/lang/String;J)V" } : Jvm.MethodName) prog_4_method_1_code (4 : Nat) (Option.none : Option Jvm.ClassFile.FieldType), Jvm.Cond.code ({ cls := "java/util/Objects", name := "requireNonNull", desc := "(Ljava/lang/Object;Ljava/lang/String;)Ljava/lang/Object;" } : Jvm.MethodName) jdk_31_method_11_code (2 : Nat) (Option.some (Jvm.ClassFile.FieldType.object "java/lang/Object")), Jvm.Cond.code ({ cls := "com/example/lease/lease/model/AddToken", name := "text", desc := "()Ljava/lang/String;" } : Jvm.MethodName) prog_4_method_4_code (1 : Nat) (Option.some (Jvm.ClassFile.FieldType.object "java/lang/String")), Jvm.Cond.code ({ cls := "java/lang/String", name := "length", desc := "()I" } : Jvm.MethodName) jdk_42_method_54_code (1 : Nat) (Option.some Jvm.ClassFile.FieldType.int), Jvm.Cond.code ({ cls := "java/lang/String", name := "coder", desc := "()B" } : Jvm.MethodName) jdk_42_method_152_code (1 : Nat) (Option.some Jvm.ClassFile.FieldType.byte), Jvm.Cond.code ({ cls := "java/lang/String", name := "equals", desc := "(Ljava/lang/Object;)Z" } : Jvm.MethodName) jdk_42_method_66_code (3 : Nat) (Option.some Jvm.ClassFile.FieldType.boolean), Jvm.Cond.code ({ cls := "java/lang/StringLatin1", name := "equals", desc := "([B[B)Z" } : Jvm.MethodName) jdk_43_method_13_code (3 : Nat) (Option.some Jvm.ClassFile.FieldType.boolean), Jvm.Cond.code ({ cls := "com/example/lease/lease/model/AddToken", name := "keptMillis", desc := "()J" } : Jvm.MethodName) prog_4_method_5_code (1 : Nat) (Option.some Jvm.ClassFile.FieldType.long), Jvm.Cond.code ({ cls := "java/lang/StringUTF16", name := "toBytes", desc := "([CII)[B" } : Jvm.MethodName) jdk_52_method_14_code (5 : Nat) (Option.some (Jvm.ClassFile.FieldType.array Jvm.ClassFile.FieldType.byte)), Jvm.Cond.code ({ cls := "java/lang/StringUTF16", name := "newBytesFor", desc := "(I)[B" } : Jvm.MethodName) jdk_52_method_2_code (1 : Nat) (Option.some (Jvm.ClassFile.FieldType.array Jvm.ClassFile.FieldType.byte)), Jvm.Cond.code ({ cls := "java/lang/StringUTF16", name := "newBytesLength", desc := "(I)I" } : Jvm.MethodName) jdk_52_method_3_code (1 : Nat) (Option.some Jvm.ClassFile.FieldType.int), Jvm.Cond.code ({ cls := "java/lang/StringUTF16", name := "putChar", desc := "([BII)V" } : Jvm.MethodName) jdk_52_method_4_code (3 : Nat) (Option.none : Option Jvm.ClassFile.FieldType), Jvm.Cond.code ({ cls := "java/lang/StringUTF16", name := "getChar", desc := "([BI)C" } : Jvm.MethodName) jdk_52_method_5_code (2 : Nat) (Option.some Jvm.ClassFile.FieldType.char)]
set_option maxRecDepth 65536 in
theorem codes_eq : words1.filter isCode = codes1 := rfl
theorem w_codes : ∀ c ∈ words1.filter isCode, c.before args0 about1 = true := by
  rw [codes_eq]
  intro c hc
  simp only [codes1, List.mem_cons, List.not_mem_nil, or_false] at hc
  rcases hc with rfl | rfl | rfl | rfl | rfl | rfl | rfl | rfl | rfl | rfl | rfl | rfl | rfl | rfl | rfl | rfl | rfl | rfl | rfl | rfl | rfl | rfl
  · exact w_c0
  · exact w_c1
  · exact w_c2
  · exact w_c3
  · exact w_c4
  · exact w_c5
  · exact w_c6
  · exact w_c7
  · exact w_c8
  · exact w_c9
  · exact w_c10
  · exact w_c11
  · exact w_c12
  · exact w_c13
  · exact w_c14
  · exact w_c15
  · exact w_c16
  · exact w_c17
  · exact w_c18
  · exact w_c19
  · exact w_c20
  · exact w_c21
set_option maxRecDepth 65536 in
theorem w_t1 : (words1.take 24).all (fun c => isCode c || c.before args0 about1) = true := by decide +kernel
set_option maxRecDepth 65536 in
theorem w_t2 : ((words1.drop 24).take 24).all (fun c => isCode c || c.before args0 about1) = true := by decide +kernel
set_option maxRecDepth 65536 in
theorem w_t3 : (((words1.drop 24).drop 24).take 24).all (fun c => isCode c || c.before args0 about1) = true := by decide +kernel
set_option maxRecDepth 65536 in
theorem w_t4 : ((((words1.drop 24).drop 24).drop 24).take 24).all (fun c => isCode c || c.before args0 about1) = true := by decide +kernel
set_option maxRecDepth 65536 in
theorem w_t5 : ((((words1.drop 24).drop 24).drop 24).drop 24).all (fun c => isCode c || c.before args0 about1) = true := by decide +kernel
theorem w_tables : (allAtoms (Jvm.Cond.code x code maxLocals ret :: tables_1)).before args0 about1 = true := by
  rw [allAtoms_all]
  show words1.all (fun c => c.before args0 about1) = true
  refine all_split ?_ w_codes
  rw [← List.take_append_drop 24 words1, List.all_append, w_t1, ← List.take_append_drop 24 (words1.drop 24), List.all_append, w_t2, ← List.take_append_drop 24 ((words1.drop 24).drop 24), List.all_append, w_t3, ← List.take_append_drop 24 (((words1.drop 24).drop 24).drop 24), List.all_append, w_t4, w_t5]
  rfl
set_option maxRecDepth 65536 in
theorem w_rest : rest_1_c.before args0 about1 = true := by decide +kernel
set_option maxRecDepth 65536 in
theorem w_case : (Jvm.Cond.and given_1 narrow_1).before args0 about1 = true := by decide +kernel
set_option maxRecDepth 65536 in
theorem w_consts : constsHeld consts_1 about1 := Jvm.Lit.constsHeldB_iff.mp (by decide +kernel)
theorem w_applies : (headSpec (Jvm.Cond.code x code maxLocals ret :: tables_1) room_1).applies x e0.platform about1 = true :=
  (Spec.applies_iff w_frames).mpr ⟨w_running, w_runnable, w_alone, w_named, w_hears, w_ripe, w_room, w_tables⟩
theorem atStart : AtStart classFile x code maxLocals ret World_1 tables_1 room_1 Calls_1 rest_1 Pre_1 launch0 p0 e0 about1 theMethod args0 below0 :=
  ⟨lists_1, trivial, launch0.admits_env _ _ _, launch0.least_env, fairChoices_fair.cas, fairChoices_fair.clock, w_frames, w_args, w_heap, w_applies, ⟨w_consts, trivial⟩, w_rest, w_case⟩
end start1
theorem witness_1 : WitnessClaimed_1 := ⟨start1.p0, start1.e0, start1.about1, start1.theMethod, start1.args0, start1.below0, start1.atStart⟩
end Jvm.Pilot.@@N@@
