import JvmDerived
import JvmDerived.Pilot.@@N@@Statement
import JvmDerived.Pilot.@@N@@Code
set_option linter.unusedVariables false
set_option linter.unusedSimpArgs false
@@BLOCK:NumsL.lean.txt@@
/- laws to paste: Road.backV, Road.eqW, Road.lenW, Road.codOf, pair_says, shr0 (cut by pick.py; bodies as the Statement names them) -/
namespace Jvm.Pilot.@@N@@
namespace StrChars
open Jvm Sem ClassFile Op Lib Jvm.Stand Jvm.Free.XT Jvm.Free.ALB Jvm.Free.JM Jvm.Free
open Jvm.Lib.Cold (StaticIs)
/-- a char array whose places are chars -/
def Ch (a : Addr) (A : Cell) (U : State) : Prop := Arr .char a A U ∧ Typed .char A
theorem Ch.mv {a : Addr} {A : Cell} {U U' : State} (h : Ch a A U) (hal : U.vm.Alike U'.vm) (hh : U'.heap = U.heap) : Ch a A U' := ⟨h.1.mv hal hh, h.2⟩
theorem Ch.keep {a : Addr} {A : Cell} {U U' : State} (h : Ch a A U) (hal : U.vm.Alike U'.vm) (hk : U'.heap[a]? = some A) : Ch a A U' := ⟨h.1.keep hal hk, h.2⟩
/-- what place i of a char[]'s cell holds -/
def cv (A : Cell) (i : Nat) : Int32 := match A.slots[i]? with | some (.int x) => x | _ => 0
theorem Ch.get {a : Addr} {A : Cell} {U : State} (h : Ch a A U) {i : Nat} (hi : i < A.slots.size) : A.slots[i]? = some (.int (cv A i)) := by
  have e := Array.getElem?_eq_getElem hi
  have f := h.2 i _ e
  unfold cv; rw [e]
  generalize A.slots[i] = v at f
  cases v <;> simp [fits] at f ⊢
/-- the byte that i2b leaves of a char -/
def lo8 (x : Int32) : Int32 := x.toInt8.toInt32
theorem fits_lo8 (y : Int32) : fits .byte (.int (lo8 y)) = true := by
  have h1 := y.toInt8.le_toInt
  have h2 := y.toInt8.toInt_lt
  simp only [lo8, fits, Bool.and_eq_true, decide_eq_true_eq, Int32.le_iff_toInt_le, Int8.toInt_toInt32, show (-128 : Int32).toInt = -128 from by decide, show (127 : Int32).toInt = 127 from by decide]
  omega
/-- A' is A but that each place j of lo .. hi - 1 holds f j -/
def Laid (A A' : Cell) (lo hi : Nat) (f : Nat → Value) : Prop := A'.cls = A.cls ∧ A'.vm = A.vm ∧ A'.slots.size = A.slots.size ∧ ∀ i, A'.slots[i]? = if lo ≤ i ∧ i < hi then some (f i) else A.slots[i]?
theorem Laid.zero (A : Cell) (lo : Nat) (f : Nat → Value) : Laid A A lo (lo + 0) f := ⟨rfl, rfl, rfl, fun i => by rw [if_neg (by omega)]⟩
theorem Laid.step {A Ak : Cell} {lo k : Nat} {f : Nat → Value} {v : Value} (h : Laid A Ak lo k f) (hlo : lo ≤ k) (hk : k < Ak.slots.size) (hv : v = f k) : Laid A (Ak.setSlot k v) lo (k + 1) f := by
  refine ⟨h.1, h.2.1, by simpa [Cell.setSlot] using h.2.2.1, fun i => ?_⟩
  by_cases e : k = i
  · subst e; rw [Cell.slots_setSlot_self v hk, if_pos (by omega), hv]
  · rw [Cell.slots_setSlot_ne v e, h.2.2.2 i]
    by_cases q : lo ≤ i ∧ i < k
    · rw [if_pos q, if_pos (by omega)]
    · rw [if_neg q, if_neg (by omega)]
def U16 : String := "java/lang/StringUTF16"
namespace Cmp5
def yN : MethodName := ⟨"java/lang/StringUTF16", "compress", "([CI[BII)I"⟩
abbrev yB : ByteArray := jdk_52_method_21_code
theorem d0 : decode yB 0 = .ok (.iconst 0, 1) := by decide +kernel
theorem d1 : decode yB 1 = .ok (.istore 5, 2) := by decide +kernel
theorem d3 : decode yB 3 = .ok (.iload 5, 2) := by decide +kernel
theorem d5 : decode yB 5 = .ok (.iload 4, 2) := by decide +kernel
theorem d7 : decode yB 7 = .ok (.if_icmp (.ge) 37, 3) := by decide +kernel
theorem d10 : decode yB 10 = .ok (.aload_n 0, 1) := by decide +kernel
theorem d11 : decode yB 11 = .ok (.iload_n 1, 1) := by decide +kernel
theorem d12 : decode yB 12 = .ok (.caload, 1) := by decide +kernel
theorem d13 : decode yB 13 = .ok (.istore 6, 2) := by decide +kernel
theorem d15 : decode yB 15 = .ok (.iload 6, 2) := by decide +kernel
theorem d17 : decode yB 17 = .ok (.sipush 255, 3) := by decide +kernel
theorem d20 : decode yB 20 = .ok (.if_icmp (.le) 6, 3) := by decide +kernel
theorem d26 : decode yB 26 = .ok (.aload_n 2, 1) := by decide +kernel
theorem d27 : decode yB 27 = .ok (.iload_n 3, 1) := by decide +kernel
theorem d28 : decode yB 28 = .ok (.iload 6, 2) := by decide +kernel
theorem d30 : decode yB 30 = .ok (.i2b, 1) := by decide +kernel
theorem d31 : decode yB 31 = .ok (.bastore, 1) := by decide +kernel
theorem d32 : decode yB 32 = .ok (.iinc 1 1, 3) := by decide +kernel
theorem d35 : decode yB 35 = .ok (.iinc 3 1, 3) := by decide +kernel
theorem d38 : decode yB 38 = .ok (.iinc 5 1, 3) := by decide +kernel
theorem d41 : decode yB 41 = .ok (.goto (-38), 3) := by decide +kernel
theorem d44 : decode yB 44 = .ok (.iload 4, 2) := by decide +kernel
theorem d46 : decode yB 46 = .ok (.ireturn, 1) := by decide +kernel
def site : List Cond := []
def tab : Cond := tabOf yN yB 7 (some .int) site
def P (b : Addr) (A : Cell) (d : Addr) (B : Cell) (o q len : Nat) (args : Array Value) (s : State) : Prop := args = #[.ref b, .int (Int32.ofNat o), .ref d, .int (Int32.ofNat q), .int (Int32.ofNat len)] ∧ Ch b A s ∧ Arr .byte d B s ∧ b ≠ d ∧ o + len ≤ A.slots.size ∧ q + len ≤ B.slots.size ∧ ∀ i, i < len → ¬ 255 < cv A (o + i)
def E (b : Addr) (A : Cell) (d : Addr) (B : Cell) (o q len : Nat) (r : Option Value) (s u : State) : Prop := r = some (.int (Int32.ofNat len)) ∧ ∃ B', Put d B' s u ∧ Laid B B' q (q + len) (fun j => Value.int (lo8 (cv A (o + (j - q)))))
/-- no char of the range above 255: len; the places written hold each char's low byte -/
theorem law (l : Launch) (b : Addr) (A : Cell) (d : Addr) (B : Cell) (o q len : Nat) : Law l yN 5 5 0 0 yB 7 (some .int) site (P b A d B o q len) (E b A d B o q len) (copyLocs d q len) 0 0 := by
  refine Law.of_walk (plainFor_of_name (by decide +kernel)) (by decide +kernel) (by decide +kernel) (by decide) (fun _ _ h => by rw [h.1]; rfl) (fun _ U U' hal hh h => ⟨h.1, h.2.1.mv hal hh, h.2.2.1.mv hal hh, h.2.2.2⟩) (fun r U U' V V' h1 hal h2 h => ⟨h.1, h.2.elim fun B' q => ⟨B', q.1.mv h1 h2, q.2⟩⟩) ?_
  intro p e s m args below meth c s₁ X0 hexec hbytes hml hret hlk hnm hown hh0 W hP
  obtain ⟨rfl, hA, hB, hne, l1, l2, hp⟩ := hP
  have c1 : Steps p.tables e below (s₁.setTop (entryFrame m #[.ref b, .int (Int32.ofNat o), .ref d, .int (Int32.ofNat q), .int (Int32.ofNat len)] 7)) (s₁.setTop (mkF m 0 #[.val (.ref b), .val (.int (Int32.ofNat o)), .val (.ref d), .val (.int (Int32.ofNat q)), .val (.int (Int32.ofNat len)), .unset, .unset] [])) := entry rfl
  have hA0 := hA.1.mv X0.warmed.alike hh0
  have hB0 := hB.mv X0.warmed.alike hh0
  have a31 := hA.1.2.2.2
  have c2 : Steps p.tables e below (s₁.setTop (entryFrame m #[.ref b, .int (Int32.ofNat o), .ref d, .int (Int32.ofNat q), .int (Int32.ofNat len)] 7)) (s₁.setTop (mkF m 3 #[.val (.ref b), .val (.int (Int32.ofNat o)), .val (.ref d), .val (.int (Int32.ofNat q)), .val (.int (Int32.ofNat len)), .val (.int 0), .unset] [])) := c1.trans (by
    refine iconstV X0.here hexec rfl 0 (hb hbytes d0) (by decide) ?_
    refine XS.istore X0.here hexec rfl (hb hbytes d1) rfl rfl ?_
    exact Steps.refl _)
  have loop : ∀ (r i : Nat), i + r = len → ∀ (z : Slot), (z = .unset ∨ ∃ w, z = .val w ∧ w.category = 1) → ∀ (Tl : State) (Bk : Cell), Stand p l e { frames := 0, locals := 0, cells := 0, slots := 0 } s m #[.ref b, .int (Int32.ofNat o), .ref d, .int (Int32.ofNat q), .int (Int32.ofNat len)] below meth c Tl ([] ++ copyLocs d q i) 0 0 → Put d Bk s₁ Tl → Laid B Bk q (q + i) (fun j => Value.int (lo8 (cv A (o + (j - q))))) →
      Steps p.tables e below (s₁.setTop (entryFrame m #[.ref b, .int (Int32.ofNat o), .ref d, .int (Int32.ofNat q), .int (Int32.ofNat len)] 7)) (Tl.setTop (mkF m 3 #[.val (.ref b), .val (.int (Int32.ofNat (o + i))), .val (.ref d), .val (.int (Int32.ofNat (q + i))), .val (.int (Int32.ofNat len)), .val (.int (Int32.ofNat i)), z] [])) → ∃ (T' : State) (B' : Cell) (z' : Slot), Stand p l e { frames := 0, locals := 0, cells := 0, slots := 0 } s m #[.ref b, .int (Int32.ofNat o), .ref d, .int (Int32.ofNat q), .int (Int32.ofNat len)] below meth c T' ([] ++ copyLocs d q len) 0 0 ∧ Put d B' s₁ T' ∧ Laid B B' q (q + len) (fun j => Value.int (lo8 (cv A (o + (j - q))))) ∧
      Steps p.tables e below (s₁.setTop (entryFrame m #[.ref b, .int (Int32.ofNat o), .ref d, .int (Int32.ofNat q), .int (Int32.ofNat len)] 7)) (T'.setTop (mkF m 3 #[.val (.ref b), .val (.int (Int32.ofNat (o + len))), .val (.ref d), .val (.int (Int32.ofNat (q + len))), .val (.int (Int32.ofNat len)), .val (.int (Int32.ofNat len)), z'] [])) := by
    intro r
    induction r with
    | zero =>
      intro i hi z hz Tl Bk Xl pl fl cl
      have hil : i = len := by omega
      rw [hil] at Xl fl cl
      exact ⟨Tl, Bk, z, Xl, pl, fl, cl⟩
    | succ r ih =>
      intro i hi z hz Tl Bk Xl pl fl cl
      have all := X0.warmed.alike.symm.trans Xl.warmed.alike
      have hAl := hA0.keep all (pl.other hne hA0.1)
      have hBk := hB0.like all pl.1 fl.1 fl.2.1 fl.2.2.1
      have hlt : q + i < Bk.slots.size := by rw [fl.2.2.1]; omega
      have c3 : Steps p.tables e below (s₁.setTop (entryFrame m #[.ref b, .int (Int32.ofNat o), .ref d, .int (Int32.ofNat q), .int (Int32.ofNat len)] 7)) (Tl.setTop (mkF m 12 #[.val (.ref b), .val (.int (Int32.ofNat (o + i))), .val (.ref d), .val (.int (Int32.ofNat (q + i))), .val (.int (Int32.ofNat len)), .val (.int (Int32.ofNat i)), z] [.int (Int32.ofNat (o + i)), .ref b])) := cl.trans (by
        refine XS.iload Xl.here hexec rfl (hb hbytes d3) rfl ?_
        refine XS.iload Xl.here hexec rfl (hb hbytes d5) rfl ?_
        refine XS.icmpNo Xl.here hexec rfl (hb hbytes d7) rfl (ii_ge_f (lt32 (by omega) (by omega))) ?_
        refine XS.aloadN Xl.here hexec rfl (hb hbytes d10) rfl rfl ?_
        refine XS.iloadN Xl.here hexec rfl (hb hbytes d11) rfl ?_
        exact Steps.refl _)
      have c4 : Steps p.tables e below (s₁.setTop (entryFrame m #[.ref b, .int (Int32.ofNat o), .ref d, .int (Int32.ofNat q), .int (Int32.ofNat len)] 7)) (Tl.setTop (mkF m 13 #[.val (.ref b), .val (.int (Int32.ofNat (o + i))), .val (.ref d), .val (.int (Int32.ofNat (q + i))), .val (.int (Int32.ofNat len)), .val (.int (Int32.ofNat i)), z] [.int (cv A (o + i))])) := c3.trans (by
        refine Xl.aget hexec hAl rfl (hA.get (i := o + i) (by omega)) rfl rfl (hb hbytes d12) ?_
        exact Steps.refl _)
      have c5 : Steps p.tables e below (s₁.setTop (entryFrame m #[.ref b, .int (Int32.ofNat o), .ref d, .int (Int32.ofNat q), .int (Int32.ofNat len)] 7)) (Tl.setTop (mkF m 15 #[.val (.ref b), .val (.int (Int32.ofNat (o + i))), .val (.ref d), .val (.int (Int32.ofNat (q + i))), .val (.int (Int32.ofNat len)), .val (.int (Int32.ofNat i)), .val (.int (cv A (o + i)))] [])) := c4.trans (by
        refine XS.istoreS Xl.here hexec rfl (hb hbytes d13) rfl rfl hz ?_
        exact Steps.refl _)
      have c6 : Steps p.tables e below (s₁.setTop (entryFrame m #[.ref b, .int (Int32.ofNat o), .ref d, .int (Int32.ofNat q), .int (Int32.ofNat len)] 7)) (Tl.setTop (mkF m 31 #[.val (.ref b), .val (.int (Int32.ofNat (o + i))), .val (.ref d), .val (.int (Int32.ofNat (q + i))), .val (.int (Int32.ofNat len)), .val (.int (Int32.ofNat i)), .val (.int (cv A (o + i)))] [.int (lo8 (cv A (o + i))), .int (Int32.ofNat (q + i)), .ref d])) := c5.trans (by
        refine XS.iload Xl.here hexec rfl (hb hbytes d15) rfl ?_
        refine sipushV Xl.here hexec rfl 255 (hb hbytes d17) (by decide) ?_
        refine XS.icmpYes Xl.here hexec rfl (pc0 := 20) rfl (hb hbytes d20) rfl (ii_le_t (hp i (by omega))) (by decide) rfl ?_
        refine XS.aloadN Xl.here hexec rfl (hb hbytes d26) rfl rfl ?_
        refine XS.iloadN Xl.here hexec rfl (hb hbytes d27) rfl ?_
        refine XS.iload Xl.here hexec rfl (hb hbytes d28) rfl ?_
        refine i2b Xl.here hexec rfl (hb hbytes d30) rfl ?_
        exact Steps.refl _)
      obtain ⟨T7, X7, p7, st7⟩ := Xl.aput hexec hBk rfl hlt rfl (fits_lo8 (cv A (o + i))) (g := (mkF m 31 #[.val (.ref b), .val (.int (Int32.ofNat (o + i))), .val (.ref d), .val (.int (Int32.ofNat (q + i))), .val (.int (Int32.ofNat len)), .val (.int (Int32.ofNat i)), .val (.int (cv A (o + i)))] [.int (lo8 (cv A (o + i))), .int (Int32.ofNat (q + i)), .ref d])) rfl (rest := []) rfl (hb hbytes d31)
      have c8 : Steps p.tables e below (s₁.setTop (entryFrame m #[.ref b, .int (Int32.ofNat o), .ref d, .int (Int32.ofNat q), .int (Int32.ofNat len)] 7)) (T7.setTop (mkF m 32 #[.val (.ref b), .val (.int (Int32.ofNat (o + i))), .val (.ref d), .val (.int (Int32.ofNat (q + i))), .val (.int (Int32.ofNat len)), .val (.int (Int32.ofNat i)), .val (.int (cv A (o + i)))] [])) := c6.trans (st7 _ (Steps.refl _))
      have c9 : Steps p.tables e below (s₁.setTop (entryFrame m #[.ref b, .int (Int32.ofNat o), .ref d, .int (Int32.ofNat q), .int (Int32.ofNat len)] 7)) (T7.setTop (mkF m 3 #[.val (.ref b), .val (.int (Int32.ofNat (o + i) + 1)), .val (.ref d), .val (.int (Int32.ofNat (q + i) + 1)), .val (.int (Int32.ofNat len)), .val (.int (Int32.ofNat i + 1)), .val (.int (cv A (o + i)))] [])) := c8.trans (by
        refine iincV X7.here hexec rfl 1 (hb hbytes d32) (by decide) rfl rfl ?_
        refine iincV X7.here hexec rfl 1 (hb hbytes d35) (by decide) rfl rfl ?_
        refine iincV X7.here hexec rfl 1 (hb hbytes d38) (by decide) rfl rfl ?_
        refine XS.goto X7.here hexec rfl (pc0 := 41) rfl (hb hbytes d41) (by decide) rfl ?_
        exact Steps.refl _)
      have c10 : Steps p.tables e below (s₁.setTop (entryFrame m #[.ref b, .int (Int32.ofNat o), .ref d, .int (Int32.ofNat q), .int (Int32.ofNat len)] 7)) (T7.setTop (mkF m 3 #[.val (.ref b), .val (.int (Int32.ofNat (o + (i + 1)))), .val (.ref d), .val (.int (Int32.ofNat (q + (i + 1)))), .val (.int (Int32.ofNat len)), .val (.int (Int32.ofNat (i + 1))), .val (.int (cv A (o + i)))] [])) := by
        have := c9
        rw [succ32, succ32, succ32] at this
        exact this
      exact ih (i + 1) (by omega) _ (Or.inr ⟨_, rfl, rfl⟩) T7 _ (by rw [copyLocs_step, ← List.append_assoc]; exact X7) (pl.trans p7) (fl.step (by omega) hlt (by simp)) c10
  obtain ⟨T9, B9, z9, X9, p9, f9, g9⟩ := loop len 0 (by omega) .unset (Or.inl rfl) s₁ B (by simpa [copyLocs] using X0) ⟨hB0.1, fun _ _ => rfl, rfl⟩ (Laid.zero _ _ _) c2
  have c11 : Steps p.tables e below (s₁.setTop (entryFrame m #[.ref b, .int (Int32.ofNat o), .ref d, .int (Int32.ofNat q), .int (Int32.ofNat len)] 7)) (T9.setTop (mkF m 46 #[.val (.ref b), .val (.int (Int32.ofNat (o + len))), .val (.ref d), .val (.int (Int32.ofNat (q + len))), .val (.int (Int32.ofNat len)), .val (.int (Int32.ofNat len)), z9] [.int (Int32.ofNat len)])) := g9.trans (by
    refine XS.iload X9.here hexec rfl (hb hbytes d3) rfl ?_
    refine XS.iload X9.here hexec rfl (hb hbytes d5) rfl ?_
    refine XS.icmpYes X9.here hexec rfl (pc0 := 7) rfl (hb hbytes d7) rfl (ii_ge_t (nlt32 (by omega) (Nat.le_refl _))) (by decide) rfl ?_
    refine XS.iload X9.here hexec rfl (hb hbytes d44) rfl ?_
    exact Steps.refl _)
  exact ⟨T9, some (.int (Int32.ofNat len)), _, _, _, X9, by simp, rfl, rfl, (fun h => by cases h), ⟨rfl, B9, p9.from hh0, f9⟩, fun fs hl => c11.trans (X9.ireturnOut hexec hret rfl (Or.inl rfl) (hb hbytes d46) hl)⟩
end Cmp5
namespace Cmp3
def yN : MethodName := ⟨"java/lang/StringUTF16", "compress", "([CII)[B"⟩
abbrev yB : ByteArray := jdk_52_method_16_code
theorem d0 : decode yB 0 = .ok (.iload_n 2, 1) := by decide +kernel
theorem d1 : decode yB 1 = .ok (.newarray .byte, 2) := by decide +kernel
theorem d3 : decode yB 3 = .ok (.astore_n 3, 1) := by decide +kernel
theorem d4 : decode yB 4 = .ok (.aload_n 0, 1) := by decide +kernel
theorem d5 : decode yB 5 = .ok (.iload_n 1, 1) := by decide +kernel
theorem d6 : decode yB 6 = .ok (.aload_n 3, 1) := by decide +kernel
theorem d7 : decode yB 7 = .ok (.iconst 0, 1) := by decide +kernel
theorem d8 : decode yB 8 = .ok (.iload_n 2, 1) := by decide +kernel
theorem d9 : decode yB 9 = .ok (.invokestatic 115, 3) := by decide +kernel
theorem d12 : decode yB 12 = .ok (.istore 4, 2) := by decide +kernel
theorem d14 : decode yB 14 = .ok (.iload 4, 2) := by decide +kernel
theorem d16 : decode yB 16 = .ok (.iload_n 2, 1) := by decide +kernel
theorem d17 : decode yB 17 = .ok (.if_icmp (.eq) 40, 3) := by decide +kernel
theorem d57 : decode yB 57 = .ok (.aload_n 3, 1) := by decide +kernel
theorem d58 : decode yB 58 = .ok (.areturn, 1) := by decide +kernel
def site : List Cond := [.arrayClass .byte, Cmp5.tab] ++ staticW U16 115 Cmp5.yN
def tab : Cond := tabOf yN yB 6 (some (.array .byte)) site
def P (b : Addr) (A : Cell) (o len : Nat) (args : Array Value) (s : State) : Prop := args = #[.ref b, .int (Int32.ofNat o), .int (Int32.ofNat len)] ∧ Ch b A s ∧ o + len ≤ A.slots.size ∧ len ≤ 536870912 ∧ ∀ i, i < len → ¬ 255 < cv A (o + i)
def E (b : Addr) (A : Cell) (o len : Nat) (r : Option Value) (s u : State) : Prop := NewArr .byte "[B" len (fun j => .int (lo8 (cv A (o + j)))) r s u ∧ u.heap.size = s.heap.size + 1
/-- no char of the range above 255: a new byte[] of their low bytes -/
theorem law (l : Launch) (b : Addr) (A : Cell) (o len : Nat) : Law l yN 3 3 1 18 yB 6 (some (.array .byte)) site (P b A o len) (E b A o len) [] 1 len := by
  refine Law.of_walk (plainFor_of_name (by decide +kernel)) (by decide +kernel) (by decide +kernel) (by decide) (fun _ _ h => by rw [h.1]; rfl) (fun _ U U' hal hh h => ⟨h.1, h.2.1.mv hal hh, h.2.2⟩) (fun r U U' V V' h1 hal h2 h => ⟨NewArr.mv r U U' V V' h1 hal h2 h.1, by rw [h1, h2]; exact h.2⟩) ?_
  intro p e s m args below meth c s₁ X0 hexec hbytes hml hret hlk hnm hown hh0 W hP
  obtain ⟨rfl, hA, l1, l2, hp⟩ := hP
  have a31 := hA.1.2.2.2
  have c1 : Steps p.tables e below (s₁.setTop (entryFrame m #[.ref b, .int (Int32.ofNat o), .int (Int32.ofNat len)] 6)) (s₁.setTop (mkF m 0 #[.val (.ref b), .val (.int (Int32.ofNat o)), .val (.int (Int32.ofNat len)), .unset, .unset, .unset] [])) := entry rfl
  have c2 : Steps p.tables e below (s₁.setTop (entryFrame m #[.ref b, .int (Int32.ofNat o), .int (Int32.ofNat len)] 6)) (s₁.setTop (mkF m 1 #[.val (.ref b), .val (.int (Int32.ofNat o)), .val (.int (Int32.ofNat len)), .unset, .unset, .unset] [.int (Int32.ofNat len)])) := c1.trans (by
    refine XS.iloadN X0.here hexec rfl (hb hbytes d0) rfl ?_
    exact Steps.refl _)
  obtain ⟨T3, B3, X3, ba3, bs3, bv3, bh3, bf3, st3⟩ := X0.anew hexec (atype := .byte) (wk W (.arrayClass .byte)) rfl (by show len * 1 ≤ _; omega) (by omega) (g := (mkF m 1 #[.val (.ref b), .val (.int (Int32.ofNat o)), .val (.int (Int32.ofNat len)), .unset, .unset, .unset] [.int (Int32.ofNat len)])) rfl (hb hbytes d1) (rest := []) rfl (Nat.le_refl _) (by show 0 + len ≤ len; omega)
  rw [hh0] at ba3 st3
  have kp3 : XT.Kept s T3 := (XT.Kept.of_eq hh0).push bh3
  have hA3 := hA.keep X3.warmed.alike (kp3 _ _ hA.1.1)
  have hne : b ≠ s.heap.size := hA.1.ne
  have c4 : Steps p.tables e below (s₁.setTop (entryFrame m #[.ref b, .int (Int32.ofNat o), .int (Int32.ofNat len)] 6)) (T3.setTop (mkF m 3 #[.val (.ref b), .val (.int (Int32.ofNat o)), .val (.int (Int32.ofNat len)), .unset, .unset, .unset] [.ref s.heap.size])) := c2.trans (st3 _ (Steps.refl _))
  have c5 : Steps p.tables e below (s₁.setTop (entryFrame m #[.ref b, .int (Int32.ofNat o), .int (Int32.ofNat len)] 6)) (T3.setTop (mkF m 9 #[.val (.ref b), .val (.int (Int32.ofNat o)), .val (.int (Int32.ofNat len)), .val (.ref s.heap.size), .unset, .unset] [.int (Int32.ofNat len), .int 0, .ref s.heap.size, .int (Int32.ofNat o), .ref b])) := c4.trans (by
    refine XS.astoreN X3.here hexec rfl (hb hbytes d3) rfl rfl rfl ?_
    refine XS.aloadN X3.here hexec rfl (hb hbytes d4) rfl rfl ?_
    refine XS.iloadN X3.here hexec rfl (hb hbytes d5) rfl ?_
    refine XS.aloadN X3.here hexec rfl (hb hbytes d6) rfl rfl ?_
    refine iconstV X3.here hexec rfl 0 (hb hbytes d7) (by decide) ?_
    refine XS.iloadN X3.here hexec rfl (hb hbytes d8) rfl ?_
    exact Steps.refl _)
  obtain ⟨v6, T6, X6, E6, g6⟩ := X3.callS hexec (Cmp5.law l b A s.heap.size B3 o 0 len) hown (wks W (staticW U16 115 Cmp5.yN)) (wk W Cmp5.tab) (W := 0) (Nat.le_of_ble_eq_true rfl) (Nat.le_of_ble_eq_true rfl) (Nat.le_refl _) (by show 0 + len + 0 ≤ len; omega) (g := (mkF m 9 #[.val (.ref b), .val (.int (Int32.ofNat o)), .val (.int (Int32.ofNat len)), .val (.ref s.heap.size), .unset, .unset] [.int (Int32.ofNat len), .int (Int32.ofNat 0), .ref s.heap.size, .int (Int32.ofNat o), .ref b])) rfl (by rw [hml]; rfl) c5 (argsL := [.ref b, .int (Int32.ofNat o), .ref s.heap.size, .int (Int32.ofNat 0), .int (Int32.ofNat len)]) (rest := []) rfl rfl (by show 2 * 0 + 0 ≤ _; decide) (hb hbytes d9) (⟨rfl, hA3, ba3, hne, l1, by rw [bs3]; simp, hp⟩)
  obtain ⟨rfl, B6, p6, f6⟩ := E6
  have c7 : Steps p.tables e below (s₁.setTop (entryFrame m #[.ref b, .int (Int32.ofNat o), .int (Int32.ofNat len)] 6)) (T6.setTop (mkF m 12 #[.val (.ref b), .val (.int (Int32.ofNat o)), .val (.int (Int32.ofNat len)), .val (.ref s.heap.size), .unset, .unset] [.int (Int32.ofNat len)])) := g6
  have c8 : Steps p.tables e below (s₁.setTop (entryFrame m #[.ref b, .int (Int32.ofNat o), .int (Int32.ofNat len)] 6)) (T6.setTop (mkF m 58 #[.val (.ref b), .val (.int (Int32.ofNat o)), .val (.int (Int32.ofNat len)), .val (.ref s.heap.size), .val (.int (Int32.ofNat len)), .unset] [.ref s.heap.size])) := c7.trans (by
    refine XS.istore X6.here hexec rfl (hb hbytes d12) rfl rfl ?_
    refine XS.iload X6.here hexec rfl (hb hbytes d14) rfl ?_
    refine XS.iloadN X6.here hexec rfl (hb hbytes d16) rfl ?_
    refine XS.icmpYes X6.here hexec rfl (pc0 := 17) rfl (hb hbytes d17) rfl (ii_eq_t rfl) (by decide) rfl ?_
    refine XS.aloadN X6.here hexec rfl (hb hbytes d57) rfl rfl ?_
    exact Steps.refl _)
  have X8 := X6.wide (L' := []) (cells' := 1) (slots' := len) (fun x hx hlt => by
    simp only [List.nil_append, copyLocs, List.mem_map, List.mem_range] at hx
    obtain ⟨i, -, rfl⟩ := hx
    exact absurd hlt (Nat.lt_irrefl _)) (Nat.le_refl _) (by omega)
  exact ⟨T6, some (.ref s.heap.size), _, _, _, X8, rfl, rfl, rfl, (fun h => by cases h), ⟨⟨rfl, B6, ba3.like (X3.warmed.alike.symm.trans X6.warmed.alike) p6.1 f6.1 f6.2.1 f6.2.2.1, f6.2.1.trans bv3, by rw [X6.warmed.alike.findClass, f6.1]; exact bf3, by rw [f6.2.2.1, bs3]; simp, fun j hj => by rw [f6.2.2.2 j, if_pos (by omega)]; rfl, kp3.put p6 (Nat.le_refl _)⟩, by rw [p6.2.2, bh3, hh0]; simp⟩, fun fs hl => c8.trans (X8.areturnOut hexec rfl hret rfl (hb hbytes d58) hl)⟩
end Cmp3
namespace CodL
def yN : MethodName := ⟨"java/lang/StringUTF16", "coderFromArrayLen", "([BI)B"⟩
abbrev yB : ByteArray := jdk_52_method_15_code
theorem d0 : decode yB 0 = .ok (.iload_n 1, 1) := by decide +kernel
theorem d1 : decode yB 1 = .ok (.aload_n 0, 1) := by decide +kernel
theorem d2 : decode yB 2 = .ok (.arraylength, 1) := by decide +kernel
theorem d3 : decode yB 3 = .ok (.isub, 1) := by decide +kernel
theorem d4 : decode yB 4 = .ok (.bipush 31, 2) := by decide +kernel
theorem d6 : decode yB 6 = .ok (.iushr, 1) := by decide +kernel
theorem d7 : decode yB 7 = .ok (.i2b, 1) := by decide +kernel
theorem d8 : decode yB 8 = .ok (.ireturn, 1) := by decide +kernel
def site : List Cond := []
def tab : Cond := tabOf yN yB 2 (some .byte) site
def P (d : Addr) (B : Cell) (args : Array Value) (s : State) : Prop := args = #[.ref d, .int (Int32.ofNat B.slots.size)] ∧ Arr .byte d B s
def E (r : Option Value) (s u : State) : Prop := XT.PureE (some (.int 0)) r s u
/-- an array as long as the number of chars: LATIN1 -/
theorem law (l : Launch) (d : Addr) (B : Cell) : Law l yN 2 2 0 0 yB 2 (some .byte) site (P d B) E [] 0 0 := by
  refine Law.of_walk (plainFor_of_name (by decide +kernel)) (by decide +kernel) (by decide +kernel) (by decide) (fun _ _ h => by rw [h.1]; rfl) (fun _ U U' hal hh h => ⟨h.1, h.2.mv hal hh⟩) (fun r U U' V V' h1 hal h2 h => XT.PureE.mv r U U' V V' h1 hal h2 h) ?_
  intro p e s m args below meth c s₁ X0 hexec hbytes hml hret hlk hnm hown hh0 W hP
  obtain ⟨rfl, hB⟩ := hP
  have hB0 := hB.mv X0.warmed.alike hh0
  have c1 : Steps p.tables e below (s₁.setTop (entryFrame m #[.ref d, .int (Int32.ofNat B.slots.size)] 2)) (s₁.setTop (mkF m 0 #[.val (.ref d), .val (.int (Int32.ofNat B.slots.size))] [])) := entry rfl
  have c2 : Steps p.tables e below (s₁.setTop (entryFrame m #[.ref d, .int (Int32.ofNat B.slots.size)] 2)) (s₁.setTop (mkF m 2 #[.val (.ref d), .val (.int (Int32.ofNat B.slots.size))] [.ref d, .int (Int32.ofNat B.slots.size)])) := c1.trans (by
    refine XS.iloadN X0.here hexec rfl (hb hbytes d0) rfl ?_
    refine XS.aloadN X0.here hexec rfl (hb hbytes d1) rfl rfl ?_
    exact Steps.refl _)
  have c3 : Steps p.tables e below (s₁.setTop (entryFrame m #[.ref d, .int (Int32.ofNat B.slots.size)] 2)) (s₁.setTop (mkF m 8 #[.val (.ref d), .val (.int (Int32.ofNat B.slots.size))] [.int (lo8 (ushr (Int32.ofNat B.slots.size - Int32.ofNat B.slots.size) 31))])) := c2.trans (by
    refine X0.alen hexec hB0 rfl rfl (hb hbytes d2) ?_
    refine XS.isub X0.here hexec rfl (hb hbytes d3) rfl ?_
    refine bipushV X0.here hexec rfl 31 (hb hbytes d4) (by decide) ?_
    refine iushr X0.here hexec rfl (hb hbytes d6) rfl ?_
    refine i2b X0.here hexec rfl (hb hbytes d7) rfl ?_
    exact Steps.refl _)
  have e0 : lo8 (ushr (Int32.ofNat B.slots.size - Int32.ofNat B.slots.size) 31) = 0 := by rw [Int32.sub_self]; decide
  rw [e0] at c3
  exact ⟨s₁, some (.int 0), _, _, _, X0, rfl, rfl, rfl, (fun h => by cases h), ⟨rfl, hh0⟩, fun fs hl => c3.trans (X0.ireturnOut hexec hret rfl (Or.inr (Or.inr (Or.inl rfl))) (hb hbytes d8) hl)⟩
end CodL
/-- the String at a is Latin-1 over a new byte[] (the heap's one new cell): the low bytes of the len chars of A from o on; every cell but a is kept -/
def Got (a : Addr) (D : Cell) (fV fC : Field) (A : Cell) (o len : Nat) (r : Option Value) (s u : State) : Prop := r = none ∧ ∃ D' V : Cell, Blank "java/lang/String" a D' u ∧ Same D D' [fV.slot, fC.slot] ∧ D'.slots[fV.slot]? = some (.ref s.heap.size) ∧ D'.slots[fC.slot]? = some (.int 0) ∧ Arr .byte s.heap.size V u ∧ V.vm = .none ∧ u.vm.findClass "[B" = some V.cls ∧ V.slots.size = len ∧ (∀ j, j < len → V.slots[j]? = some (.int (lo8 (cv A (o + j))))) ∧ (∀ (y : Addr) (c : Cell), y ≠ a → s.heap[y]? = some c → u.heap[y]? = some c) ∧ u.heap.size = s.heap.size + 1
theorem Got.mv {a : Addr} {D A : Cell} {fV fC : Field} {o len : Nat} : ∀ r (U U' V V' : State), U'.heap = U.heap → V.vm.Alike V'.vm → V'.heap = V.heap → Got a D fV fC A o len r U V → Got a D fV fC A o len r U' V' :=
  fun r U U' V V' h1 hal h2 ⟨e0, D', X, a1, a2, a3, a4, a5, a6, a7, a8, a9, a10, a11⟩ => ⟨e0, D', X, a1.mv hal h2, a2, by rw [h1]; exact a3, a4, by rw [h1]; exact a5.mv hal h2, a6, by rw [hal.findClass]; exact a7, a8, a9, by rw [h1, h2]; exact a10, by rw [h1, h2]; exact a11⟩
namespace New4
def yN : MethodName := ⟨"java/lang/String", "<init>", "([CIILjava/lang/Void;)V"⟩
abbrev yB : ByteArray := jdk_42_method_149_code
theorem d0 : decode yB 0 = .ok (.aload_n 0, 1) := by decide +kernel
theorem d1 : decode yB 1 = .ok (.invokespecial 1, 3) := by decide +kernel
theorem d4 : decode yB 4 = .ok (.iload_n 3, 1) := by decide +kernel
theorem d5 : decode yB 5 = .ok (.ifCond (.ne) 22, 3) := by decide +kernel
theorem d27 : decode yB 27 = .ok (.getstatic 38, 3) := by decide +kernel
theorem d30 : decode yB 30 = .ok (.ifCond (.eq) 28, 3) := by decide +kernel
theorem d33 : decode yB 33 = .ok (.aload_n 1, 1) := by decide +kernel
theorem d34 : decode yB 34 = .ok (.iload_n 2, 1) := by decide +kernel
theorem d35 : decode yB 35 = .ok (.iload_n 3, 1) := by decide +kernel
theorem d36 : decode yB 36 = .ok (.invokestatic 177, 3) := by decide +kernel
theorem d39 : decode yB 39 = .ok (.astore 5, 2) := by decide +kernel
theorem d41 : decode yB 41 = .ok (.aload_n 0, 1) := by decide +kernel
theorem d42 : decode yB 42 = .ok (.aload 5, 2) := by decide +kernel
theorem d44 : decode yB 44 = .ok (.iload_n 3, 1) := by decide +kernel
theorem d45 : decode yB 45 = .ok (.invokestatic 47, 3) := by decide +kernel
theorem d48 : decode yB 48 = .ok (.putfield 15, 3) := by decide +kernel
theorem d51 : decode yB 51 = .ok (.aload_n 0, 1) := by decide +kernel
theorem d52 : decode yB 52 = .ok (.aload 5, 2) := by decide +kernel
theorem d54 : decode yB 54 = .ok (.putfield 9, 3) := by decide +kernel
theorem d57 : decode yB 57 = .ok (.return_, 1) := by decide +kernel
def site : List Cond := [.fieldLink "java/lang/String" 38 "java/lang/String" "COMPACT_STRINGS" "Z", Cmp3.tab, CodL.tab, .laysFinal "java/lang/String" "java/lang/String" "value" "[B", .fieldLink "java/lang/String" 9 "java/lang/String" "value" "[B", .laysFinal "java/lang/String" "java/lang/String" "coder" "B", .fieldLink "java/lang/String" 15 "java/lang/String" "coder" "B"] ++ objW "java/lang/String" 1 ++ staticW "java/lang/String" 177 Cmp3.yN ++ staticW "java/lang/String" 47 CodL.yN
def tab : Cond := tabOf yN yB 6 none site
def P (a : Addr) (D : Cell) (fV fC : Field) (b : Addr) (A : Cell) (z : Int32) (o len : Nat) (args : Array Value) (s : State) : Prop := args = #[.ref a, .ref b, .int (Int32.ofNat o), .int (Int32.ofNat len), .null] ∧ Blank "java/lang/String" a D s ∧ Found "java/lang/String" "value" "[B" fV s ∧ Found "java/lang/String" "coder" "B" fC s ∧ Ch b A s ∧ StaticIs s "java/lang/String" "COMPACT_STRINGS" "Z" (.int z) ∧ ¬ z = 0 ∧ 0 < len ∧ o + len ≤ A.slots.size ∧ len ≤ 536870912 ∧ ∀ i, i < len → ¬ 255 < cv A (o + i)
def E (a : Addr) (D : Cell) (fV fC : Field) (A : Cell) (o len : Nat) (r : Option Value) (s u : State) : Prop := Got a D fV fC A o len r s u
/-- len > 0, no char of the range above 255: a Latin-1 String of their low bytes -/
theorem law (l : Launch) (a : Addr) (D : Cell) (fV fC : Field) (b : Addr) (A : Cell) (z : Int32) (o len : Nat) : Law l yN 5 4 2 35 yB 6 none site (P a D fV fC b A z o len) (E a D fV fC A o len) [⟨a, fC.slot⟩, ⟨a, fV.slot⟩] 1 len := by
  refine Law.of_walk (plainFor_of_name (by decide +kernel)) (by decide +kernel) (by decide +kernel) (by decide) (fun _ _ h => by rw [h.1]; rfl) (fun _ U U' hal hh h => ⟨h.1, h.2.1.mv hal hh, h.2.2.1.al hal, h.2.2.2.1.al hal, h.2.2.2.2.1.mv hal hh, h.2.2.2.2.2.1.there hal hh, h.2.2.2.2.2.2⟩) (fun r U U' V V' h1 hal h2 h => Got.mv r U U' V V' h1 hal h2 h) ?_
  intro p e s m args below meth c s₁ X0 hexec hbytes hml hret hlk hnm hown hh0 W hP
  obtain ⟨rfl, hB, f1, f2, hA, s1, hz, l0, l1, l2, hp⟩ := hP
  have a31 := hA.1.2.2.2
  have c1 : Steps p.tables e below (s₁.setTop (entryFrame m #[.ref a, .ref b, .int (Int32.ofNat o), .int (Int32.ofNat len), .null] 6)) (s₁.setTop (mkF m 0 #[.val (.ref a), .val (.ref b), .val (.int (Int32.ofNat o)), .val (.int (Int32.ofNat len)), .val .null, .unset] [])) := entry rfl
  have c2 : Steps p.tables e below (s₁.setTop (entryFrame m #[.ref a, .ref b, .int (Int32.ofNat o), .int (Int32.ofNat len), .null] 6)) (s₁.setTop (mkF m 1 #[.val (.ref a), .val (.ref b), .val (.int (Int32.ofNat o)), .val (.int (Int32.ofNat len)), .val .null, .unset] [.ref a])) := c1.trans (by
    refine XS.aloadN X0.here hexec rfl (hb hbytes d0) rfl rfl ?_
    exact Steps.refl _)
  obtain ⟨T3, X3, q3, st3⟩ := X0.oinit hexec hown (wks W (objW "java/lang/String" 1)) (g := (mkF m 1 #[.val (.ref a), .val (.ref b), .val (.int (Int32.ofNat o)), .val (.int (Int32.ofNat len)), .val .null, .unset] [.ref a])) rfl (by rw [hml]; rfl) (rest := []) rfl (hb hbytes d1) (W := 0) (by show 2 * 0 + 0 ≤ _; decide) (Nat.le_of_ble_eq_true rfl) (Nat.le_of_ble_eq_true rfl)
  have hh3 := q3.trans hh0
  have c4 : Steps p.tables e below (s₁.setTop (entryFrame m #[.ref a, .ref b, .int (Int32.ofNat o), .int (Int32.ofNat len), .null] 6)) (T3.setTop (mkF m 27 #[.val (.ref a), .val (.ref b), .val (.int (Int32.ofNat o)), .val (.int (Int32.ofNat len)), .val .null, .unset] [])) := (c2.trans (st3 _ (Steps.refl _))).trans (by
    refine XS.iloadN X3.here hexec rfl (hb hbytes d4) rfl ?_
    refine XS.ifYes X3.here hexec rfl (pc0 := 5) rfl (hb hbytes d5) rfl (i0_ne_t (nz32 (by omega) l0)) (by decide) rfl ?_
    exact Steps.refl _)
  obtain ⟨T5, X5, q5, st5⟩ := X3.sget hexec hown (wk W (.fieldLink "java/lang/String" 38 "java/lang/String" "COMPACT_STRINGS" "Z")) s1 (fun _ _ h => by rw [hh3]; exact h) (g := (mkF m 27 #[.val (.ref a), .val (.ref b), .val (.int (Int32.ofNat o)), .val (.int (Int32.ofNat len)), .val .null, .unset] [])) rfl (hb hbytes d27)
  have hh5 := q5.trans hh3
  have c6 : Steps p.tables e below (s₁.setTop (entryFrame m #[.ref a, .ref b, .int (Int32.ofNat o), .int (Int32.ofNat len), .null] 6)) (T5.setTop (mkF m 30 #[.val (.ref a), .val (.ref b), .val (.int (Int32.ofNat o)), .val (.int (Int32.ofNat len)), .val .null, .unset] [.int z])) := c4.trans (st5 _ (Steps.refl _))
  have c7 : Steps p.tables e below (s₁.setTop (entryFrame m #[.ref a, .ref b, .int (Int32.ofNat o), .int (Int32.ofNat len), .null] 6)) (T5.setTop (mkF m 36 #[.val (.ref a), .val (.ref b), .val (.int (Int32.ofNat o)), .val (.int (Int32.ofNat len)), .val .null, .unset] [.int (Int32.ofNat len), .int (Int32.ofNat o), .ref b])) := c6.trans (by
    refine XS.ifNo X5.here hexec rfl (hb hbytes d30) rfl (i0_eq_f hz) ?_
    refine XS.aloadN X5.here hexec rfl (hb hbytes d33) rfl rfl ?_
    refine XS.iloadN X5.here hexec rfl (hb hbytes d34) rfl ?_
    refine XS.iloadN X5.here hexec rfl (hb hbytes d35) rfl ?_
    exact Steps.refl _)
  obtain ⟨v8, T8, X8, E8, g8⟩ := X5.callS hexec (Cmp3.law l b A o len) hown (wks W (staticW "java/lang/String" 177 Cmp3.yN)) (wk W Cmp3.tab) (W := 0) (Nat.le_of_ble_eq_true rfl) (Nat.le_of_ble_eq_true rfl) (Nat.le_refl _) (by show 0 + len ≤ len; omega) (g := (mkF m 36 #[.val (.ref a), .val (.ref b), .val (.int (Int32.ofNat o)), .val (.int (Int32.ofNat len)), .val .null, .unset] [.int (Int32.ofNat len), .int (Int32.ofNat o), .ref b])) rfl (by rw [hml]; rfl) c7 (argsL := [.ref b, .int (Int32.ofNat o), .int (Int32.ofNat len)]) (rest := []) rfl rfl (by show 2 * 0 + 0 ≤ _; decide) (hb hbytes d36) (⟨rfl, hA.mv X5.warmed.alike hh5, l1, l2, hp⟩)
  obtain ⟨e8, z8⟩ := E8
  obtain ⟨rfl, N, n1, n2, n3, n4, n5, n6⟩ := NewArr.mv _ T5 s _ _ hh5.symm (Vm.Alike.refl _) rfl e8
  rw [hh5] at z8
  have hB1 := hB.keep X8.warmed.alike (n6 _ _ hB.1)
  have hne : s.heap.size ≠ a := (Nat.ne_of_lt (Array.getElem?_eq_some_iff.mp hB.1).1).symm
  have c9 : Steps p.tables e below (s₁.setTop (entryFrame m #[.ref a, .ref b, .int (Int32.ofNat o), .int (Int32.ofNat len), .null] 6)) (T8.setTop (mkF m 39 #[.val (.ref a), .val (.ref b), .val (.int (Int32.ofNat o)), .val (.int (Int32.ofNat len)), .val .null, .unset] [.ref s.heap.size])) := g8
  have c10 : Steps p.tables e below (s₁.setTop (entryFrame m #[.ref a, .ref b, .int (Int32.ofNat o), .int (Int32.ofNat len), .null] 6)) (T8.setTop (mkF m 45 #[.val (.ref a), .val (.ref b), .val (.int (Int32.ofNat o)), .val (.int (Int32.ofNat len)), .val .null, .val (.ref s.heap.size)] [.int (Int32.ofNat N.slots.size), .ref s.heap.size, .ref a])) := by
    have hc : Steps p.tables e below (s₁.setTop (entryFrame m #[.ref a, .ref b, .int (Int32.ofNat o), .int (Int32.ofNat len), .null] 6)) (T8.setTop (mkF m 45 #[.val (.ref a), .val (.ref b), .val (.int (Int32.ofNat o)), .val (.int (Int32.ofNat len)), .val .null, .val (.ref s.heap.size)] [.int (Int32.ofNat len), .ref s.heap.size, .ref a])) := c9.trans (by
      refine XS.astore X8.here hexec rfl (hb hbytes d39) rfl rfl rfl ?_
      refine XS.aloadN X8.here hexec rfl (hb hbytes d41) rfl rfl ?_
      refine XS.aload X8.here hexec rfl (hb hbytes d42) rfl rfl ?_
      refine XS.iloadN X8.here hexec rfl (hb hbytes d44) rfl ?_
      exact Steps.refl _)
    rw [n4]; exact hc
  obtain ⟨v11, T11, X11, E11, g11⟩ := X8.callS hexec (CodL.law l s.heap.size N) hown (wks W (staticW "java/lang/String" 47 CodL.yN)) (wk W CodL.tab) (W := 1) (Nat.le_of_ble_eq_true rfl) (Nat.le_of_ble_eq_true rfl) (Nat.le_refl _) (by show 0 + len + 0 ≤ len; omega) (g := (mkF m 45 #[.val (.ref a), .val (.ref b), .val (.int (Int32.ofNat o)), .val (.int (Int32.ofNat len)), .val .null, .val (.ref s.heap.size)] [.int (Int32.ofNat N.slots.size), .ref s.heap.size, .ref a])) rfl (by rw [hml]; rfl) c10 (argsL := [.ref s.heap.size, .int (Int32.ofNat N.slots.size)]) (rest := [.ref a]) rfl rfl (by show 2 * 0 + (1 + 0) ≤ _; decide) (hb hbytes d45) (⟨rfl, n1⟩)
  obtain ⟨rfl, q11⟩ := E11
  have hB11 := hB1.mv (X8.warmed.alike.symm.trans X11.warmed.alike) q11
  have c12 : Steps p.tables e below (s₁.setTop (entryFrame m #[.ref a, .ref b, .int (Int32.ofNat o), .int (Int32.ofNat len), .null] 6)) (T11.setTop (mkF m 48 #[.val (.ref a), .val (.ref b), .val (.int (Int32.ofNat o)), .val (.int (Int32.ofNat len)), .val .null, .val (.ref s.heap.size)] [.int 0, .ref a])) := g11
  obtain ⟨T13, X13, p13, bl13, sl13, st13⟩ := X11.finit hexec hown (wk W (.fieldLink "java/lang/String" 15 "java/lang/String" "coder" "B")) (Or.inr ⟨_, (wk W (.laysFinal "java/lang/String" "java/lang/String" "coder" "B"))⟩) (Or.inl ⟨rfl, hnm⟩) f2 (Or.inl rfl) hB11 (t := .byte) (by decide +kernel) rfl (g := (mkF m 48 #[.val (.ref a), .val (.ref b), .val (.int (Int32.ofNat o)), .val (.int (Int32.ofNat len)), .val .null, .val (.ref s.heap.size)] [.int 0, .ref a])) rfl (rest := []) rfl (hb hbytes d48)
  have c14 : Steps p.tables e below (s₁.setTop (entryFrame m #[.ref a, .ref b, .int (Int32.ofNat o), .int (Int32.ofNat len), .null] 6)) (T13.setTop (mkF m 54 #[.val (.ref a), .val (.ref b), .val (.int (Int32.ofNat o)), .val (.int (Int32.ofNat len)), .val .null, .val (.ref s.heap.size)] [.ref s.heap.size, .ref a])) := (c12.trans (st13 _ (Steps.refl _))).trans (by
    refine XS.aloadN X13.here hexec rfl (hb hbytes d51) rfl rfl ?_
    refine XS.aload X13.here hexec rfl (hb hbytes d52) rfl rfl ?_
    exact Steps.refl _)
  obtain ⟨T15, X15, p15, bl15, sl15, st15⟩ := X13.finit hexec hown (wk W (.fieldLink "java/lang/String" 9 "java/lang/String" "value" "[B")) (Or.inr ⟨_, (wk W (.laysFinal "java/lang/String" "java/lang/String" "value" "[B"))⟩) (Or.inl ⟨rfl, hnm⟩) f1 (Or.inl rfl) bl13 (t := (.array .byte)) (by decide +kernel) rfl (g := (mkF m 54 #[.val (.ref a), .val (.ref b), .val (.int (Int32.ofNat o)), .val (.int (Int32.ofNat len)), .val .null, .val (.ref s.heap.size)] [.ref s.heap.size, .ref a])) rfl (rest := []) rfl (hb hbytes d54)
  have c16 : Steps p.tables e below (s₁.setTop (entryFrame m #[.ref a, .ref b, .int (Int32.ofNat o), .int (Int32.ofNat len), .null] 6)) (T15.setTop (mkF m 57 #[.val (.ref a), .val (.ref b), .val (.int (Int32.ofNat o)), .val (.int (Int32.ofNat len)), .val .null, .val (.ref s.heap.size)] [])) := c14.trans (st15 _ (Steps.refl _))
  have ap := apart (Or.inr ⟨_, (wk W (.laysFinal "java/lang/String" "java/lang/String" "value" "[B"))⟩) (Or.inr ⟨_, (wk W (.laysFinal "java/lang/String" "java/lang/String" "coder" "B"))⟩) f1 f2 (t₁ := .array .byte) (t₂ := .byte) (by decide +kernel) (by decide +kernel) (by decide)
  have al := X8.warmed.alike.symm.trans X15.warmed.alike
  have n7 : T11.heap[s.heap.size]? = some N := by rw [q11]; exact n1.1
  exact ⟨T15, none, _, _, _, X15, by simp, rfl, by omega, (fun _ => rfl), ⟨rfl, _, N, bl15, ((Same.refl D _).set _ (by simp)).set _ (by simp), sl15, (Cell.slots_setSlot_ne _ ap).trans sl13, n1.keep al (p15.other hne (p13.other hne n7)), n2, by rw [al.findClass]; exact n3, n4, n5, fun y c h1 h2 => p15.other h1 (p13.other h1 (by rw [q11]; exact n6 y c h2)), by rw [p15.2.2, p13.2.2, q11]; exact z8⟩, fun fs hl => c16.trans (X15.returnOut hexec hret (hb hbytes d57) hl)⟩
end New4
namespace New1
def yN : MethodName := ⟨"java/lang/String", "<init>", "([C)V"⟩
abbrev yB : ByteArray := jdk_42_method_3_code
theorem d0 : decode yB 0 = .ok (.aload_n 0, 1) := by decide +kernel
theorem d1 : decode yB 1 = .ok (.aload_n 1, 1) := by decide +kernel
theorem d2 : decode yB 2 = .ok (.iconst 0, 1) := by decide +kernel
theorem d3 : decode yB 3 = .ok (.aload_n 1, 1) := by decide +kernel
theorem d4 : decode yB 4 = .ok (.arraylength, 1) := by decide +kernel
theorem d5 : decode yB 5 = .ok (.aconst_null, 1) := by decide +kernel
theorem d6 : decode yB 6 = .ok (.invokespecial 27, 3) := by decide +kernel
theorem d9 : decode yB 9 = .ok (.return_, 1) := by decide +kernel
def site : List Cond := [New4.tab] ++ initW "java/lang/String" 27 New4.yN
def tab : Cond := tabOf yN yB 2 none site
def P (a : Addr) (D : Cell) (fV fC : Field) (b : Addr) (A : Cell) (z : Int32) (args : Array Value) (s : State) : Prop := args = #[.ref a, .ref b] ∧ Blank "java/lang/String" a D s ∧ Found "java/lang/String" "value" "[B" fV s ∧ Found "java/lang/String" "coder" "B" fC s ∧ Ch b A s ∧ StaticIs s "java/lang/String" "COMPACT_STRINGS" "Z" (.int z) ∧ ¬ z = 0 ∧ 0 < A.slots.size ∧ A.slots.size ≤ 536870912 ∧ ∀ i, i < A.slots.size → ¬ 255 < cv A i
def E (a : Addr) (D : Cell) (fV fC : Field) (A : Cell) (r : Option Value) (s u : State) : Prop := Got a D fV fC A 0 A.slots.size r s u
/-- new String(chars), not empty, no char above 255: a Latin-1 String of their low bytes -/
theorem law (l : Launch) (a : Addr) (D : Cell) (fV fC : Field) (b : Addr) (A : Cell) (z : Int32) : Law l yN 2 1 3 52 yB 2 none site (P a D fV fC b A z) (E a D fV fC A) [⟨a, fC.slot⟩, ⟨a, fV.slot⟩] 1 A.slots.size := by
  refine Law.of_walk (plainFor_of_name (by decide +kernel)) (by decide +kernel) (by decide +kernel) (by decide) (fun _ _ h => by rw [h.1]; rfl) (fun _ U U' hal hh h => ⟨h.1, h.2.1.mv hal hh, h.2.2.1.al hal, h.2.2.2.1.al hal, h.2.2.2.2.1.mv hal hh, h.2.2.2.2.2.1.there hal hh, h.2.2.2.2.2.2⟩) (fun r U U' V V' h1 hal h2 h => Got.mv r U U' V V' h1 hal h2 h) ?_
  intro p e s m args below meth c s₁ X0 hexec hbytes hml hret hlk hnm hown hh0 W hP
  obtain ⟨rfl, hB, f1, f2, hA, s1, hz, l0, l2, hp⟩ := hP
  have c1 : Steps p.tables e below (s₁.setTop (entryFrame m #[.ref a, .ref b] 2)) (s₁.setTop (mkF m 0 #[.val (.ref a), .val (.ref b)] [])) := entry rfl
  have c2 : Steps p.tables e below (s₁.setTop (entryFrame m #[.ref a, .ref b] 2)) (s₁.setTop (mkF m 6 #[.val (.ref a), .val (.ref b)] [.null, .int (Int32.ofNat A.slots.size), .int 0, .ref b, .ref a])) := c1.trans (by
    refine XS.aloadN X0.here hexec rfl (hb hbytes d0) rfl rfl ?_
    refine XS.aloadN X0.here hexec rfl (hb hbytes d1) rfl rfl ?_
    refine iconstV X0.here hexec rfl 0 (hb hbytes d2) (by decide) ?_
    refine XS.aloadN X0.here hexec rfl (hb hbytes d3) rfl rfl ?_
    refine X0.alen hexec (hA.1.mv X0.warmed.alike hh0) rfl rfl (hb hbytes d4) ?_
    refine XS.aconstNull X0.here hexec rfl (hb hbytes d5) ?_
    exact Steps.refl _)
  obtain ⟨v3, T3, X3, E3, g3⟩ := X0.callN hexec (New4.law l a D fV fC b A z 0 A.slots.size) rfl hown (wks W (initW "java/lang/String" 27 New4.yN)) (W New4.tab (by simp only [site, List.mem_cons, List.mem_append, true_or, or_true])) (W := 0) (Nat.le_of_ble_eq_true rfl) (Nat.le_of_ble_eq_true rfl) (Nat.le_refl _) (by show 0 + A.slots.size ≤ A.slots.size; omega) (g := (mkF m 6 #[.val (.ref a), .val (.ref b)] [.null, .int (Int32.ofNat A.slots.size), .int (Int32.ofNat 0), .ref b, .ref a])) rfl (by rw [hml]; rfl) c2 (argsL := [.ref b, .int (Int32.ofNat 0), .int (Int32.ofNat A.slots.size), .null]) (rest := []) rfl rfl (by show 2 * 0 + 0 ≤ _; decide) (hb hbytes d6) (⟨rfl, hB.mv X0.warmed.alike hh0, f1.al X0.warmed.alike, f2.al X0.warmed.alike, hA.mv X0.warmed.alike hh0, s1.there X0.warmed.alike hh0, hz, l0, by omega, l2, fun i hi => by rw [Nat.zero_add]; exact hp i hi⟩)
  have e0 := Got.mv _ s₁ s _ _ hh0.symm (Vm.Alike.refl _) rfl E3
  obtain rfl := e0.1
  have c4 : Steps p.tables e below (s₁.setTop (entryFrame m #[.ref a, .ref b] 2)) (T3.setTop (mkF m 9 #[.val (.ref a), .val (.ref b)] [])) := g3
  exact ⟨T3, none, _, _, _, X3, by simp, rfl, by omega, (fun _ => rfl), e0, fun fs hl => c4.trans (X3.returnOut hexec hret (hb hbytes d9) hl)⟩
theorem pays {l : Launch} {R : Room} {p : Program} {e : Env} {below : List Frame} {s : State} {sargs : Array Value} {len W : Nat} (a : Addr) (D : Cell) (fV fC : Field) (b : Addr) (A : Cell) (z : Int32) (htab : tab.before sargs s = true) (hfr : 4 ≤ R.frames) (hlo : W + 65 ≤ R.locals) :
    Back l R p e below s sargs yN len W (fun A₁ a₁ => A₁.cells + 1 ≤ R.cells ∧ A₁.slots + A.slots.size ≤ R.slots ∧ P a D fV fC b A z a₁ A₁.U) (fun A₁ _ v₁ B₁ => E a D fV fC A v₁ A₁.U B₁.U ∧ B₁.locs = A₁.locs ++ [⟨a, fC.slot⟩, ⟨a, fV.slot⟩] ∧ B₁.cells = A₁.cells + 1 ∧ B₁.slots = A₁.slots + A.slots.size) :=
  (law l a D fV fC b A z).pays htab hfr (by omega)
end New1
/-- the byte, read back as charAt reads it, is the char -/
theorem lo8_mask {x : Int32} (h0 : ¬ x < 0) (h1 : ¬ 255 < x) : lo8 x &&& 255 = x := by
  have t : ∀ k : Fin 256, lo8 (Int32.ofNat k.val) &&& 255 = Int32.ofNat k.val := by decide +kernel
  rw [Int32.lt_iff_toInt_lt] at h0 h1
  have e0 : (0 : Int32).toInt = 0 := rfl
  have e1 : (255 : Int32).toInt = 255 := rfl
  obtain ⟨k, hk⟩ : ∃ k : Nat, x.toInt = k := ⟨x.toInt.toNat, by omega⟩
  have hx : x = Int32.ofNat k := Int32.toInt_inj.mp (by rw [hk, Int32.toInt_ofNat_small (by omega)])
  rw [hx]
  exact t ⟨k, by omega⟩
end StrChars
namespace StrChars.Road
open Jvm Sem ClassFile Op Lib Jvm.Stand Jvm.Free Jvm.Free.XT
open Jvm.Lib.Cold (StaticIs)
abbrev ST : String := "java/lang/String"
/-- every table word that New1's law asks, flat -/
abbrev words : List Jvm.Cond := [.code New1.yN New1.yB 2 none, .initialized ST, .methodLink ST 27 New4.yN, .instanceMethod New4.yN,
  .code New4.yN New4.yB 6 none, .fieldLink ST 38 ST "COMPACT_STRINGS" "Z", .laysFinal ST ST "value" "[B", .fieldLink ST 9 ST "value" "[B", .laysFinal ST ST "coder" "B", .fieldLink ST 15 ST "coder" "B",
  .methodLink ST 1 Lib.objectInit, .instanceMethod Lib.objectInit, .code Lib.objectInit ⟨#[0xb1]⟩ 1 none, .methodLink ST 177 Cmp3.yN, .static Cmp3.yN, .methodLink ST 47 CodL.yN, .static CodL.yN,
  .code Cmp3.yN Cmp3.yB 6 (some (.array .byte)), .initialized U16, .arrayClass .byte, .methodLink U16 115 Cmp5.yN, .static Cmp5.yN, .code Cmp5.yN Cmp5.yB 7 (some .int), .code CodL.yN CodL.yB 2 (some .byte)]
theorem tab_of {a : Array Value} {s : State} (h : ∀ w ∈ words, w.before a s = true) : New1.tab.before a s = true := by
  have h5 : Cmp5.tab.before a s = true := unparts (wk h (.code Cmp5.yN Cmp5.yB 7 (some .int))) (wks h (.initialized Cmp5.yN.cls :: Cmp5.site))
  have hc : CodL.tab.before a s = true := unparts (wk h (.code CodL.yN CodL.yB 2 (some .byte))) (wks h (.initialized CodL.yN.cls :: CodL.site))
  have q5 : ∀ w ∈ Cmp5.tab :: words, w.before a s = true := fun w hw => (List.mem_cons.mp hw).elim (fun e => e ▸ h5) (h w)
  have h3 : Cmp3.tab.before a s = true := unparts (wk q5 (.code Cmp3.yN Cmp3.yB 6 (some (.array .byte)))) (wks q5 (.initialized Cmp3.yN.cls :: Cmp3.site))
  have q3 : ∀ w ∈ Cmp3.tab :: CodL.tab :: words, w.before a s = true := fun w hw => (List.mem_cons.mp hw).elim (fun e => e ▸ h3) fun hw => (List.mem_cons.mp hw).elim (fun e => e ▸ hc) (h w)
  have h4 : New4.tab.before a s = true := unparts (wk q3 (.code New4.yN New4.yB 6 none)) (wks q3 (.initialized New4.yN.cls :: New4.site))
  have q4 : ∀ w ∈ New4.tab :: words, w.before a s = true := fun w hw => (List.mem_cons.mp hw).elim (fun e => e ▸ h4) (h w)
  exact unparts (wk q4 (.code New1.yN New1.yB 2 none)) (wks q4 (.initialized New1.yN.cls :: New1.site))
/-- the words ride from the start Z to the walk's own state -/
theorem moved {Z s : State} {a0 args : Array Value} (hZ : Z.Warmed39 s.vm) (hw : ∀ d ∈ words, d.before a0 Z = true) : ∀ d ∈ words, d.before args s = true := fun d hd => by
  have q := hw d hd
  have t : ∀ d ∈ words, d = .arrayClass .byte ∨ (d.onTables && d.keepsFace) = true := by decide +kernel
  rcases t d hd with rfl | t
  · exact RoadKit.mvA hZ q
  · exact RoadKit.mv hZ q t
/-- WHAT COMES BACK, over the tables of the start Z: h the heap at the call, h' behind it -/
def Q (Z : State) (x : Addr) (A : Cell) (h : Heap) (v : Option Value) (h' : Heap) (L : List Loc) : Prop := v = none ∧ (∀ y ∈ L, y.base = x) ∧ RoadKit.Keep h h' [x] ∧ h'.size = h.size + 1 ∧ RoadKit.Exa Z h' x ST ∧ RoadKit.Fld Z h' x ST "value" "[B" (.ref h.size) ∧ RoadKit.Fld Z h' x ST "coder" "B" (.int 0) ∧
  (∃ V : Cell, RoadKit.Arr Z h' h.size V .byte ∧ V.vm = .none ∧ Z.vm.findClass "[B" = some V.cls ∧ V.slots.size = A.slots.size ∧ ∀ j, j < A.slots.size → V.slots[j]? = some (.int (lo8 (cv A j)))) ∧
  ∀ (O n d : String) (w : Value), RoadKit.Fld Z h x O n d w → RoadKit.slotOf Z O n d ≠ RoadKit.slotOf Z ST "value" "[B" → RoadKit.slotOf Z O n d ≠ RoadKit.slotOf Z ST "coder" "B" → RoadKit.Fld Z h' x O n d w
/-- **new String(chars) AT A CALL, IN THE ROAD'S FORM**: for specialBack behind newO: x the fresh String, b the char[] with the cell A -/
theorem back {p : Program} {l : Launch} {e : Env} {R : Room} {s : State} {args : Array Value} {below : List Frame} {len W : Nat} {Z : State} {a0 : Array Value} {h : Heap} (hZ : Z.Warmed39 s.vm) (hw : ∀ d ∈ words, d.before a0 Z = true) {kI : Nat} (wi : (Jvm.Cond.instantiable ST kI).before a0 Z = true)
    {x b : Addr} {A : Cell} {z : Int32} {v0 c0 : Value} (E : RoadKit.Exa Z h x ST) (V : RoadKit.Fld Z h x ST "value" "[B" v0) (C : RoadKit.Fld Z h x ST "coder" "B" c0) (K : RoadKit.Arr Z h b A .char) (hty : Typed .char A) (S : RoadKit.Sta Z h ST "COMPACT_STRINGS" "Z" (.int z)) (hz : ¬ z = 0)
    (l0 : 0 < A.slots.size) (l2 : A.slots.size ≤ 536870912) (hp : ∀ i, i < A.slots.size → ¬ 255 < cv A i) (hfr : 4 ≤ R.frames) (hlo : W + 65 ≤ R.locals) :
    Back l R p e below s args New1.yN len W (fun P a => a = #[.ref x, .ref b] ∧ P.U.heap = h ∧ P.cells + 1 ≤ R.cells ∧ P.slots + A.slots.size ≤ R.slots)
      (fun P _ v B => ∃ L, Q Z x A h v B.U.heap L ∧ B.locs = P.locs ++ L ∧ B.cells = P.cells + 1 ∧ B.slots = P.slots + A.slots.size) := by
  intro m meth c P g ig mk a X hg hsize hdg hW hn hp'
  obtain ⟨rfl, rfl, r1, r2⟩ := hp'
  have al : Z.vm.Alike P.U.vm := hZ.alike.trans X.warmed.alike
  obtain ⟨D, cfV, kV, iV, fV, hD, gV, stV, knV, obV, asV, slV⟩ := id V
  obtain ⟨D', cfC, kC, iC, fC, hD', gC, stC, -, -, asC, slC⟩ := id C
  cases hD.symm.trans hD'
  obtain ⟨D2, kD, e1, e2, e3, e4, e5⟩ := id E
  cases hD.symm.trans e1
  obtain ⟨c2, k2, i1, i2, i3, -⟩ := Cond.instantiable_spec wi
  cases e2.symm.trans i1
  cases e3.symm.trans i2
  obtain ⟨kU, u1, u2⟩ := al.2.2 _ _ e3
  have hB : Blank ST x D P.U := ⟨hD, ⟨knV, fun q hq => by rw [hq] at obV; cases obV⟩, by rw [al.findClass]; exact e2, kU, u1, by rw [u2]; exact i3, by rw [u2]; exact e5 i3⟩
  have F1 : Found ST "value" "[B" fV P.U := ⟨SBG.found_only al ⟨cfV, kV, iV, gV⟩, stV⟩
  have F2 : Found ST "coder" "B" fC P.U := ⟨SBG.found_only al ⟨cfC, kC, iC, gC⟩, stC⟩
  have hA : Ch b A P.U := ⟨⟨K.1, State.isArrayOf_alike al K.2.1, K.2.2, by omega⟩, hty⟩
  have hS : StaticIs P.U ST "COMPACT_STRINGS" "Z" (.int z) := by
    obtain ⟨cfS, iS, kS, fS, st, cS, t1, t2, t3, t4, t5, t6, t7⟩ := S
    exact StaticIs.there (s := { Z with heap := P.U.heap }) ⟨cfS, iS, kS, fS, st, cS, t1, t2, t3, t4, t5, (fun q => by rw [q] at t6; cases t6), t7⟩ al rfl
  obtain ⟨v, B, X', ⟨⟨hv, E', V', q1, q2, q3, q4, q5, q6, q7, q8, q9, q10, q11⟩, hl, hc, hs⟩, st⟩ := New1.pays x D fV fC b A z (tab_of (moved hZ hw)) hfr hlo m meth c P g ig mk _ X hg hsize hdg hW hn ⟨r1, r2, rfl, hB, F1, F2, hA, hS, hz, l0, l2, hp⟩
  have al' : Z.vm.Alike B.U.vm := hZ.alike.trans X'.warmed.alike
  have hsz : E'.slots.size = D.slots.size := by
    obtain ⟨-, -, -, kB, w1, w2, w3⟩ := q1
    obtain ⟨kB', y1, y2⟩ := al'.2.2 _ _ e3
    rw [q2.2.1] at w1
    cases w1.symm.trans y1
    rw [w3, e5 i3, y2]
  refine ⟨v, B, X', ⟨_, ⟨hv, ?_, ⟨by omega, fun y cy hy hn' => q10 y cy (by simpa using hn') hy, fun y cy hy => ?_⟩, q11, ⟨E', _, q1.1, by rw [q2.2.1]; exact e2, by rw [q2.2.1]; exact e3, by rw [q2.1]; exact obV, fun _ => by rw [hsz]; exact e5 i3⟩,
    ⟨E', cfV, kV, iV, fV, q1.1, gV, stV, by rw [q2.1]; exact knV, by rw [q2.1]; exact obV, by rw [q2.2.1]; exact asV, q3⟩, ⟨E', cfC, kC, iC, fC, q1.1, gC, stC, by rw [q2.1]; exact knV, by rw [q2.1]; exact obV, by rw [q2.2.1]; exact asC, q4⟩,
    ⟨V', ⟨q5.1, State.isArrayOf_alike al'.symm q5.2.1, q5.2.2.1⟩, q6, by rw [← al'.findClass]; exact q7, q8, fun j hj => by have := q9 j hj; rwa [Nat.zero_add] at this⟩, fun O n d w F n1 n2 => ?_⟩, hl, hc, hs⟩, st⟩
  · intro y hy
    simp only [List.mem_cons, List.not_mem_nil, or_false] at hy
    rcases hy with rfl | rfl <;> rfl
  · by_cases q : y = x
    · subst q
      cases hD.symm.trans hy
      exact ⟨E', q1.1, q2.2.1, q2.1, hsz⟩
    · exact ⟨cy, q10 y cy q hy, rfl, rfl, rfl⟩
  · obtain ⟨D3, cf, k, i, f, g1, g2, g3, g4, g5, g6, g7⟩ := F
    cases hD.symm.trans g1
    simp only [RoadKit.slotOf, g2, gV, gC, Option.map_some, Option.getD_some] at n1 n2
    exact ⟨E', cf, k, i, f, q1.1, g2, g3, by rw [q2.1]; exact g4, by rw [q2.1]; exact g5, by rw [q2.2.1]; exact g6, by rw [q2.2.2 f.slot (by simp [n1, n2])]; exact g7⟩
end StrChars.Road
namespace StrChars.Road
open Jvm Sem ClassFile Op Lib Jvm.Stand Jvm.Free Jvm.Free.XT
/-- WHAT COMES BACK, the byte[] as a list of values -/
def QA (Z : State) (x : Addr) (zn : Int32) (cs : List Int32) (h : Heap) (v : Option Value) (h' : Heap) (L : List Loc) : Prop := v = none ∧ (∀ y ∈ L, y.base = x) ∧ RoadKit.Keep h h' [x] ∧ h'.size = h.size + 1 ∧ RoadKit.Exa Z h' x ST ∧ RoadKit.Fld Z h' x ST "value" "[B" (.ref h.size) ∧ RoadKit.Fld Z h' x ST "coder" "B" (.int 0) ∧
  (∃ kb, Z.vm.findClass "[B" = some kb ∧ RoadKit.Arv Z h' h.size kb .byte zn (cs.map fun c => .int (lo8 c)) (.int 0)) ∧
  ∀ (O n d : String) (w : Value), RoadKit.Fld Z h x O n d w → RoadKit.slotOf Z O n d ≠ RoadKit.slotOf Z ST "value" "[B" → RoadKit.slotOf Z O n d ≠ RoadKit.slotOf Z ST "coder" "B" → RoadKit.Fld Z h' x O n d w
/-- **new String(chars) AT A CALL, THE ARRAYS AS LISTS**: the char[] at b holds cs, not empty, no char above 255 -/
theorem backArv {p : Program} {l : Launch} {e : Env} {R : Room} {s : State} {args : Array Value} {below : List Frame} {len W : Nat} {Z : State} {a0 : Array Value} {h : Heap} (hZ : Z.Warmed39 s.vm) (hw : ∀ d ∈ words, d.before a0 Z = true) {kI : Nat} (wi : (Jvm.Cond.instantiable ST kI).before a0 Z = true)
    {x b : Addr} {k : ClassId} {zn z : Int32} {cs : List Int32} {dv v0 c0 : Value} (E : RoadKit.Exa Z h x ST) (V : RoadKit.Fld Z h x ST "value" "[B" v0) (C : RoadKit.Fld Z h x ST "coder" "B" c0) (K : RoadKit.Arv Z h b k .char zn (cs.map Value.int) dv) (S : RoadKit.Sta Z h ST "COMPACT_STRINGS" "Z" (.int z)) (hz : ¬ z = 0)
    (hlen : zn.toNatClampNeg = cs.length) (h0 : 0 < cs.length) (hbig : cs.length ≤ 536870912) (hall : ∀ c ∈ cs, ¬ 255 < c) (hfr : 4 ≤ R.frames) (hlo : W + 65 ≤ R.locals) :
    Back l R p e below s args New1.yN len W (fun P a => a = #[.ref x, .ref b] ∧ P.U.heap = h ∧ P.cells + 1 ≤ R.cells ∧ P.slots + cs.length ≤ R.slots)
      (fun P _ v B => ∃ L, QA Z x zn cs h v B.U.heap L ∧ B.locs = P.locs ++ L ∧ B.cells = P.cells + 1 ∧ B.slots = P.slots + cs.length) := by
  obtain ⟨A, K1, K2, K3, K4, K5, K6⟩ := K
  have e : A.slots.size = cs.length := K3.trans hlen
  have hat : ∀ (i : Nat) (hi : i < cs.length), A.slots[i]? = some (.int cs[i]) := fun i hi => by rw [K5 i (by omega)]; simp [List.getD_eq_getElem?_getD, hi]
  have hcv : ∀ (i : Nat) (hi : i < cs.length), cv A i = cs[i] := fun i hi => by unfold cv; rw [hat i hi]
  have hty : Typed .char A := fun i v hv => by
    have hi : i < A.slots.size := (Array.getElem?_eq_some_iff.mp hv).1
    have q := K5 i hi
    rw [hv] at q
    rw [Option.some.inj q]
    exact K6 i hi
  refine Back.mono (back hZ hw wi E V C K1 hty S hz (by omega) (by omega) (fun i hi => by rw [hcv i (by omega)]; exact hall _ (List.getElem_mem _)) hfr hlo) (fun P a hp => ⟨hp.1, hp.2.1, hp.2.2.1, by rw [e]; exact hp.2.2.2⟩) (fun P a v B hp hq => ?_)
  obtain ⟨L, ⟨q1, q2, q3, q4, q5, q6, q7, ⟨V', v1, v2, v3, v4, v5⟩, q9⟩, hl, hc, hs⟩ := hq
  refine ⟨L, ⟨q1, q2, q3, q4, q5, q6, q7, ⟨V'.cls, v3, V', v1, rfl, by rw [v4, e, hlen], K4, fun i hi => ?_, fun i hi => ?_⟩, q9⟩, hl, hc, by rw [hs, e]⟩
  · have hi' : i < cs.length := by omega
    rw [v5 i (by omega), hcv i hi']; simp [List.getD_eq_getElem?_getD, hi']
  · have hi' : i < cs.length := by omega
    simp only [List.getD_eq_getElem?_getD, List.getElem?_map, List.getElem?_eq_getElem hi', Option.map_some, Option.getD_some]
    exact fits_lo8 _
end StrChars.Road
namespace StrChars.Road
open Jvm Sem ClassFile Op Lib Jvm.Stand Jvm.Free Jvm.Free.XT
/-- WHAT COMES BACK, in the writer's own shape -/
def QV (Z : State) (x : Addr) (N : Int32) (bs : List Int32) (h : Heap) (n0 : Nat) (v : Option Value) (h' : Heap) (L : List Loc) : Prop := v = none ∧ RoadKit.Fr n0 L ∧ RoadKit.Keep h h' [x] ∧ RoadKit.Exa Z h' x ST ∧ RoadKit.Fld Z h' x ST "coder" "B" (.int 0) ∧
  ∃ (t : Addr) (kb : ClassId), n0 ≤ t ∧ h.size ≤ t ∧ ¬ t = x ∧ RoadKit.Fld Z h' x ST "value" "[B" (.ref t) ∧ RoadKit.Arv Z h' t kb .byte N (bs.map Value.int) (.int 0)
/-- **new String(chars) AT A CALL, FOR THE WRITER**: a char[] of n known ints, each 0 to 255 -/
theorem backV {p : Program} {l : Launch} {e : Env} {R : Room} {s : State} {args : Array Value} {below : List Frame} {len W : Nat} {Z : State} {a0 : Array Value} {h : Heap} (hZ : Z.Warmed39 s.vm) (hw : ∀ d ∈ words, d.before a0 Z = true) {kI : Nat} (wi : (Jvm.Cond.instantiable ST kI).before a0 Z = true)
    {x b : Addr} {kC : ClassId} {cs bs : List Int32} {d v0 c0 : Value} {z N : Int32} {n n0 : Nat} (hx0 : n0 ≤ x) (hh0 : n0 ≤ h.size) (E : RoadKit.Exa Z h x ST) (V : RoadKit.Fld Z h x ST "value" "[B" v0) (C : RoadKit.Fld Z h x ST "coder" "B" c0) (K : RoadKit.Arv Z h b kC .char N (cs.map Value.int) d) (S : RoadKit.Sta Z h ST "COMPACT_STRINGS" "Z" (.int z)) (hz : ¬ z = 0)
    (hn : cs.length = n) (hN : N = Int32.ofNat n) (l0 : 0 < n) (l2 : n ≤ 4000) (hp : ∀ c ∈ cs, ¬ c < 0 ∧ ¬ (255 : Int32) < c) (hb : bs = cs.map (fun c => c.toInt8.toInt32)) (hfr : 4 ≤ R.frames) (hlo : W + 65 ≤ R.locals) :
    Back l R p e below s args (⟨"java/lang/String", "<init>", "([C)V"⟩ : MethodName) len W (fun P a => a = #[.ref x, .ref b] ∧ P.U.heap = h ∧ P.cells + 1 ≤ R.cells ∧ P.slots + n ≤ R.slots)
      (fun P _ v B => ∃ L, QV Z x N bs h n0 v B.U.heap L ∧ B.locs = P.locs ++ L ∧ B.cells = P.cells + 1 ∧ B.slots = P.slots + n) := by
  subst hn hN hb
  refine Back.mono (backArv hZ hw wi E V C K S hz (n32 (by omega)) l0 (by omega) (fun c hc => (hp c hc).2) hfr hlo) (fun P a hp => hp) (fun P a v B hp hq => ?_)
  obtain ⟨L, ⟨q1, q2, q3, q4, q5, q6, q7, ⟨kb, v1, v2⟩, q9⟩, hl, hc, hs⟩ := hq
  exact ⟨L, ⟨q1, fun y hy => by rw [q2 y hy]; exact hx0, q3, q5, q7, h.size, kb, hh0, Nat.le_refl _, Nat.ne_of_gt E.lt, q6, by rw [List.map_map]; exact v2⟩, hl, hc, hs⟩
end StrChars.Road
namespace StrChars
open Jvm Sem ClassFile Op Lib Jvm.Stand Jvm.Free.XT Jvm.Free.ALB Jvm.Free.JM Jvm.Free
open Jvm.Lib.Cold (StaticIs)
def hi8 (x : Int32) : Int32 := lo8 (x >>> ((8 : Int32) &&& 31))
/-- what StringUTF16.getChar makes of two bytes -/
def pairCh (u v : Int32) : Int32 := (((u &&& 255) <<< ((0 : Int32) &&& 31)) ||| ((v &&& 255) <<< ((8 : Int32) &&& 31))).toUInt32.toUInt16.toUInt32.toInt32
theorem shr0 (c : Int32) : c >>> ((0 : Int32) &&& 31) = c := by
  have e : ((0 : Int32) &&& 31) = 0 := by decide
  rw [e]
  apply Int32.toBitVec_inj.mp
  rw [Int32.toBitVec_shiftRight]
  have e1 : ((0 : Int32).toBitVec.smod 32) = 0#32 := by decide
  rw [e1, BitVec.sshiftRight_eq']
  exact BitVec.sshiftRight_zero
theorem lo8_and (x : Int32) : (lo8 x &&& 255).toBitVec.toNat = x.toBitVec.toNat % 256 := by
  have h : (lo8 x).toBitVec = (x.toBitVec.signExtend 8).signExtend 32 := by rw [lo8, Int8.toBitVec_toInt32, Int32.toBitVec_toInt8]
  rw [Int32.toBitVec_and, BitVec.toNat_and, h]
  have e : ((x.toBitVec.signExtend 8).signExtend 32).toNat % 256 = x.toBitVec.toNat % 256 := by
    rw [BitVec.toNat_signExtend]
    have hlt := x.toBitVec.isLt
    simp only [BitVec.toNat_setWidth, BitVec.toNat_signExtend]
    split <;> split <;> omega
  rw [← e]
  exact Nat.and_two_pow_sub_one_eq_mod _ 8
theorem pair_says {c : Int32} (h0 : ¬ c < 0) (h1 : ¬ 65535 < c) : pairCh (lo8 c) (hi8 c) = c := by
  rw [Int32.lt_iff_toInt_lt] at h0 h1
  have e0 : (0 : Int32).toInt = 0 := rfl
  have e1 : (65535 : Int32).toInt = 65535 := rfl
  have hc : c.toInt = c.toBitVec.toNat := by
    have := c.toBitVec.isLt
    have e : c.toInt = c.toBitVec.toInt := rfl
    rw [e] at h0 h1
    rw [e]
    rw [BitVec.toInt_eq_toNat_cond] at h0 h1 ⊢
    split at h0 <;> split <;> omega
  have hn : c.toBitVec.toNat < 65536 := by omega
  have a1 := lo8_and c
  have a2 : (hi8 c &&& 255).toBitVec.toNat = c.toBitVec.toNat / 256 := by
    rw [hi8, lo8_and]
    have e : ((8 : Int32) &&& 31) = 8 := by decide
    rw [e, Int32.toBitVec_shiftRight]
    have e2 : ((8 : Int32).toBitVec.smod 32) = 8#32 := by decide
    rw [e2, BitVec.sshiftRight_eq', BitVec.toNat_sshiftRight_of_msb_false (by rw [BitVec.msb_eq_false_iff_two_mul_lt]; omega)]
    show c.toBitVec.toNat >>> 8 % 256 = _
    rw [Nat.shiftRight_eq_div_pow]
    omega
  unfold pairCh
  apply Int32.toBitVec_inj.mp
  apply BitVec.eq_of_toNat_eq
  have f0 : ((0 : Int32) &&& 31) = 0 := by decide
  have f8 : ((8 : Int32) &&& 31) = 8 := by decide
  rw [f0, f8]
  have g : (((lo8 c &&& 255) <<< (0 : Int32)) ||| ((hi8 c &&& 255) <<< (8 : Int32))).toBitVec.toNat = c.toBitVec.toNat := by
    rw [Int32.toBitVec_or, Int32.toBitVec_shiftLeft, Int32.toBitVec_shiftLeft]
    have s0 : ((0 : Int32).toBitVec.smod 32) = 0#32 := by decide
    have s8 : ((8 : Int32).toBitVec.smod 32) = 8#32 := by decide
    rw [s0, s8, BitVec.toNat_or]
    simp only [BitVec.shiftLeft_eq', BitVec.toNat_shiftLeft, a1, a2]
    show (c.toBitVec.toNat % 256) <<< 0 % 2 ^ 32 ||| (c.toBitVec.toNat / 256) <<< 8 % 2 ^ 32 = _
    rw [Nat.shiftLeft_zero, Nat.mod_eq_of_lt (show c.toBitVec.toNat % 256 < 2 ^ 32 by omega), Nat.mod_eq_of_lt (show (c.toBitVec.toNat / 256) <<< 8 < 2 ^ 32 by rw [Nat.shiftLeft_eq]; omega), Nat.or_comm, ← Nat.shiftLeft_add_eq_or_of_lt (by omega), Nat.shiftLeft_eq]
    omega
  show BitVec.toNat (((((lo8 c &&& 255) <<< (0 : Int32)) ||| ((hi8 c &&& 255) <<< (8 : Int32))).toBitVec.setWidth 16).setWidth 32) = _
  rw [BitVec.toNat_setWidth, BitVec.toNat_setWidth, g]
  omega
end StrChars
namespace StrChars
open Jvm Sem ClassFile Op Lib Jvm.Stand Jvm.Free.XT Jvm.Free.ALB Jvm.Free.JM Jvm.Free
open Jvm.Lib.Cold (StaticIs)
theorem shr1 {n : Nat} (h : 2 * n < 2 ^ 31) : Int32.ofNat (2 * n) >>> ((1 : Int32) &&& 31) = Int32.ofNat n := by
  have e : ((1 : Int32) &&& 31) = 1 := by decide
  rw [e]
  apply Int32.toBitVec_inj.mp
  rw [Int32.toBitVec_shiftRight]
  have e1 : ((1 : Int32).toBitVec.smod 32) = 1#32 := by decide
  have hm : (BitVec.ofNat 32 (2 * n)).toNat = 2 * n := by rw [BitVec.toNat_ofNat, Nat.mod_eq_of_lt (by omega)]
  rw [e1, BitVec.sshiftRight_eq']
  apply BitVec.eq_of_toNat_eq
  show ((BitVec.ofNat 32 (2 * n)).sshiftRight 1).toNat = (BitVec.ofNat 32 n).toNat
  rw [BitVec.toNat_sshiftRight_of_msb_false (by rw [BitVec.msb_eq_false_iff_two_mul_lt, hm]; omega), hm, BitVec.toNat_ofNat, Nat.shiftRight_eq_div_pow]
  omega
/-- the array's cell V codes the n chars f 0 .. f (n - 1) by the coder cd, as the JDK does: coder 1 just where some char is above 255 -/
def Cod (cd : Int32) (n : Nat) (f : Nat → Int32) (V : Cell) : Prop := (cd = 0 ∧ V.slots.size = n ∧ ∀ j, j < n → V.slots[j]? = some (.int (lo8 (f j))) ∧ ¬ 255 < f j) ∨ (cd = 1 ∧ V.slots.size = 2 * n ∧ (∀ j, j < n → V.slots[2 * j]? = some (.int (lo8 (f j))) ∧ V.slots[2 * j + 1]? = some (.int (hi8 (f j)))) ∧ ∃ j, j < n ∧ 255 < f j)
theorem Cod.cd {cd : Int32} {n : Nat} {f : Nat → Int32} {V : Cell} (h : Cod cd n f V) : cd = 0 ∨ cd = 1 := h.imp (fun q => q.1) fun q => q.1
theorem Cod.len {cd : Int32} {n : Nat} {f : Nat → Int32} {V : Cell} (h : Cod cd n f V) (hs : V.slots.size < 2 ^ 31) : Int32.ofNat V.slots.size >>> (cd &&& 31) = Int32.ofNat n := by
  rcases h with ⟨rfl, h, -⟩ | ⟨rfl, h, -⟩
  · rw [shr0, h]
  · rw [h, shr1 (by omega)]
/-- **x is a String of the n chars f 0 .. f (n - 1)**, Latin-1 or UTF-16; its array at t has the cell V -/
def Txt (x t : Addr) (V : Cell) (cd : Int32) (n : Nat) (f : Nat → Int32) (U : State) : Prop := Exact "java/lang/String" x U ∧ Has x "java/lang/String" "value" "[B" (.ref t) U ∧ Has x "java/lang/String" "coder" "B" (.int cd) U ∧ XT.Arr .byte t V U ∧ Cod cd n f V ∧ ∀ j, j < n → ¬ f j < 0 ∧ ¬ 65535 < f j
theorem Txt.mv {x t : Addr} {V : Cell} {cd : Int32} {n : Nat} {f : Nat → Int32} {U U' : State} (h : Txt x t V cd n f U) (hal : U.vm.Alike U'.vm) (hh : U'.heap = U.heap) : Txt x t V cd n f U' := ⟨h.1.mv hal hh, h.2.1.mv hal hh, h.2.2.1.mv hal hh, h.2.2.2.1.mv hal hh, h.2.2.2.2⟩
namespace Cdr
def yN : MethodName := ⟨"java/lang/String", "coder", "()B"⟩
abbrev yB : ByteArray := jdk_42_method_152_code
theorem d0 : decode yB 0 = .ok (.getstatic 38, 3) := by decide +kernel
theorem d3 : decode yB 3 = .ok (.ifCond (.eq) 10, 3) := by decide +kernel
theorem d6 : decode yB 6 = .ok (.aload_n 0, 1) := by decide +kernel
theorem d7 : decode yB 7 = .ok (.getfield 15, 3) := by decide +kernel
theorem d10 : decode yB 10 = .ok (.goto 4, 3) := by decide +kernel
theorem d14 : decode yB 14 = .ok (.ireturn, 1) := by decide +kernel
def site : List Cond := [.fieldLink "java/lang/String" 38 "java/lang/String" "COMPACT_STRINGS" "Z", .fieldLink "java/lang/String" 15 "java/lang/String" "coder" "B"]
def tab : Cond := tabOf yN yB 1 (some .byte) site
def P (x : Addr) (cd z : Int32) (args : Array Value) (s : State) : Prop := args = #[.ref x] ∧ Has x "java/lang/String" "coder" "B" (.int cd) s ∧ (cd = 0 ∨ cd = 1) ∧ StaticIs s "java/lang/String" "COMPACT_STRINGS" "Z" (.int z) ∧ ¬ z = 0
def E (cd : Int32) (r : Option Value) (s u : State) : Prop := XT.PureE (some (.int cd)) r s u
theorem law (l : Launch) (x : Addr) (cd z : Int32) : Law l yN 1 0 0 0 yB 1 (some .byte) site (P x cd z) (E cd) [] 0 0 := by
  refine Law.of_walk (plainFor_of_name (by decide +kernel)) (by decide +kernel) (by decide +kernel) (by decide) (fun _ _ h => by rw [h.1]; rfl) (fun _ U U' hal hh h => ⟨h.1, h.2.1.mv hal hh, h.2.2.1, h.2.2.2.1.there hal hh, h.2.2.2.2⟩) (fun r U U' V V' h1 hal h2 h => XT.PureE.mv r U U' V V' h1 hal h2 h) ?_
  intro p e s m args below meth c s₁ X0 hexec hbytes hml hret hlk hnm hown hh0 W hP
  obtain ⟨rfl, hx, hc, s1, hz⟩ := hP
  have c1 : Steps p.tables e below (s₁.setTop (entryFrame m #[.ref x] 1)) (s₁.setTop (mkF m 0 #[.val (.ref x)] [])) := entry rfl
  obtain ⟨T2, X2, q2, st2⟩ := X0.sget hexec hown (wk W (.fieldLink "java/lang/String" 38 "java/lang/String" "COMPACT_STRINGS" "Z")) s1 (fun _ _ h => by rw [hh0]; exact h) (g := (mkF m 0 #[.val (.ref x)] [])) rfl (hb hbytes d0)
  have hh2 := q2.trans hh0
  have c3 : Steps p.tables e below (s₁.setTop (entryFrame m #[.ref x] 1)) (T2.setTop (mkF m 7 #[.val (.ref x)] [.ref x])) := (c1.trans (st2 _ (Steps.refl _))).trans (by
    refine XS.ifNo X2.here hexec rfl (hb hbytes d3) rfl (i0_eq_f hz) ?_
    refine XS.aloadN X2.here hexec rfl (hb hbytes d6) rfl rfl ?_
    exact Steps.refl _)
  obtain ⟨T4, X4, q4, st4⟩ := X2.hget hexec hown (wk W (.fieldLink "java/lang/String" 15 "java/lang/String" "coder" "B")) (hx.mv X2.warmed.alike hh2) (g := (mkF m 7 #[.val (.ref x)] [.ref x])) rfl (rest := []) rfl (hb hbytes d7)
  have c5 : Steps p.tables e below (s₁.setTop (entryFrame m #[.ref x] 1)) (T4.setTop (mkF m 14 #[.val (.ref x)] [.int cd])) := (c3.trans (st4 _ (Steps.refl _))).trans (by
    refine XS.goto X4.here hexec rfl (pc0 := 10) rfl (hb hbytes d10) (by decide) rfl ?_
    exact Steps.refl _)
  exact ⟨T4, some (.int cd), _, _, _, X4, rfl, rfl, rfl, (fun h => by cases h), ⟨rfl, q4.trans hh2⟩, fun fs hl => c5.trans (X4.ireturnOut hexec hret (by rcases hc with rfl | rfl <;> rfl) (Or.inr (Or.inr (Or.inl rfl))) (hb hbytes d14) hl)⟩
end Cdr
namespace Len
def yN : MethodName := ⟨"java/lang/String", "length", "()I"⟩
abbrev yB : ByteArray := jdk_42_method_54_code
theorem d0 : decode yB 0 = .ok (.aload_n 0, 1) := by decide +kernel
theorem d1 : decode yB 1 = .ok (.getfield 9, 3) := by decide +kernel
theorem d4 : decode yB 4 = .ok (.arraylength, 1) := by decide +kernel
theorem d5 : decode yB 5 = .ok (.aload_n 0, 1) := by decide +kernel
theorem d6 : decode yB 6 = .ok (.invokevirtual 335, 3) := by decide +kernel
theorem d9 : decode yB 9 = .ok (.ishr, 1) := by decide +kernel
theorem d10 : decode yB 10 = .ok (.ireturn, 1) := by decide +kernel
def site : List Cond := [.fieldLink "java/lang/String" 9 "java/lang/String" "value" "[B", Cdr.tab] ++ virtW "java/lang/String" 335 "java/lang/String" Cdr.yN Cdr.yN
def tab : Cond := tabOf yN yB 1 (some .int) site
def P (x t : Addr) (V : Cell) (cd : Int32) (n : Nat) (f : Nat → Int32) (z : Int32) (args : Array Value) (s : State) : Prop := args = #[.ref x] ∧ Txt x t V cd n f s ∧ StaticIs s "java/lang/String" "COMPACT_STRINGS" "Z" (.int z) ∧ ¬ z = 0
def E (n : Nat) (r : Option Value) (s u : State) : Prop := XT.PureE (some (.int (Int32.ofNat n))) r s u
/-- length() of a String of n chars, in either coding -/
theorem law (l : Launch) (x t : Addr) (V : Cell) (cd : Int32) (n : Nat) (f : Nat → Int32) (z : Int32) : Law l yN 1 0 1 13 yB 1 (some .int) site (P x t V cd n f z) (E n) [] 0 0 := by
  refine Law.of_walk (plainFor_of_name (by decide +kernel)) (by decide +kernel) (by decide +kernel) (by decide) (fun _ _ h => by rw [h.1]; rfl) (fun _ U U' hal hh h => ⟨h.1, h.2.1.mv hal hh, h.2.2.1.there hal hh, h.2.2.2⟩) (fun r U U' V V' h1 hal h2 h => XT.PureE.mv r U U' V V' h1 hal h2 h) ?_
  intro p e s m args below meth c s₁ X0 hexec hbytes hml hret hlk hnm hown hh0 W hP
  obtain ⟨rfl, hx, s1, hz⟩ := hP
  have v31 := hx.2.2.2.1.2.2.2
  have c1 : Steps p.tables e below (s₁.setTop (entryFrame m #[.ref x] 1)) (s₁.setTop (mkF m 1 #[.val (.ref x)] [.ref x])) := Steps.trans (entry rfl) (by
    show Steps p.tables e below (s₁.setTop (mkF m 0 #[.val (.ref x)] [])) _
    refine XS.aloadN X0.here hexec rfl (hb hbytes d0) rfl rfl ?_
    exact Steps.refl _)
  obtain ⟨T2, X2, q2, st2⟩ := X0.hget hexec hown (wk W (.fieldLink "java/lang/String" 9 "java/lang/String" "value" "[B")) (hx.mv X0.warmed.alike hh0).2.1 (g := (mkF m 1 #[.val (.ref x)] [.ref x])) rfl (rest := []) rfl (hb hbytes d1)
  have hh2 := q2.trans hh0
  have hx2 := hx.mv X2.warmed.alike hh2
  have c3 : Steps p.tables e below (s₁.setTop (entryFrame m #[.ref x] 1)) (T2.setTop (mkF m 6 #[.val (.ref x)] [.ref x, .int (Int32.ofNat V.slots.size)])) := (c1.trans (st2 _ (Steps.refl _))).trans (by
    refine X2.alen hexec hx2.2.2.2.1 rfl rfl (hb hbytes d4) ?_
    refine XS.aloadN X2.here hexec rfl (hb hbytes d5) rfl rfl ?_
    exact Steps.refl _)
  obtain ⟨v4, T4, X4, E4, g4⟩ := X2.callV hexec (Cdr.law l x cd z) hown (wks W (virtW "java/lang/String" 335 "java/lang/String" Cdr.yN Cdr.yN)) rfl (by decide) (wk W Cdr.tab) (W := 1) (Nat.le_of_ble_eq_true rfl) (Nat.le_of_ble_eq_true rfl) (Nat.le_refl _) (Nat.le_refl _) (hx2.1.fc X2.warmed.alike) hx2.1.is (g := (mkF m 6 #[.val (.ref x)] [.ref x, .int (Int32.ofNat V.slots.size)])) rfl (by rw [hml]; rfl) c3 (argsL := []) (rest := [.int (Int32.ofNat V.slots.size)]) rfl rfl (by show 2 * 0 + (1 + 0) ≤ _; decide) (hb hbytes d6) (⟨rfl, hx2.2.2.1, hx.2.2.2.2.1.cd, s1.there X2.warmed.alike hh2, hz⟩)
  obtain ⟨rfl, q4⟩ := E4
  have c5 : Steps p.tables e below (s₁.setTop (entryFrame m #[.ref x] 1)) (T4.setTop (mkF m 10 #[.val (.ref x)] [.int (Int32.ofNat V.slots.size >>> (cd &&& 31))])) := Steps.trans g4 (by
    refine ishr X4.here hexec rfl (hb hbytes d9) rfl ?_
    exact Steps.refl _)
  rw [hx.2.2.2.2.1.len v31] at c5
  exact ⟨T4, some (.int (Int32.ofNat n)), _, _, _, X4, rfl, rfl, rfl, (fun h => by cases h), ⟨rfl, q4.trans hh2⟩, fun fs hl => c5.trans (X4.ireturnOut hexec hret rfl (Or.inl rfl) (hb hbytes d10) hl)⟩
theorem pays {l : Launch} {R : Room} {p : Program} {e : Env} {below : List Frame} {s : State} {sargs : Array Value} {len W : Nat} (x t : Addr) (V : Cell) (cd : Int32) (n : Nat) (f : Nat → Int32) (z : Int32) (htab : tab.before sargs s = true) (hfr : 2 ≤ R.frames) (hlo : W + 25 ≤ R.locals) :
    Back l R p e below s sargs yN len W (fun A₁ a₁ => A₁.cells + 0 ≤ R.cells ∧ A₁.slots + 0 ≤ R.slots ∧ P x t V cd n f z a₁ A₁.U) (fun A₁ _ v₁ B₁ => E n v₁ A₁.U B₁.U ∧ B₁.locs = A₁.locs ++ [] ∧ B₁.cells = A₁.cells + 0 ∧ B₁.slots = A₁.slots + 0) :=
  (law l x t V cd n f z).pays htab hfr (by omega)
end Len
end StrChars
namespace StrChars.Road
open Jvm Sem ClassFile Op Lib Jvm.Stand Jvm.Free Jvm.Free.XT
open Jvm.Lib.Cold (StaticIs)
theorem consq {a : Array Value} {s : State} {c : Jvm.Cond} {L : List Jvm.Cond} (h0 : c.before a s = true) (h : ∀ w ∈ L, w.before a s = true) : ∀ w ∈ c :: L, w.before a s = true := fun w hw => (List.mem_cons.mp hw).elim (fun e => e ▸ h0) (h w)
/-- the words of String.length(), either coding -/
abbrev wordsLen : List Jvm.Cond := [.code Len.yN Len.yB 1 (some .int), .initialized ST, .fieldLink ST 9 ST "value" "[B", .fieldLink ST 38 ST "COMPACT_STRINGS" "Z", .fieldLink ST 15 ST "coder" "B", .code Cdr.yN Cdr.yB 1 (some .byte), .methodLink ST 335 Cdr.yN, .declares Cdr.yN, .selects ST Cdr.yN Cdr.yN, .instanceMethod Cdr.yN]
theorem tabLen_of {a : Array Value} {s : State} (h : ∀ w ∈ wordsLen, w.before a s = true) : Len.tab.before a s = true := by
  have hc : Cdr.tab.before a s = true := unparts (wk h (.code Cdr.yN Cdr.yB 1 (some .byte))) (wks h (.initialized Cdr.yN.cls :: Cdr.site))
  have q := consq hc h
  exact unparts (wk q (.code Len.yN Len.yB 1 (some .int))) (wks q (.initialized Len.yN.cls :: Len.site))
theorem movedLen {Z s : State} {a0 args : Array Value} (hZ : Z.Warmed39 s.vm) (hw : ∀ d ∈ wordsLen, d.before a0 Z = true) : ∀ d ∈ wordsLen, d.before args s = true := fun d hd => by
  have q := hw d hd
  have t : ∀ d ∈ wordsLen, d = .arrayClass .byte ∨ (d.onTables && d.keepsFace) = true := by decide +kernel
  rcases t d hd with rfl | t
  · exact RoadKit.mvA hZ q
  · exact RoadKit.mv hZ q t
/-- the bytes of the chars cs, low before high -/
def wideBytes : List Int32 → List Value
  | [] => []
  | c :: cs => .int (lo8 c) :: .int (hi8 c) :: wideBytes cs
theorem wide_lo (d : Value) : ∀ (cs : List Int32) (j : Nat), j < cs.length → (wideBytes cs).getD (2 * j) d = .int (lo8 (cs.getD j 0))
  | [], j, h => absurd h (Nat.not_lt_zero j)
  | c :: cs, 0, _ => rfl
  | c :: cs, j + 1, h => by
    have q := wide_lo d cs j (by simpa using h)
    rw [show 2 * (j + 1) = 2 * j + 1 + 1 from by omega]
    simpa [wideBytes] using q
theorem wide_hi (d : Value) : ∀ (cs : List Int32) (j : Nat), j < cs.length → (wideBytes cs).getD (2 * j + 1) d = .int (hi8 (cs.getD j 0))
  | [], j, h => absurd h (Nat.not_lt_zero j)
  | c :: cs, 0, _ => rfl
  | c :: cs, j + 1, h => by
    have q := wide_hi d cs j (by simpa using h)
    rw [show 2 * (j + 1) + 1 = 2 * j + 1 + 1 + 1 from by omega]
    simpa [wideBytes] using q
theorem low_at (d : Value) (cs : List Int32) (j : Nat) (h : j < cs.length) : (cs.map fun c => Value.int (lo8 c)).getD j d = .int (lo8 (cs.getD j 0)) := by
  simp [List.getD_eq_getElem?_getD, h]
/-- an array of N2 bytes vs codes the chars cs by the coder cd -/
def CodA (cs : List Int32) (cd N2 : Int32) (vs : List Value) : Prop := (cd = 0 ∧ N2 = Int32.ofNat cs.length ∧ vs = (cs.map fun c => Value.int (lo8 c)) ∧ ∀ c ∈ cs, ¬ 255 < c) ∨ (cd = 1 ∧ N2 = Int32.ofNat (2 * cs.length) ∧ vs = wideBytes cs ∧ ∃ c ∈ cs, 255 < c)
theorem CodA.cod {cs : List Int32} {cd N2 : Int32} {vs : List Value} {V : Cell} (h : CodA cs cd N2 vs) (hn : 2 * cs.length < 2 ^ 31) (hs : V.slots.size = N2.toNatClampNeg) (hv : RoadKit.Has V vs (.int 0)) : Cod cd cs.length (fun j => cs.getD j 0) V := by
  rcases h with ⟨rfl, rfl, rfl, h⟩ | ⟨rfl, rfl, rfl, c, hc, hw⟩
  · rw [n32 (by omega)] at hs
    exact Or.inl ⟨rfl, hs, fun j hj => ⟨by rw [hv j (by omega), low_at _ _ _ hj], by
      have e : cs.getD j 0 = cs[j] := by simp [List.getD_eq_getElem?_getD, hj]
      show ¬ 255 < cs.getD j 0
      rw [e]; exact h _ (List.getElem_mem _)⟩⟩
  · rw [n32 (by omega)] at hs
    obtain ⟨j, hj, rfl⟩ := List.getElem_of_mem hc
    exact Or.inr ⟨rfl, hs, fun j hj => ⟨by rw [hv _ (by omega), wide_lo _ _ _ hj], by rw [hv _ (by omega), wide_hi _ _ _ hj]⟩, j, hj, by
      have e : cs.getD j 0 = cs[j] := by simp [List.getD_eq_getElem?_getD, hj]
      show 255 < cs.getD j 0
      rw [e]; exact hw⟩
/-- an object of exactly java/lang/String, its two fields found: as the laws ask it -/
theorem strObj {Z U : State} {a0 : Array Value} {kI : Nat} (wi : (Jvm.Cond.instantiable ST kI).before a0 Z = true) (al : Z.vm.Alike U.vm) {x : Addr} {v0 c0 : Value} (E : RoadKit.Exa Z U.heap x ST) (V : RoadKit.Fld Z U.heap x ST "value" "[B" v0) (C : RoadKit.Fld Z U.heap x ST "coder" "B" c0) :
    ∃ (D : Cell) (fV fC : Field), Blank ST x D U ∧ Found ST "value" "[B" fV U ∧ Found ST "coder" "B" fC U ∧ D.slots[fV.slot]? = some v0 ∧ D.slots[fC.slot]? = some c0 ∧ RoadKit.slotOf Z ST "value" "[B" = fV.slot ∧ RoadKit.slotOf Z ST "coder" "B" = fC.slot := by
  obtain ⟨D, cfV, kV, iV, fV, hD, gV, stV, knV, obV, asV, slV⟩ := V
  obtain ⟨D', cfC, kC, iC, fC, hD', gC, stC, -, -, asC, slC⟩ := C
  cases hD.symm.trans hD'
  obtain ⟨D2, kD, e1, e2, e3, e4, e5⟩ := E
  cases hD.symm.trans e1
  obtain ⟨c2, k2, i1, i2, i3, -⟩ := Cond.instantiable_spec wi
  cases e2.symm.trans i1
  cases e3.symm.trans i2
  obtain ⟨kU, u1, u2⟩ := al.2.2 _ _ e3
  exact ⟨D, fV, fC, ⟨hD, ⟨knV, fun q hq => by rw [hq] at obV; cases obV⟩, by rw [al.findClass]; exact e2, kU, u1, by rw [u2]; exact i3, by rw [u2]; exact e5 i3⟩, ⟨SBG.found_only al ⟨cfV, kV, iV, gV⟩, stV⟩, ⟨SBG.found_only al ⟨cfC, kC, iC, gC⟩, stC⟩, slV, slC, by simp [RoadKit.slotOf, gV], by simp [RoadKit.slotOf, gC]⟩
theorem sta_is {Z U : State} (al : Z.vm.Alike U.vm) {C n d : String} {v : Value} (S : RoadKit.Sta Z U.heap C n d v) : StaticIs U C n d v := by
  obtain ⟨cfS, iS, kS, fS, st, cS, t1, t2, t3, t4, t5, t6, t7⟩ := S
  exact StaticIs.there (s := { Z with heap := U.heap }) ⟨cfS, iS, kS, fS, st, cS, t1, t2, t3, t4, t5, (fun q => by rw [q] at t6; cases t6), t7⟩ al rfl
/-- **length() OF SUCH A STRING** -/
theorem lenW {p : Program} {l : Launch} {e : Env} {R : Room} {s : State} {args : Array Value} {below : List Frame} {len W : Nat} {Z : State} {a0 : Array Value} {h : Heap} (hZ : Z.Warmed39 s.vm) (hw : ∀ d ∈ wordsLen, d.before a0 Z = true) {kI : Nat} (wi : (Jvm.Cond.instantiable ST kI).before a0 Z = true)
    {x t : Addr} {kb : ClassId} {cs : List Int32} {cd N2 z : Int32} {vs : List Value} (E : RoadKit.Exa Z h x ST) (V : RoadKit.Fld Z h x ST "value" "[B" (.ref t)) (C : RoadKit.Fld Z h x ST "coder" "B" (.int cd)) (K : RoadKit.Arv Z h t kb .byte N2 vs (.int 0)) (hc : CodA cs cd N2 vs) (hb : ∀ c ∈ cs, ¬ c < 0 ∧ ¬ (65535 : Int32) < c)
    (S : RoadKit.Sta Z h ST "COMPACT_STRINGS" "Z" (.int z)) (hz : ¬ z = 0) (l2 : cs.length ≤ 4000) (hfr : 2 ≤ R.frames) (hlo : W + 25 ≤ R.locals) :
    Back l R p e below s args (⟨"java/lang/String", "length", "()I"⟩ : MethodName) len W (fun P a => a = #[.ref x] ∧ P.U.heap = h ∧ P.cells + 0 ≤ R.cells ∧ P.slots + 0 ≤ R.slots)
      (fun P _ v B => ∃ L, (v = some (.int (Int32.ofNat cs.length)) ∧ L = [] ∧ B.U.heap = h) ∧ B.locs = P.locs ++ L ∧ B.cells = P.cells + 0 ∧ B.slots = P.slots + 0) := by
  obtain ⟨A, K1, K2, K3, K4, K5, K6⟩ := K
  have hcod := hc.cod (by omega) K3 K5
  intro m meth c P g ig mk a X hg hsize hdg hW hn hp'
  obtain ⟨rfl, rfl, r1, r2⟩ := hp'
  have al : Z.vm.Alike P.U.vm := hZ.alike.trans X.warmed.alike
  obtain ⟨D, fV, fC, hB, F1, F2, g1, g2, -, -⟩ := strObj wi al E V C
  have hx : Txt x t A cd cs.length (fun j => cs.getD j 0) P.U := ⟨⟨_, hB.2.2.1, D, hB.1, rfl, by cases q : D.vm <;> first | rfl | exact absurd q (hB.2.1.2 _)⟩, Has.of hB F1 g1, Has.of hB F2 g2, ⟨K1.1, State.isArrayOf_alike al K1.2.1, K1.2.2, by rcases hcod with ⟨-, q, -⟩ | ⟨-, q, -⟩ <;> omega⟩, hcod, fun j hj => by
    have e : cs.getD j 0 = cs[j] := by simp [List.getD_eq_getElem?_getD, hj]
    show ¬ cs.getD j 0 < 0 ∧ ¬ 65535 < cs.getD j 0
    rw [e]; exact hb _ (List.getElem_mem _)⟩
  obtain ⟨v, B, X', ⟨⟨hv, hh⟩, hl, hk, hs⟩, st⟩ := Len.pays x t A cd cs.length (fun j => cs.getD j 0) z (tabLen_of (movedLen hZ hw)) hfr hlo m meth c P g ig mk _ X hg hsize hdg hW hn ⟨r1, r2, rfl, hx, sta_is al S, hz⟩
  exact ⟨v, B, X', ⟨[], ⟨hv, rfl, hh⟩, hl, hk, hs⟩, st⟩
end StrChars.Road
namespace StrChars
open Jvm Sem ClassFile Op Lib Jvm.Stand Jvm.Free.XT Jvm.Free.ALB Jvm.Free.JM Jvm.Free
open Jvm.Lib.Cold (StaticIs)
/-- what place i of a byte[]'s cell holds -/
def yv (A : Cell) (i : Nat) : Int32 := match A.slots[i]? with | some (.int x) => x | _ => 0
theorem yv_get {a : Addr} {A : Cell} {U : State} (h : XT.Arr .byte a A U) (ht : Typed .byte A) {i : Nat} (hi : i < A.slots.size) : A.slots[i]? = some (.int (yv A i)) := by
  have e := Array.getElem?_eq_getElem hi
  have f := ht i _ e
  unfold yv; rw [e]
  generalize A.slots[i] = v at f
  cases v <;> simp [fits] at f ⊢
/-- the two arrays are equal, place for place -/
def EqC (A B : Cell) : Prop := A.slots.size = B.slots.size ∧ ∀ i, i < A.slots.size → yv A i = yv B i
/-- a boolean that says whether p -/
def Says01 (q : Prop) (r : Option Value) (s u : State) : Prop := ∃ v : Int32, r = some (.int v) ∧ u.heap = s.heap ∧ ((v = 1 ∧ q) ∨ (v = 0 ∧ ¬ q))
theorem Says01.mv {q : Prop} : ∀ r (U U' V V' : State), U'.heap = U.heap → V.vm.Alike V'.vm → V'.heap = V.heap → Says01 q r U V → Says01 q r U' V' :=
  fun r U U' V V' h1 _ h2 ⟨v, a, b, c⟩ => ⟨v, a, by rw [h1, h2]; exact b, c⟩
namespace LEq
def yN : MethodName := ⟨"java/lang/StringLatin1", "equals", "([B[B)Z"⟩
abbrev yB : ByteArray := jdk_43_method_13_code
theorem d0 : decode yB 0 = .ok (.aload_n 0, 1) := by decide +kernel
theorem d1 : decode yB 1 = .ok (.arraylength, 1) := by decide +kernel
theorem d2 : decode yB 2 = .ok (.aload_n 1, 1) := by decide +kernel
theorem d3 : decode yB 3 = .ok (.arraylength, 1) := by decide +kernel
theorem d4 : decode yB 4 = .ok (.if_icmp (.ne) 30, 3) := by decide +kernel
theorem d7 : decode yB 7 = .ok (.iconst 0, 1) := by decide +kernel
theorem d8 : decode yB 8 = .ok (.istore_n 2, 1) := by decide +kernel
theorem d9 : decode yB 9 = .ok (.iload_n 2, 1) := by decide +kernel
theorem d10 : decode yB 10 = .ok (.aload_n 0, 1) := by decide +kernel
theorem d11 : decode yB 11 = .ok (.arraylength, 1) := by decide +kernel
theorem d12 : decode yB 12 = .ok (.if_icmp (.ge) 20, 3) := by decide +kernel
theorem d15 : decode yB 15 = .ok (.aload_n 0, 1) := by decide +kernel
theorem d16 : decode yB 16 = .ok (.iload_n 2, 1) := by decide +kernel
theorem d17 : decode yB 17 = .ok (.baload, 1) := by decide +kernel
theorem d18 : decode yB 18 = .ok (.aload_n 1, 1) := by decide +kernel
theorem d19 : decode yB 19 = .ok (.iload_n 2, 1) := by decide +kernel
theorem d20 : decode yB 20 = .ok (.baload, 1) := by decide +kernel
theorem d21 : decode yB 21 = .ok (.if_icmp (.eq) 5, 3) := by decide +kernel
theorem d24 : decode yB 24 = .ok (.iconst 0, 1) := by decide +kernel
theorem d25 : decode yB 25 = .ok (.ireturn, 1) := by decide +kernel
theorem d26 : decode yB 26 = .ok (.iinc 2 1, 3) := by decide +kernel
theorem d29 : decode yB 29 = .ok (.goto (-20), 3) := by decide +kernel
theorem d32 : decode yB 32 = .ok (.iconst 1, 1) := by decide +kernel
theorem d33 : decode yB 33 = .ok (.ireturn, 1) := by decide +kernel
theorem d34 : decode yB 34 = .ok (.iconst 0, 1) := by decide +kernel
theorem d35 : decode yB 35 = .ok (.ireturn, 1) := by decide +kernel
def site : List Cond := []
def tab : Cond := tabOf yN yB 3 (some .boolean) site
def P (a : Addr) (A : Cell) (b : Addr) (B : Cell) (args : Array Value) (s : State) : Prop := args = #[.ref a, .ref b] ∧ XT.Arr .byte a A s ∧ Typed .byte A ∧ XT.Arr .byte b B s ∧ Typed .byte B
/-- whether two byte[] are equal, place for place -/
theorem law (l : Launch) (a : Addr) (A : Cell) (b : Addr) (B : Cell) : Law l yN 2 2 0 0 yB 3 (some .boolean) site (P a A b B) (Says01 (EqC A B)) [] 0 0 := by
  refine Law.of_walk (plainFor_of_name (by decide +kernel)) (by decide +kernel) (by decide +kernel) (by decide) (fun _ _ h => by rw [h.1]; rfl) (fun _ U U' hal hh h => ⟨h.1, h.2.1.mv hal hh, h.2.2.1, h.2.2.2.1.mv hal hh, h.2.2.2.2⟩) (fun r U U' V V' h1 hal h2 h => Says01.mv r U U' V V' h1 hal h2 h) ?_
  intro p e s m args below meth c s₁ X0 hexec hbytes hml hret hlk hnm hown hh0 W hP
  obtain ⟨rfl, hA, tA, hB, tB⟩ := hP
  have a31 := hA.2.2.2
  have b31 := hB.2.2.2
  have hA0 := hA.mv X0.warmed.alike hh0
  have hB0 := hB.mv X0.warmed.alike hh0
  have c1 : Steps p.tables e below (s₁.setTop (entryFrame m #[.ref a, .ref b] 3)) (s₁.setTop (mkF m 0 #[.val (.ref a), .val (.ref b), .unset] [])) := entry rfl
  have c2 : Steps p.tables e below (s₁.setTop (entryFrame m #[.ref a, .ref b] 3)) (s₁.setTop (mkF m 4 #[.val (.ref a), .val (.ref b), .unset] [.int (Int32.ofNat B.slots.size), .int (Int32.ofNat A.slots.size)])) := c1.trans (by
    refine XS.aloadN X0.here hexec rfl (hb hbytes d0) rfl rfl ?_
    refine X0.alen hexec hA0 rfl rfl (hb hbytes d1) ?_
    refine XS.aloadN X0.here hexec rfl (hb hbytes d2) rfl rfl ?_
    refine X0.alen hexec hB0 rfl rfl (hb hbytes d3) ?_
    exact Steps.refl _)
  by_cases hs : A.slots.size = B.slots.size
  · have c3 : Steps p.tables e below (s₁.setTop (entryFrame m #[.ref a, .ref b] 3)) (s₁.setTop (mkF m 9 #[.val (.ref a), .val (.ref b), .val (.int 0)] [])) := c2.trans (by
      refine XS.icmpNo X0.here hexec rfl (hb hbytes d4) rfl (ii_ne_f (by rw [hs])) ?_
      refine iconstV X0.here hexec rfl 0 (hb hbytes d7) (by decide) ?_
      refine XS.istoreN X0.here hexec rfl (hb hbytes d8) rfl rfl ?_
      exact Steps.refl _)
    have loop : ∀ (r i : Nat), i + r = A.slots.size → (∀ j, j < i → yv A j = yv B j) → Steps p.tables e below (s₁.setTop (entryFrame m #[.ref a, .ref b] 3)) (s₁.setTop (mkF m 9 #[.val (.ref a), .val (.ref b), .val (.int (Int32.ofNat i))] [])) → ∃ (pc : Nat) (Ls : Array Slot) (v : Int32), (pc = 25 ∨ pc = 33) ∧ ((v = 1 ∧ EqC A B) ∨ (v = 0 ∧ ¬ EqC A B)) ∧ Steps p.tables e below (s₁.setTop (entryFrame m #[.ref a, .ref b] 3)) (s₁.setTop (mkF m pc Ls [.int v])) := by
      intro r
      induction r with
      | zero =>
        intro i hi he cl
        exact ⟨33, _, 1, Or.inr rfl, Or.inl ⟨rfl, hs, fun j hj => he j (by omega)⟩, cl.trans (by
          refine XS.iloadN X0.here hexec rfl (hb hbytes d9) rfl ?_
          refine XS.aloadN X0.here hexec rfl (hb hbytes d10) rfl rfl ?_
          refine X0.alen hexec hA0 rfl rfl (hb hbytes d11) ?_
          refine XS.icmpYes X0.here hexec rfl (pc0 := 12) rfl (hb hbytes d12) rfl (ii_ge_t (nlt32 (by omega) (by omega))) (by decide) rfl ?_
          refine iconstV X0.here hexec rfl 1 (hb hbytes d32) (by decide) ?_
          exact Steps.refl _)⟩
      | succ r ih =>
        intro i hi he cl
        have c4 : Steps p.tables e below (s₁.setTop (entryFrame m #[.ref a, .ref b] 3)) (s₁.setTop (mkF m 21 #[.val (.ref a), .val (.ref b), .val (.int (Int32.ofNat i))] [.int (yv B i), .int (yv A i)])) := cl.trans (by
          refine XS.iloadN X0.here hexec rfl (hb hbytes d9) rfl ?_
          refine XS.aloadN X0.here hexec rfl (hb hbytes d10) rfl rfl ?_
          refine X0.alen hexec hA0 rfl rfl (hb hbytes d11) ?_
          refine XS.icmpNo X0.here hexec rfl (hb hbytes d12) rfl (ii_ge_f (lt32 (by omega) (by omega))) ?_
          refine XS.aloadN X0.here hexec rfl (hb hbytes d15) rfl rfl ?_
          refine XS.iloadN X0.here hexec rfl (hb hbytes d16) rfl ?_
          refine X0.aget hexec hA0 rfl (yv_get hA tA (i := i) (by omega)) rfl rfl (hb hbytes d17) ?_
          refine XS.aloadN X0.here hexec rfl (hb hbytes d18) rfl rfl ?_
          refine XS.iloadN X0.here hexec rfl (hb hbytes d19) rfl ?_
          refine X0.aget hexec hB0 rfl (yv_get hB tB (i := i) (by omega)) rfl rfl (hb hbytes d20) ?_
          exact Steps.refl _)
        by_cases hv : yv A i = yv B i
        · have c5 : Steps p.tables e below (s₁.setTop (entryFrame m #[.ref a, .ref b] 3)) (s₁.setTop (mkF m 9 #[.val (.ref a), .val (.ref b), .val (.int (Int32.ofNat i + 1))] [])) := c4.trans (by
            refine XS.icmpYes X0.here hexec rfl (pc0 := 21) rfl (hb hbytes d21) rfl (ii_eq_t hv) (by decide) rfl ?_
            refine iincV X0.here hexec rfl 1 (hb hbytes d26) (by decide) rfl rfl ?_
            refine XS.goto X0.here hexec rfl (pc0 := 29) rfl (hb hbytes d29) (by decide) rfl ?_
            exact Steps.refl _)
          rw [succ32] at c5
          exact ih (i + 1) (by omega) (fun j hj => by
            by_cases e : j = i
            · rw [e]; exact hv
            · exact he j (by omega)) c5
        · exact ⟨25, _, 0, Or.inl rfl, Or.inr ⟨rfl, fun q => hv (q.2 i (by omega))⟩, c4.trans (by
            refine XS.icmpNo X0.here hexec rfl (hb hbytes d21) rfl (ii_eq_f hv) ?_
            refine iconstV X0.here hexec rfl 0 (hb hbytes d24) (by decide) ?_
            exact Steps.refl _)⟩
    obtain ⟨pc, Ls, v, hpc, hv, cz⟩ := loop A.slots.size 0 (by omega) (fun j hj => absurd hj (Nat.not_lt_zero j)) c3
    have nv : narrow .boolean (.int v) = .int v := by rcases hv with ⟨rfl, -⟩ | ⟨rfl, -⟩ <;> rfl
    rcases hpc with rfl | rfl
    · exact ⟨s₁, some (.int v), _, _, _, X0, rfl, rfl, rfl, (fun h => by cases h), ⟨v, rfl, hh0, hv⟩, fun fs hl => cz.trans (X0.ireturnOut hexec hret nv (Or.inr (Or.inl rfl)) (hb hbytes d25) hl)⟩
    · exact ⟨s₁, some (.int v), _, _, _, X0, rfl, rfl, rfl, (fun h => by cases h), ⟨v, rfl, hh0, hv⟩, fun fs hl => cz.trans (X0.ireturnOut hexec hret nv (Or.inr (Or.inl rfl)) (hb hbytes d33) hl)⟩
  · have c3 : Steps p.tables e below (s₁.setTop (entryFrame m #[.ref a, .ref b] 3)) (s₁.setTop (mkF m 35 #[.val (.ref a), .val (.ref b), .unset] [.int 0])) := c2.trans (by
      refine XS.icmpYes X0.here hexec rfl (pc0 := 4) rfl (hb hbytes d4) rfl (ii_ne_t (ne32 a31 b31 hs)) (by decide) rfl ?_
      refine iconstV X0.here hexec rfl 0 (hb hbytes d34) (by decide) ?_
      exact Steps.refl _)
    exact ⟨s₁, some (.int 0), _, _, _, X0, rfl, rfl, rfl, (fun h => by cases h), ⟨0, rfl, hh0, Or.inr ⟨rfl, fun q => hs q.1⟩⟩, fun fs hl => c3.trans (X0.ireturnOut hexec hret rfl (Or.inr (Or.inl rfl)) (hb hbytes d35) hl)⟩
end LEq
theorem Cod.ty {cd : Int32} {n : Nat} {f : Nat → Int32} {V : Cell} (h : Cod cd n f V) : Typed .byte V := fun i v hv => by
  have hi : i < V.slots.size := (Array.getElem?_eq_some_iff.mp hv).1
  rcases h with ⟨-, k1, k2⟩ | ⟨-, k1, k2, -⟩
  · rw [(k2 i (by omega)).1] at hv; cases hv; exact fits_lo8 _
  · rcases Nat.mod_two_eq_zero_or_one i with e | e
    · obtain ⟨j, rfl⟩ : ∃ j, i = 2 * j := ⟨i / 2, by omega⟩
      rw [(k2 j (by omega)).1] at hv; cases hv; exact fits_lo8 _
    · obtain ⟨j, rfl⟩ : ∃ j, i = 2 * j + 1 := ⟨i / 2, by omega⟩
      rw [(k2 j (by omega)).2] at hv; cases hv; exact fits_lo8 _
/-- the same text -/
def SameT (n : Nat) (f : Nat → Int32) (k : Nat) (g : Nat → Int32) : Prop := n = k ∧ ∀ j, j < n → f j = g j
theorem lo8_inj {x y : Int32} (h0 : ¬ x < 0) (h1 : ¬ 255 < x) (k0 : ¬ y < 0) (k1 : ¬ 255 < y) (h : lo8 x = lo8 y) : x = y := by
  rw [← lo8_mask h0 h1, ← lo8_mask k0 k1, h]
/-- arrays coded by one coder are equal just where the texts are -/
theorem Cod.eqv {cd : Int32} {n k : Nat} {f g : Nat → Int32} {V V' : Cell} (h : Cod cd n f V) (h' : Cod cd k g V') (hf : ∀ j, j < n → ¬ f j < 0 ∧ ¬ 65535 < f j) (hg : ∀ j, j < k → ¬ g j < 0 ∧ ¬ 65535 < g j) : EqC V V' ↔ SameT n f k g := by
  have yvv : ∀ {W : Cell} {i : Nat} {x : Int32}, W.slots[i]? = some (.int x) → yv W i = x := fun q => by unfold yv; rw [q]
  rcases h with ⟨rfl, k1, k2⟩ | ⟨rfl, k1, k2, -⟩
  · rcases h' with ⟨-, m1, m2⟩ | ⟨e, -⟩
    · constructor
      · rintro ⟨e1, e2⟩
        refine ⟨by omega, fun j hj => ?_⟩
        have q := e2 j (by omega)
        rw [yvv (k2 j hj).1, yvv (m2 j (by omega)).1] at q
        exact lo8_inj (hf j hj).1 (k2 j hj).2 (hg j (by omega)).1 (m2 j (by omega)).2 q
      · rintro ⟨rfl, e2⟩
        refine ⟨by omega, fun j hj => ?_⟩
        rw [yvv (k2 j (by omega)).1, yvv (m2 j (by omega)).1, e2 j (by omega)]
    · exact absurd e (by decide)
  · rcases h' with ⟨e, -⟩ | ⟨-, m1, m2, -⟩
    · exact absurd e (by decide)
    · constructor
      · rintro ⟨e1, e2⟩
        refine ⟨by omega, fun j hj => ?_⟩
        have q1 := e2 (2 * j) (by omega)
        have q2 := e2 (2 * j + 1) (by omega)
        rw [yvv (k2 j hj).1, yvv (m2 j (by omega)).1] at q1
        rw [yvv (k2 j hj).2, yvv (m2 j (by omega)).2] at q2
        rw [← pair_says (hf j hj).1 (hf j hj).2, ← pair_says (hg j (by omega)).1 (hg j (by omega)).2, q1, q2]
      · rintro ⟨rfl, e2⟩
        refine ⟨by omega, fun i hi => ?_⟩
        rcases Nat.mod_two_eq_zero_or_one i with e | e
        · obtain ⟨j, rfl⟩ : ∃ j, i = 2 * j := ⟨i / 2, by omega⟩
          rw [yvv (k2 j (by omega)).1, yvv (m2 j (by omega)).1, e2 j (by omega)]
        · obtain ⟨j, rfl⟩ : ∃ j, i = 2 * j + 1 := ⟨i / 2, by omega⟩
          rw [yvv (k2 j (by omega)).2, yvv (m2 j (by omega)).2, e2 j (by omega)]
/-- two codings differ: so do the texts -/
theorem Cod.dif {cd cd' : Int32} {n k : Nat} {f g : Nat → Int32} {V V' : Cell} (h : Cod cd n f V) (h' : Cod cd' k g V') (hne : ¬ cd = cd') : ¬ SameT n f k g := by
  rintro ⟨rfl, e⟩
  rcases h with ⟨rfl, -, k2⟩ | ⟨rfl, -, -, j, hj, hw⟩
  · rcases h' with ⟨rfl, -⟩ | ⟨-, -, -, j, hj, hw⟩
    · exact hne rfl
    · exact (k2 j hj).2 (by rw [e j hj]; exact hw)
  · rcases h' with ⟨-, -, m2⟩ | ⟨rfl, -⟩
    · exact (m2 j hj).2 (by rw [← e j hj]; exact hw)
    · exact hne rfl
/-- an object of exactly C is an instance of C -/
theorem cinst {p : Program} {l : Launch} {e : Env} {R : Room} {s : State} {m : MethodId} {args : Array Value} {below : List Frame} {meth : Method} {c : Code} {T : State} {locs : List Loc} {cells slots : Nat} (X : Stand p l e R s m args below meth c T locs cells slots) (hexec : p.tables.exec = Jvm.exec) {own C : String} {index : Nat} (hown : s.vm.findClass own = some m.cls) (hlink : (Cond.classLink own index C).before args s = true) {a : Addr} (hE : Exact C a T)
    {g : JFrame} (hg : g.method = m) {rest : List Value} (hstack : g.stack = .ref a :: rest) (hdg : decode c.code g.pc = .ok (.instanceof index, 3)) :
    ∃ T', Stand p l e R s m args below meth c T' locs cells slots ∧ T'.heap = T.heap ∧ ∀ target, Steps p.tables e below (T'.setTop { g with pc := g.pc + 3, stack := .int 1 :: rest }) target → Steps p.tables e below (T.setTop g) target := by
  obtain ⟨cB, h1, D, h2, h3, h4⟩ := hE
  have h1' : s.vm.findClass C = some cB := by rw [← X.warmed.alike.findClass]; exact h1
  obtain ⟨vm', X', st⟩ := X.instanceofYes hexec hown hlink h2 h4 h1' (by rw [h3]; exact Jvm.Free.SB.assignable_self _ _) hg hstack hdg
  exact ⟨_, X', rfl, st⟩
theorem cself {p : Program} {l : Launch} {e : Env} {R : Room} {s : State} {m : MethodId} {args : Array Value} {below : List Frame} {meth : Method} {c : Code} {T : State} {locs : List Loc} {cells slots : Nat} (X : Stand p l e R s m args below meth c T locs cells slots) (hexec : p.tables.exec = Jvm.exec) {own C : String} {index : Nat} (hown : s.vm.findClass own = some m.cls) (hlink : (Cond.classLink own index C).before args s = true) {a : Addr} (hE : Exact C a T)
    {g : JFrame} (hg : g.method = m) {rest : List Value} (hstack : g.stack = .ref a :: rest) (hdg : decode c.code g.pc = .ok (.checkcast index, 3)) :
    ∃ T', Stand p l e R s m args below meth c T' locs cells slots ∧ T'.heap = T.heap ∧ ∀ target, Steps p.tables e below (T'.setTop { g with pc := g.pc + 3, stack := .ref a :: rest }) target → Steps p.tables e below (T.setTop g) target := by
  obtain ⟨cB, h1, D, h2, h3, h4⟩ := hE
  have h1' : s.vm.findClass C = some cB := by rw [← X.warmed.alike.findClass]; exact h1
  obtain ⟨vm', X', st⟩ := X.checkcastYes hexec hown hlink h2 h4 h1' (by rw [h3]; exact Jvm.Free.SB.assignable_self _ _) hg hstack hdg
  exact ⟨_, X', rfl, fun t h => st t (by rw [← hstack] at h; exact h)⟩
namespace SEq
def yN : MethodName := ⟨"java/lang/String", "equals", "(Ljava/lang/Object;)Z"⟩
abbrev yB : ByteArray := jdk_42_method_66_code
theorem d0 : decode yB 0 = .ok (.aload_n 0, 1) := by decide +kernel
theorem d1 : decode yB 1 = .ok (.aload_n 1, 1) := by decide +kernel
theorem d2 : decode yB 2 = .ok (.if_acmp (.ne) 5, 3) := by decide +kernel
theorem d5 : decode yB 5 = .ok (.iconst 1, 1) := by decide +kernel
theorem d6 : decode yB 6 = .ok (.ireturn, 1) := by decide +kernel
theorem d7 : decode yB 7 = .ok (.aload_n 1, 1) := by decide +kernel
theorem d8 : decode yB 8 = .ok (.instanceof 10, 3) := by decide +kernel
theorem d11 : decode yB 11 = .ok (.ifCond (.eq) 43, 3) := by decide +kernel
theorem d14 : decode yB 14 = .ok (.aload_n 1, 1) := by decide +kernel
theorem d15 : decode yB 15 = .ok (.checkcast 10, 3) := by decide +kernel
theorem d18 : decode yB 18 = .ok (.astore_n 2, 1) := by decide +kernel
theorem d19 : decode yB 19 = .ok (.getstatic 38, 3) := by decide +kernel
theorem d22 : decode yB 22 = .ok (.ifCond (.eq) 14, 3) := by decide +kernel
theorem d25 : decode yB 25 = .ok (.aload_n 0, 1) := by decide +kernel
theorem d26 : decode yB 26 = .ok (.getfield 15, 3) := by decide +kernel
theorem d29 : decode yB 29 = .ok (.aload_n 2, 1) := by decide +kernel
theorem d30 : decode yB 30 = .ok (.getfield 15, 3) := by decide +kernel
theorem d33 : decode yB 33 = .ok (.if_icmp (.ne) 21, 3) := by decide +kernel
theorem d36 : decode yB 36 = .ok (.aload_n 0, 1) := by decide +kernel
theorem d37 : decode yB 37 = .ok (.getfield 9, 3) := by decide +kernel
theorem d40 : decode yB 40 = .ok (.aload_n 2, 1) := by decide +kernel
theorem d41 : decode yB 41 = .ok (.getfield 9, 3) := by decide +kernel
theorem d44 : decode yB 44 = .ok (.invokestatic 541, 3) := by decide +kernel
theorem d47 : decode yB 47 = .ok (.ifCond (.eq) 7, 3) := by decide +kernel
theorem d50 : decode yB 50 = .ok (.iconst 1, 1) := by decide +kernel
theorem d51 : decode yB 51 = .ok (.goto 4, 3) := by decide +kernel
theorem d54 : decode yB 54 = .ok (.iconst 0, 1) := by decide +kernel
theorem d55 : decode yB 55 = .ok (.ireturn, 1) := by decide +kernel
def site : List Cond := [.classLink "java/lang/String" 10 "java/lang/String", .fieldLink "java/lang/String" 38 "java/lang/String" "COMPACT_STRINGS" "Z", .fieldLink "java/lang/String" 15 "java/lang/String" "coder" "B", .fieldLink "java/lang/String" 9 "java/lang/String" "value" "[B", LEq.tab] ++ staticW "java/lang/String" 541 LEq.yN
def tab : Cond := tabOf yN yB 3 (some .boolean) site
def P (x t : Addr) (V : Cell) (cd : Int32) (n : Nat) (f : Nat → Int32) (y t' : Addr) (V' : Cell) (cd' : Int32) (k : Nat) (g : Nat → Int32) (z : Int32) (args : Array Value) (s : State) : Prop := args = #[.ref x, .ref y] ∧ Txt x t V cd n f s ∧ Txt y t' V' cd' k g s ∧ StaticIs s "java/lang/String" "COMPACT_STRINGS" "Z" (.int z) ∧ ¬ z = 0
/-- equals(Object) of two Strings: whether the texts are the same -/
theorem law (l : Launch) (x t : Addr) (V : Cell) (cd : Int32) (n : Nat) (f : Nat → Int32) (y t' : Addr) (V' : Cell) (cd' : Int32) (k : Nat) (g : Nat → Int32) (z : Int32) : Law l yN 2 1 1 14 yB 3 (some .boolean) site (P x t V cd n f y t' V' cd' k g z) (Says01 (SameT n f k g)) [] 0 0 := by
  refine Law.of_walk (plainFor_of_name (by decide +kernel)) (by decide +kernel) (by decide +kernel) (by decide) (fun _ _ h => by rw [h.1]; rfl) (fun _ U U' hal hh h => ⟨h.1, h.2.1.mv hal hh, h.2.2.1.mv hal hh, h.2.2.2.1.there hal hh, h.2.2.2.2⟩) (fun r U U' V V' h1 hal h2 h => Says01.mv r U U' V V' h1 hal h2 h) ?_
  intro p e s m args below meth c s₁ X0 hexec hbytes hml hret hlk hnm hown hh0 W hP
  obtain ⟨rfl, hx, hy, s1, hz⟩ := hP
  have c1 : Steps p.tables e below (s₁.setTop (entryFrame m #[.ref x, .ref y] 3)) (s₁.setTop (mkF m 2 #[.val (.ref x), .val (.ref y), .unset] [.ref y, .ref x])) := Steps.trans (entry rfl) (by
    show Steps p.tables e below (s₁.setTop (mkF m 0 #[.val (.ref x), .val (.ref y), .unset] [])) _
    refine XS.aloadN X0.here hexec rfl (hb hbytes d0) rfl rfl ?_
    refine XS.aloadN X0.here hexec rfl (hb hbytes d1) rfl rfl ?_
    exact Steps.refl _)
  by_cases hxy : x = y
  · have c2 : Steps p.tables e below (s₁.setTop (entryFrame m #[.ref x, .ref y] 3)) (s₁.setTop (mkF m 6 #[.val (.ref x), .val (.ref y), .unset] [.int 1])) := c1.trans (by
      refine acmpNo X0.here hexec rfl (hb hbytes d2) rfl rfl rfl (by simp [acmp, hxy]) ?_
      refine iconstV X0.here hexec rfl 1 (hb hbytes d5) (by decide) ?_
      exact Steps.refl _)
    subst hxy
    have ec : cd = cd' := by
      obtain ⟨D, fd, a1, a2, a3⟩ := hx.2.2.1
      obtain ⟨D', fd', b1, b2, b3⟩ := hy.2.2.1
      cases a1.symm.trans b1
      obtain ⟨q1, q2, q3, q4⟩ := a2.1
      obtain ⟨r1, r2, r3, r4⟩ := b2.1
      cases q4.symm.trans r4
      cases a3.symm.trans b3; rfl
    have et : t = t' := by
      obtain ⟨D, fd, a1, a2, a3⟩ := hx.2.1
      obtain ⟨D', fd', b1, b2, b3⟩ := hy.2.1
      cases a1.symm.trans b1
      obtain ⟨q1, q2, q3, q4⟩ := a2.1
      obtain ⟨r1, r2, r3, r4⟩ := b2.1
      cases q4.symm.trans r4
      cases a3.symm.trans b3; rfl
    subst ec et
    have ev : V = V' := by cases hx.2.2.2.1.1.symm.trans hy.2.2.2.1.1; rfl
    subst ev
    have hs : SameT n f k g := (Cod.eqv hx.2.2.2.2.1 hy.2.2.2.2.1 hx.2.2.2.2.2 hy.2.2.2.2.2).mp ⟨rfl, fun _ _ => rfl⟩
    exact ⟨s₁, some (.int 1), _, _, _, X0, rfl, rfl, rfl, (fun h => by cases h), ⟨1, rfl, hh0, Or.inl ⟨rfl, hs⟩⟩, fun fs hl => c2.trans (X0.ireturnOut hexec hret rfl (Or.inr (Or.inl rfl)) (hb hbytes d6) hl)⟩
  · have c2 : Steps p.tables e below (s₁.setTop (entryFrame m #[.ref x, .ref y] 3)) (s₁.setTop (mkF m 8 #[.val (.ref x), .val (.ref y), .unset] [.ref y])) := c1.trans (by
      refine acmpYes X0.here hexec rfl (pc0 := 2) rfl (hb hbytes d2) rfl rfl rfl (by simp [acmp, hxy]) (by decide) rfl ?_
      refine XS.aloadN X0.here hexec rfl (hb hbytes d7) rfl rfl ?_
      exact Steps.refl _)
    obtain ⟨T3, X3, q3, st3⟩ := cinst X0 hexec hown (wk W (.classLink "java/lang/String" 10 "java/lang/String")) (hy.mv X0.warmed.alike hh0).1 (g := (mkF m 8 #[.val (.ref x), .val (.ref y), .unset] [.ref y])) rfl (rest := []) rfl (hb hbytes d8)
    have hh3 := q3.trans hh0
    have c4 : Steps p.tables e below (s₁.setTop (entryFrame m #[.ref x, .ref y] 3)) (T3.setTop (mkF m 15 #[.val (.ref x), .val (.ref y), .unset] [.ref y])) := (c2.trans (st3 _ (Steps.refl _))).trans (by
      refine XS.ifNo X3.here hexec rfl (hb hbytes d11) rfl (i0_eq_f (by decide)) ?_
      refine XS.aloadN X3.here hexec rfl (hb hbytes d14) rfl rfl ?_
      exact Steps.refl _)
    obtain ⟨T5, X5, q5, st5⟩ := cself X3 hexec hown (wk W (.classLink "java/lang/String" 10 "java/lang/String")) (hy.mv X3.warmed.alike hh3).1 (g := (mkF m 15 #[.val (.ref x), .val (.ref y), .unset] [.ref y])) rfl (rest := []) rfl (hb hbytes d15)
    have hh5 := q5.trans hh3
    have c6 : Steps p.tables e below (s₁.setTop (entryFrame m #[.ref x, .ref y] 3)) (T5.setTop (mkF m 19 #[.val (.ref x), .val (.ref y), .val (.ref y)] [])) := (c4.trans (st5 _ (Steps.refl _))).trans (by
      refine XS.astoreN X5.here hexec rfl (hb hbytes d18) rfl rfl rfl ?_
      exact Steps.refl _)
    obtain ⟨T7, X7, q7, st7⟩ := X5.sget hexec hown (wk W (.fieldLink "java/lang/String" 38 "java/lang/String" "COMPACT_STRINGS" "Z")) s1 (fun _ _ h => by rw [hh5]; exact h) (g := (mkF m 19 #[.val (.ref x), .val (.ref y), .val (.ref y)] [])) rfl (hb hbytes d19)
    have hh7 := q7.trans hh5
    have c8 : Steps p.tables e below (s₁.setTop (entryFrame m #[.ref x, .ref y] 3)) (T7.setTop (mkF m 26 #[.val (.ref x), .val (.ref y), .val (.ref y)] [.ref x])) := (c6.trans (st7 _ (Steps.refl _))).trans (by
      refine XS.ifNo X7.here hexec rfl (hb hbytes d22) rfl (i0_eq_f hz) ?_
      refine XS.aloadN X7.here hexec rfl (hb hbytes d25) rfl rfl ?_
      exact Steps.refl _)
    obtain ⟨T9, X9, q9, st9⟩ := X7.hget hexec hown (wk W (.fieldLink "java/lang/String" 15 "java/lang/String" "coder" "B")) (hx.mv X7.warmed.alike hh7).2.2.1 (g := (mkF m 26 #[.val (.ref x), .val (.ref y), .val (.ref y)] [.ref x])) rfl (rest := []) rfl (hb hbytes d26)
    have hh9 := q9.trans hh7
    have c10 : Steps p.tables e below (s₁.setTop (entryFrame m #[.ref x, .ref y] 3)) (T9.setTop (mkF m 30 #[.val (.ref x), .val (.ref y), .val (.ref y)] [.ref y, .int cd])) := (c8.trans (st9 _ (Steps.refl _))).trans (by
      refine XS.aloadN X9.here hexec rfl (hb hbytes d29) rfl rfl ?_
      exact Steps.refl _)
    obtain ⟨T11, X11, q11, st11⟩ := X9.hget hexec hown (wk W (.fieldLink "java/lang/String" 15 "java/lang/String" "coder" "B")) (hy.mv X9.warmed.alike hh9).2.2.1 (g := (mkF m 30 #[.val (.ref x), .val (.ref y), .val (.ref y)] [.ref y, .int cd])) rfl (rest := [.int cd]) rfl (hb hbytes d30)
    have hh11 := q11.trans hh9
    have c12 : Steps p.tables e below (s₁.setTop (entryFrame m #[.ref x, .ref y] 3)) (T11.setTop (mkF m 33 #[.val (.ref x), .val (.ref y), .val (.ref y)] [.int cd', .int cd])) := c10.trans (st11 _ (Steps.refl _))
    by_cases hcd : cd = cd'
    · subst hcd
      have c13 : Steps p.tables e below (s₁.setTop (entryFrame m #[.ref x, .ref y] 3)) (T11.setTop (mkF m 37 #[.val (.ref x), .val (.ref y), .val (.ref y)] [.ref x])) := c12.trans (by
        refine XS.icmpNo X11.here hexec rfl (hb hbytes d33) rfl (ii_ne_f rfl) ?_
        refine XS.aloadN X11.here hexec rfl (hb hbytes d36) rfl rfl ?_
        exact Steps.refl _)
      obtain ⟨T14, X14, q14, st14⟩ := X11.hget hexec hown (wk W (.fieldLink "java/lang/String" 9 "java/lang/String" "value" "[B")) (hx.mv X11.warmed.alike hh11).2.1 (g := (mkF m 37 #[.val (.ref x), .val (.ref y), .val (.ref y)] [.ref x])) rfl (rest := []) rfl (hb hbytes d37)
      have hh14 := q14.trans hh11
      have c15 : Steps p.tables e below (s₁.setTop (entryFrame m #[.ref x, .ref y] 3)) (T14.setTop (mkF m 41 #[.val (.ref x), .val (.ref y), .val (.ref y)] [.ref y, .ref t])) := (c13.trans (st14 _ (Steps.refl _))).trans (by
        refine XS.aloadN X14.here hexec rfl (hb hbytes d40) rfl rfl ?_
        exact Steps.refl _)
      obtain ⟨T16, X16, q16, st16⟩ := X14.hget hexec hown (wk W (.fieldLink "java/lang/String" 9 "java/lang/String" "value" "[B")) (hy.mv X14.warmed.alike hh14).2.1 (g := (mkF m 41 #[.val (.ref x), .val (.ref y), .val (.ref y)] [.ref y, .ref t])) rfl (rest := [.ref t]) rfl (hb hbytes d41)
      have hh16 := q16.trans hh14
      have c17 : Steps p.tables e below (s₁.setTop (entryFrame m #[.ref x, .ref y] 3)) (T16.setTop (mkF m 44 #[.val (.ref x), .val (.ref y), .val (.ref y)] [.ref t', .ref t])) := c15.trans (st16 _ (Steps.refl _))
      obtain ⟨v18, T18, X18, E18, g18⟩ := X16.callS hexec (LEq.law l t V t' V') hown (wks W (staticW "java/lang/String" 541 LEq.yN)) (wk W LEq.tab) (W := 0) (Nat.le_of_ble_eq_true rfl) (Nat.le_of_ble_eq_true rfl) (Nat.le_refl _) (Nat.le_refl _) (g := (mkF m 44 #[.val (.ref x), .val (.ref y), .val (.ref y)] [.ref t', .ref t])) rfl (by rw [hml]; rfl) c17 (argsL := [.ref t, .ref t']) (rest := []) rfl rfl (by show 2 * 0 + 0 ≤ _; decide) (hb hbytes d44) (⟨rfl, hx.2.2.2.1.mv X16.warmed.alike hh16, hx.2.2.2.2.1.ty, hy.2.2.2.1.mv X16.warmed.alike hh16, hy.2.2.2.2.1.ty⟩)
      obtain ⟨v, rfl, q18, hv⟩ := E18
      have iff := Cod.eqv hx.2.2.2.2.1 hy.2.2.2.2.1 hx.2.2.2.2.2 hy.2.2.2.2.2
      rcases hv with ⟨rfl, he⟩ | ⟨rfl, he⟩
      · have c19 : Steps p.tables e below (s₁.setTop (entryFrame m #[.ref x, .ref y] 3)) (T18.setTop (mkF m 55 #[.val (.ref x), .val (.ref y), .val (.ref y)] [.int 1])) := Steps.trans g18 (by
          refine XS.ifNo X18.here hexec rfl (hb hbytes d47) rfl (i0_eq_f (by decide)) ?_
          refine iconstV X18.here hexec rfl 1 (hb hbytes d50) (by decide) ?_
          refine XS.goto X18.here hexec rfl (pc0 := 51) rfl (hb hbytes d51) (by decide) rfl ?_
          exact Steps.refl _)
        exact ⟨T18, some (.int 1), _, _, _, X18, rfl, rfl, rfl, (fun h => by cases h), ⟨1, rfl, q18.trans hh16, Or.inl ⟨rfl, iff.mp he⟩⟩, fun fs hl => c19.trans (X18.ireturnOut hexec hret rfl (Or.inr (Or.inl rfl)) (hb hbytes d55) hl)⟩
      · have c19 : Steps p.tables e below (s₁.setTop (entryFrame m #[.ref x, .ref y] 3)) (T18.setTop (mkF m 55 #[.val (.ref x), .val (.ref y), .val (.ref y)] [.int 0])) := Steps.trans g18 (by
          refine XS.ifYes X18.here hexec rfl (pc0 := 47) rfl (hb hbytes d47) rfl (i0_eq_t rfl) (by decide) rfl ?_
          refine iconstV X18.here hexec rfl 0 (hb hbytes d54) (by decide) ?_
          exact Steps.refl _)
        exact ⟨T18, some (.int 0), _, _, _, X18, rfl, rfl, rfl, (fun h => by cases h), ⟨0, rfl, q18.trans hh16, Or.inr ⟨rfl, fun q => he (iff.mpr q)⟩⟩, fun fs hl => c19.trans (X18.ireturnOut hexec hret rfl (Or.inr (Or.inl rfl)) (hb hbytes d55) hl)⟩
    · have c13 : Steps p.tables e below (s₁.setTop (entryFrame m #[.ref x, .ref y] 3)) (T11.setTop (mkF m 55 #[.val (.ref x), .val (.ref y), .val (.ref y)] [.int 0])) := c12.trans (by
        refine XS.icmpYes X11.here hexec rfl (pc0 := 33) rfl (hb hbytes d33) rfl (ii_ne_t hcd) (by decide) rfl ?_
        refine iconstV X11.here hexec rfl 0 (hb hbytes d54) (by decide) ?_
        exact Steps.refl _)
      exact ⟨T11, some (.int 0), _, _, _, X11, rfl, rfl, rfl, (fun h => by cases h), ⟨0, rfl, hh11, Or.inr ⟨rfl, Cod.dif hx.2.2.2.2.1 hy.2.2.2.2.1 hcd⟩⟩, fun fs hl => c13.trans (X11.ireturnOut hexec hret rfl (Or.inr (Or.inl rfl)) (hb hbytes d55) hl)⟩
theorem pays {l : Launch} {R : Room} {p : Program} {e : Env} {below : List Frame} {s : State} {sargs : Array Value} {len W : Nat} (x t : Addr) (V : Cell) (cd : Int32) (n : Nat) (f : Nat → Int32) (y t' : Addr) (V' : Cell) (cd' : Int32) (k : Nat) (g : Nat → Int32) (z : Int32) (htab : tab.before sargs s = true) (hfr : 2 ≤ R.frames) (hlo : W + 28 ≤ R.locals) :
    Back l R p e below s sargs yN len W (fun A₁ a₁ => A₁.cells + 0 ≤ R.cells ∧ A₁.slots + 0 ≤ R.slots ∧ P x t V cd n f y t' V' cd' k g z a₁ A₁.U) (fun A₁ _ v₁ B₁ => Says01 (SameT n f k g) v₁ A₁.U B₁.U ∧ B₁.locs = A₁.locs ++ [] ∧ B₁.cells = A₁.cells + 0 ∧ B₁.slots = A₁.slots + 0) :=
  (law l x t V cd n f y t' V' cd' k g z).pays htab hfr (by omega)
end SEq
end StrChars
namespace StrChars.Road
open Jvm Sem ClassFile Op Lib Jvm.Stand Jvm.Free Jvm.Free.XT
open Jvm.Lib.Cold (StaticIs)
/-- the words of String.equals(Object) -/
abbrev wordsEq : List Jvm.Cond := [.code SEq.yN SEq.yB 3 (some .boolean), .initialized ST, .classLink ST 10 ST, .fieldLink ST 38 ST "COMPACT_STRINGS" "Z", .fieldLink ST 15 ST "coder" "B", .fieldLink ST 9 ST "value" "[B", .methodLink ST 541 LEq.yN, .static LEq.yN, .code LEq.yN LEq.yB 3 (some .boolean), .initialized "java/lang/StringLatin1"]
theorem tabEq_of {a : Array Value} {s : State} (h : ∀ w ∈ wordsEq, w.before a s = true) : SEq.tab.before a s = true := by
  have hl : LEq.tab.before a s = true := unparts (wk h (.code LEq.yN LEq.yB 3 (some .boolean))) (wks h (.initialized LEq.yN.cls :: LEq.site))
  have q := consq hl h
  exact unparts (wk q (.code SEq.yN SEq.yB 3 (some .boolean))) (wks q (.initialized SEq.yN.cls :: SEq.site))
theorem movedEq {Z s : State} {a0 args : Array Value} (hZ : Z.Warmed39 s.vm) (hw : ∀ d ∈ wordsEq, d.before a0 Z = true) : ∀ d ∈ wordsEq, d.before args s = true := fun d hd => by
  have t : ∀ d ∈ wordsEq, (d.onTables && d.keepsFace) = true := by decide +kernel
  exact RoadKit.mv hZ (hw d hd) (t d hd)
/-- the road's facts of a String, as the laws ask it -/
theorem txt_of {Z U : State} {a0 : Array Value} {kI : Nat} (wi : (Jvm.Cond.instantiable ST kI).before a0 Z = true) (al : Z.vm.Alike U.vm) {x t : Addr} {kb : ClassId} {cs : List Int32} {cd N2 : Int32} {vs : List Value} (E : RoadKit.Exa Z U.heap x ST) (V : RoadKit.Fld Z U.heap x ST "value" "[B" (.ref t)) (C : RoadKit.Fld Z U.heap x ST "coder" "B" (.int cd)) (K : RoadKit.Arv Z U.heap t kb .byte N2 vs (.int 0)) (hc : CodA cs cd N2 vs) (hb : ∀ c ∈ cs, ¬ c < 0 ∧ ¬ (65535 : Int32) < c) (l2 : cs.length ≤ 4000) :
    ∃ A, Txt x t A cd cs.length (fun j => cs.getD j 0) U := by
  obtain ⟨A, K1, K2, K3, K4, K5, K6⟩ := K
  have hcod := hc.cod (by omega) K3 K5
  obtain ⟨D, fV, fC, hB, F1, F2, g1, g2, -, -⟩ := strObj wi al E V C
  exact ⟨A, ⟨_, hB.2.2.1, D, hB.1, rfl, by cases q : D.vm <;> first | rfl | exact absurd q (hB.2.1.2 _)⟩, Has.of hB F1 g1, Has.of hB F2 g2, ⟨K1.1, State.isArrayOf_alike al K1.2.1, K1.2.2, by rcases hcod with ⟨-, q, -⟩ | ⟨-, q, -⟩ <;> omega⟩, hcod, fun j hj => by
    have e : cs.getD j 0 = cs[j] := by simp [List.getD_eq_getElem?_getD, hj]
    show ¬ cs.getD j 0 < 0 ∧ ¬ 65535 < cs.getD j 0
    rw [e]; exact hb _ (List.getElem_mem _)⟩
theorem same_list (cs ds : List Int32) : SameT cs.length (fun j => cs.getD j 0) ds.length (fun j => ds.getD j 0) ↔ cs = ds := by
  constructor
  · rintro ⟨e, q⟩
    refine List.ext_getElem e fun j h1 h2 => ?_
    have := q j h1
    simpa [List.getD_eq_getElem?_getD, h1, h2] using this
  · rintro rfl
    exact ⟨rfl, fun _ _ => rfl⟩
/-- **equals(Object) OF TWO SUCH STRINGS**: 1 just where the chars are the same -/
theorem eqW {p : Program} {l : Launch} {e : Env} {R : Room} {s : State} {args : Array Value} {below : List Frame} {len W : Nat} {Z : State} {a0 : Array Value} {h : Heap} (hZ : Z.Warmed39 s.vm) (hw : ∀ d ∈ wordsEq, d.before a0 Z = true) {kI : Nat} (wi : (Jvm.Cond.instantiable ST kI).before a0 Z = true)
    {x t : Addr} {kb : ClassId} {cs : List Int32} {cd N2 : Int32} {vs : List Value} (E : RoadKit.Exa Z h x ST) (V : RoadKit.Fld Z h x ST "value" "[B" (.ref t)) (C : RoadKit.Fld Z h x ST "coder" "B" (.int cd)) (K : RoadKit.Arv Z h t kb .byte N2 vs (.int 0)) (hc : CodA cs cd N2 vs) (hb : ∀ c ∈ cs, ¬ c < 0 ∧ ¬ (65535 : Int32) < c) (l2 : cs.length ≤ 4000)
    {y t' : Addr} {kb' : ClassId} {ds : List Int32} {cd' N2' : Int32} {vs' : List Value} (E' : RoadKit.Exa Z h y ST) (V' : RoadKit.Fld Z h y ST "value" "[B" (.ref t')) (C' : RoadKit.Fld Z h y ST "coder" "B" (.int cd')) (K' : RoadKit.Arv Z h t' kb' .byte N2' vs' (.int 0)) (hc' : CodA ds cd' N2' vs') (hb' : ∀ c ∈ ds, ¬ c < 0 ∧ ¬ (65535 : Int32) < c) (l2' : ds.length ≤ 4000)
    {z : Int32} (S : RoadKit.Sta Z h ST "COMPACT_STRINGS" "Z" (.int z)) (hz : ¬ z = 0) (hfr : 2 ≤ R.frames) (hlo : W + 28 ≤ R.locals) :
    Back l R p e below s args (⟨"java/lang/String", "equals", "(Ljava/lang/Object;)Z"⟩ : MethodName) len W (fun P a => a = #[.ref x, .ref y] ∧ P.U.heap = h ∧ P.cells + 0 ≤ R.cells ∧ P.slots + 0 ≤ R.slots)
      (fun P _ v B => ∃ L, (((v = some (.int 1) ∧ cs = ds) ∨ (v = some (.int 0) ∧ ¬ cs = ds)) ∧ L = [] ∧ B.U.heap = h) ∧ B.locs = P.locs ++ L ∧ B.cells = P.cells + 0 ∧ B.slots = P.slots + 0) := by
  intro m meth c P g ig mk a X hg hsize hdg hW hn hp'
  obtain ⟨rfl, rfl, r1, r2⟩ := hp'
  have al : Z.vm.Alike P.U.vm := hZ.alike.trans X.warmed.alike
  obtain ⟨A, hx⟩ := txt_of wi al E V C K hc hb l2
  obtain ⟨A', hy⟩ := txt_of wi al E' V' C' K' hc' hb' l2'
  obtain ⟨v, B, X', ⟨⟨w, hv, hh, hq⟩, hl, hk, hs⟩, st⟩ := SEq.pays x t A cd cs.length (fun j => cs.getD j 0) y t' A' cd' ds.length (fun j => ds.getD j 0) z (tabEq_of (movedEq hZ hw)) hfr hlo m meth c P g ig mk _ X hg hsize hdg hW hn ⟨r1, r2, rfl, hx, hy, sta_is al S, hz⟩
  refine ⟨v, B, X', ⟨[], ⟨?_, rfl, hh⟩, hl, hk, hs⟩, st⟩
  rcases hq with ⟨rfl, q⟩ | ⟨rfl, q⟩
  · exact Or.inl ⟨hv, (same_list cs ds).mp q⟩
  · exact Or.inr ⟨hv, fun e => q ((same_list cs ds).mpr e)⟩
end StrChars.Road
namespace StrChars.Road
open Jvm Sem ClassFile Op Lib Jvm.Stand Jvm.Free Jvm.Free.XT
open Jvm.Lib.Cold (StaticIs)
/-- what backV says of its String, as the contracts of this text ask it: cs's low bytes, coder 0 -/
theorem codOf {cs : List Int32} {n : Nat} (hn : cs.length = n) (hb : ∀ c ∈ cs, ¬ 255 < c) : CodA cs 0 (Int32.ofNat n) ((cs.map lo8).map Value.int) := Or.inl ⟨rfl, by rw [hn], by simp [List.map_map, Function.comp_def], hb⟩
end StrChars.Road
end Jvm.Pilot.@@N@@
namespace Jvm.Pilot.@@N@@
open Jvm Jvm.ClassFile Sem Op Lib Jvm.Free Jvm.Stand Jvm.LawKit Jvm.RoadKit Bundle Jvm.Pilot.@@N@@.Jvm.D
section Own
variable {p : Program} {l : Launch} {e : Env} {R : Room} {s : State} {m : MethodId} {args : Array Value} {below : List Frame} {meth : Method} {c : Code} {T : State} {locs : List Loc} {cells slots : Nat} {Z : State} {a0 : Array Value} {h : Heap}
/-- from U the run comes to the method's end, and P holds there -/
def OGo (p : Program) (e : Env) (below : List Frame) (U : State) (P : State → Outcome → Prop) : Prop :=
  ∃ t o, Steps p.tables e below U t ∧ t.status = .running ∧ Ended t below o ∧ P t o
theorem OGo.step {U U' : State} {P : State → Outcome → Prop} (k : ∀ t, Steps p.tables e below U' t → Steps p.tables e below U t) (g : OGo p e below U' P) : OGo p e below U P := by
  obtain ⟨t, o, h1, h2⟩ := g
  exact ⟨t, o, k t h1, h2⟩
def OEnd (s : State) (Q : Option Value → Heap → List Loc → Prop) (kc ks : Nat) (t : State) (o : Outcome) : Prop :=
  ∃ v L, o = .returned v ∧ Q v t.heap L ∧ FrameEnd s o t L kc ks
/-- the contract of one body, at one array of arguments and one heap -/
abbrev OMet (l : Launch) (Z : State) (y : MethodName) (bytes : ByteArray) (maxL : Nat) (ret : Option FieldType) (ws : List Jvm.Cond) (rm : Room) (as' : Array Value) (h0 : Heap) (Q : Option Value → Heap → List Loc → Prop) : Prop :=
  MetFree l y (head1 (Jvm.Cond.code y bytes maxL ret :: ws) rm) (fun a U => a = as' ∧ Z.Warmed39 U.vm ∧ U.heap = h0) (fun _ _ _ _ _ => True) (fun _ U o U' => ∃ v L, o = .returned v ∧ Q v U'.heap L ∧ FrameEnd U o U' L rm.cells rm.slots)
theorem OMet.body {y : MethodName} {bytes : ByteArray} {maxL : Nat} {ret : Option FieldType} {ws : List Jvm.Cond} {rm : Room} {as' : Array Value} {h0 : Heap} {Q : Option Value → Heap → List Loc → Prop} (hpn : plainFor y = true)
    (b : ∀ (p : Program) (e : Env) (s : State) (m : MethodId) (below : List Frame) (meth : Method) (c : Code) (s₁ : State), p.tables.exec = Jvm.exec → c.code = bytes → c.maxLocals = maxL → s.vm.findClass y.cls = some m.cls → meth.name = y.name → meth.sig.returnType = ret → meth.locks = false → Z.Warmed39 s.vm →
      Stand p l e rm s m as' below meth c s₁ [] 0 0 → s₁.heap = h0 → OGo p e below (s₁.setTop (entryFrame m as' maxL)) (OEnd s Q rm.cells rm.slots)) : OMet l Z y bytes maxL ret ws rm as' h0 Q := by
  refine MetFree.of_bodySF hpn hisR ?_
  intro p e s m args below meth c s₁ Bd hml0 hP hK
  obtain ⟨rfl, hZ, hh⟩ := hP
  exact b p e s m below meth c s₁ Bd.exec Bd.bytes hml0 (findClass_of_methodNamed Bd.named) (name_of_methodNamed Bd.named Bd.method).1 Bd.returns Bd.notSynchronized hZ (Stand.of_body Bd) (by rw [← hh, Bd.state]; rfl)
theorem own_ret (X : Stand p l e R s m args below meth c T locs cells slots) (hx : p.tables.exec = Jvm.exec) (hlk : meth.locks = false) {pc : Nat} {Ls : Array Slot} {w : Value} {t : FieldType} {i : Instr} {rest : List Value} (hret : meth.sig.returnType = some t) (hn : narrow t w = w)
    (hi : (i = .ireturn ∧ (t = .int ∨ t = .boolean ∨ t = .byte ∨ t = .char ∨ t = .short) ∧ ∃ z, w = .int z) ∨ (i = .lreturn ∧ t = .long ∧ ∃ z, w = .long z) ∨ (i = .dreturn ∧ t = .double ∧ ∃ z, w = .double z) ∨ (i = .freturn ∧ t = .float ∧ ∃ z, w = .float z) ∨ (i = .areturn ∧ t.isReference = true ∧ w.isRef = true))
    (hd : decode c.code pc = .ok (i, 1)) {Q : Option Value → Heap → List Loc → Prop} {kc ks : Nat} (hQ : Q (some w) T.heap locs) (h1 : cells ≤ kc) (h2 : slots ≤ ks) : OGo p e below (T.setTop (mkF m pc Ls (w :: rest))) (OEnd s Q kc ks) := by
  obtain ⟨fs, hr, hrun, hended, hW, hsame⟩ := X.leave (v := some w) (fun h => by rw [hret] at h; cases h) hlk
  exact ⟨_, _, retOut X hx hret hn hi hd hr, hrun, hended, _, _, rfl, hQ, ⟨_, rfl⟩, hW, hsame.mono h1 h2⟩
theorem own_retN (X : Stand p l e R s m args below meth c T locs cells slots) (hx : p.tables.exec = Jvm.exec) (hlk : meth.locks = false) {pc : Nat} {Ls : Array Slot} {z : Int32} {t : FieldType} {rest : List Value} (hret : meth.sig.returnType = some t) (ht : t = .boolean ∨ t = .byte ∨ t = .char ∨ t = .short)
    (hd : decode c.code pc = .ok (.ireturn, 1)) {Q : Option Value → Heap → List Loc → Prop} {kc ks : Nat} (hQ : Q (some (.int (nar t z))) T.heap locs) (h1 : cells ≤ kc) (h2 : slots ≤ ks) : OGo p e below (T.setTop (mkF m pc Ls (.int z :: rest))) (OEnd s Q kc ks) := by
  obtain ⟨fs, hr, hrun, hended, hW, hsame⟩ := X.leave (v := some (.int (nar t z))) (fun h => by rw [hret] at h; cases h) hlk
  exact ⟨_, _, retN X hx hret ht hd hr, hrun, hended, _, _, rfl, hQ, ⟨_, rfl⟩, hW, hsame.mono h1 h2⟩
theorem own_ret0 (X : Stand p l e R s m args below meth c T locs cells slots) (hx : p.tables.exec = Jvm.exec) (hlk : meth.locks = false) {pc : Nat} {Ls : Array Slot} (hret : meth.sig.returnType = none)
    (hd : decode c.code pc = .ok (.return_, 1)) {Q : Option Value → Heap → List Loc → Prop} {kc ks : Nat} (hQ : Q none T.heap locs) (h1 : cells ≤ kc) (h2 : slots ≤ ks) : OGo p e below (T.setTop (mkF m pc Ls [])) (OEnd s Q kc ks) := by
  obtain ⟨fs, hr, hrun, hended, hW, hsame⟩ := X.leave (v := none) (fun _ => rfl) hlk
  exact ⟨_, _, X.returnOut hx hret hd hr, hrun, hended, _, _, rfl, hQ, ⟨_, rfl⟩, hW, hsame.mono h1 h2⟩
/-- who pays a call: at these arguments and this heap -/
abbrev OBack (l : Launch) (R : Room) (p : Program) (e : Env) (below : List Frame) (s : State) (args : Array Value) (y : MethodName) (len W : Nat) (as' : Array Value) (h : Heap) (kc ks : Nat) (Q : Option Value → Heap → List Loc → Prop) : Prop :=
  Back l R p e below s args y len W (fun P a => a = as' ∧ P.U.heap = h ∧ P.cells + kc ≤ R.cells ∧ P.slots + ks ≤ R.slots) (fun P _ v B => ∃ L, Q v B.U.heap L ∧ B.locs = P.locs ++ L ∧ B.cells = P.cells + kc ∧ B.slots = P.slots + ks)
/-- a static call by the callee's contract -/
theorem own_callSK (X : Stand p l e R s m args below meth c T locs cells slots) (hx : p.tables.exec = Jvm.exec) (hZ : Z.Warmed39 s.vm) {own : String} {index : Nat} {y : MethodName} {bytes : ByteArray} {maxL : Nat} {ret : Option FieldType}
    (hown : s.vm.findClass own = some m.cls) (w1 : (Jvm.Cond.methodLink own index y).before a0 Z = true) (w2 : (Jvm.Cond.static y).before a0 Z = true) (w3 : (Jvm.Cond.initialized y.cls).before a0 Z = true)
    (w4 : (Jvm.Cond.code y bytes maxL ret).before a0 Z = true) (hy : y.cls ≠ "java/lang/invoke/MethodHandle" ∧ y.cls ≠ "java/lang/invoke/VarHandle")
    {W : Nat} {kc ks : Nat} {argsL rest : List Value} {Q : Option Value → Heap → List Loc → Prop} (hK : OBack l R p e below s args y 3 W argsL.toArray h kc ks Q) (eT : T.heap = h)
    {pc : Nat} {Ls : Array Slot} (hsize : Ls.size = c.maxLocals) (hlen : ∀ sig, parseMethodDescriptor y.desc = some sig → argsL.length = sig.parameters.length) (hW : (rest.map fun v => v.category).sum = W)
    (hd : decode c.code pc = .ok (.invokestatic index, 3)) (hc : cells + kc ≤ R.cells) (hs : slots + ks ≤ R.slots) {P : State → Outcome → Prop}
    (k : ∀ (v : Option Value) (T' : State) (L : List Loc), Stand p l e R s m args below meth c T' (locs ++ L) (cells + kc) (slots + ks) → Q v T'.heap L → OGo p e below (T'.setTop (mkF m (pc + 3) Ls (v.toList ++ rest))) P) :
    OGo p e below (T.setTop (mkF m pc Ls (argsL.reverse ++ rest))) P := by
  obtain ⟨v, vm, ⟨T', L', k', n'⟩, -, X', ⟨L, hQ, l1, y1, z1⟩, st⟩ := Jvm.LawKit.callS X hx (y := y) hown (mvT hZ w1) (mvT hZ w2) (mvT hZ w3) (mvT hZ w4) hy hK (g := mkF m pc Ls (argsL.reverse ++ rest)) rfl hsize (argsL := argsL) (rest := rest) hlen rfl
    (by show 2 * 0 + _ ≤ _; rw [hW]; omega) hd (fun _ _ => ⟨rfl, eT, hc, hs⟩)
  dsimp only [Pt.U, Pt.locs, Pt.cells, Pt.slots] at X' l1 y1 z1 st hQ
  subst l1 y1 z1
  exact OGo.step st (k v T' L X' hQ)
theorem own_callS (X : Stand p l e R s m args below meth c T locs cells slots) (hx : p.tables.exec = Jvm.exec) (hZ : Z.Warmed39 s.vm) {own : String} {index : Nat} {y : MethodName} {bytes : ByteArray} {maxL : Nat} {ret : Option FieldType}
    (hown : s.vm.findClass own = some m.cls) (w1 : (Jvm.Cond.methodLink own index y).before a0 Z = true) (w2 : (Jvm.Cond.static y).before a0 Z = true) (w3 : (Jvm.Cond.initialized y.cls).before a0 Z = true)
    (w4 : (Jvm.Cond.code y bytes maxL ret).before a0 Z = true) (hy : y.cls ≠ "java/lang/invoke/MethodHandle" ∧ y.cls ≠ "java/lang/invoke/VarHandle")
    {W : Nat} {rm : Room} {argsL rest : List Value} {Q : Option Value → Heap → List Loc → Prop} (hM : OMet l Z y bytes maxL ret [] rm argsL.toArray h Q) (eT : T.heap = h)
    {pc : Nat} {Ls : Array Slot} (hsize : Ls.size = c.maxLocals) (hlen : ∀ sig, parseMethodDescriptor y.desc = some sig → argsL.length = sig.parameters.length) (hW : (rest.map fun v => v.category).sum = W)
    (hd : decode c.code pc = .ok (.invokestatic index, 3)) (hf : rm.frames + 1 ≤ R.frames) (hl : W + (maxL + 11) + rm.locals ≤ R.locals) (hc : cells + rm.cells ≤ R.cells) (hs : slots + rm.slots ≤ R.slots) {P : State → Outcome → Prop}
    (k : ∀ (v : Option Value) (T' : State) (L : List Loc), Stand p l e R s m args below meth c T' (locs ++ L) (cells + rm.cells) (slots + rm.slots) → Q v T'.heap L → OGo p e below (T'.setTop (mkF m (pc + 3) Ls (v.toList ++ rest))) P) :
    OGo p e below (T.setTop (mkF m pc Ls (argsL.reverse ++ rest))) P := 
  own_callSK X hx hZ hown w1 w2 w3 w4 hy (backOf (W := W) hM hZ w4 w3 hf hl) eT hsize hlen hW hd hc hs k
/-- a constructor by its contract -/
theorem own_specialK (X : Stand p l e R s m args below meth c T locs cells slots) (hx : p.tables.exec = Jvm.exec) (hZ : Z.Warmed39 s.vm) {own : String} {index : Nat} {y : MethodName} {bytes : ByteArray} {maxL : Nat} (hy1 : y.name = "<init>")
    (hown : s.vm.findClass own = some m.cls) (w1 : (Jvm.Cond.methodLink own index y).before a0 Z = true) (w2 : (Jvm.Cond.instanceMethod y).before a0 Z = true)
    (w4 : (Jvm.Cond.code y bytes maxL none).before a0 Z = true) (hy : y.cls ≠ "java/lang/invoke/MethodHandle" ∧ y.cls ≠ "java/lang/invoke/VarHandle") {a : Addr}
    {W : Nat} {kc ks : Nat} {argsL rest : List Value} {Q : Option Value → Heap → List Loc → Prop} (hK : OBack l R p e below s args y 3 W (.ref a :: argsL).toArray h kc ks Q) (eT : T.heap = h)
    {pc : Nat} {Ls : Array Slot} (hsize : Ls.size = c.maxLocals) (hlen : ∀ sig, parseMethodDescriptor y.desc = some sig → argsL.length = sig.parameters.length) (hW : (rest.map fun v => v.category).sum = W)
    (hd : decode c.code pc = .ok (.invokespecial index, 3)) (hc : cells + kc ≤ R.cells) (hs : slots + ks ≤ R.slots) {P : State → Outcome → Prop}
    (k : ∀ (v : Option Value) (T' : State) (L : List Loc), Stand p l e R s m args below meth c T' (locs ++ L) (cells + kc) (slots + ks) → Q v T'.heap L → OGo p e below (T'.setTop (mkF m (pc + 3) Ls (v.toList ++ rest))) P) :
    OGo p e below (T.setTop (mkF m pc Ls (argsL.reverse ++ .ref a :: rest))) P := by
  obtain ⟨v, vm, ⟨T', L', k', n'⟩, -, X', ⟨L, hQ, l1, y1, z1⟩, st⟩ := X.specialBack hx (y := y) hy1 hown (mvT hZ w1) (mvT hZ w2) (mvT hZ w4) hy hK (g := mkF m pc Ls (argsL.reverse ++ .ref a :: rest)) rfl hsize (Steps.refl _) (a := a) (argsL := argsL) (rest := rest) hlen rfl
    (by show 2 * 0 + _ ≤ _; rw [hW]; omega) hd (fun _ _ => ⟨rfl, eT, hc, hs⟩)
  dsimp only [Pt.U, Pt.locs, Pt.cells, Pt.slots] at X' l1 y1 z1 st hQ
  subst l1 y1 z1
  exact OGo.step (fun _ kk => st.trans kk) (k v T' L X' hQ)
theorem own_special (X : Stand p l e R s m args below meth c T locs cells slots) (hx : p.tables.exec = Jvm.exec) (hZ : Z.Warmed39 s.vm) {own : String} {index : Nat} {y : MethodName} {bytes : ByteArray} {maxL : Nat} (hy1 : y.name = "<init>")
    (hown : s.vm.findClass own = some m.cls) (w1 : (Jvm.Cond.methodLink own index y).before a0 Z = true) (w2 : (Jvm.Cond.instanceMethod y).before a0 Z = true)
    (w4 : (Jvm.Cond.code y bytes maxL none).before a0 Z = true) (w3 : (Jvm.Cond.initialized y.cls).before a0 Z = true) (hy : y.cls ≠ "java/lang/invoke/MethodHandle" ∧ y.cls ≠ "java/lang/invoke/VarHandle") {a : Addr}
    {W : Nat} {rm : Room} {argsL rest : List Value} {Q : Option Value → Heap → List Loc → Prop} (hM : OMet l Z y bytes maxL none [] rm (.ref a :: argsL).toArray h Q) (eT : T.heap = h)
    {pc : Nat} {Ls : Array Slot} (hsize : Ls.size = c.maxLocals) (hlen : ∀ sig, parseMethodDescriptor y.desc = some sig → argsL.length = sig.parameters.length) (hW : (rest.map fun v => v.category).sum = W)
    (hd : decode c.code pc = .ok (.invokespecial index, 3)) (hf : rm.frames + 1 ≤ R.frames) (hl : W + (maxL + 11) + rm.locals ≤ R.locals) (hc : cells + rm.cells ≤ R.cells) (hs : slots + rm.slots ≤ R.slots) {P : State → Outcome → Prop}
    (k : ∀ (v : Option Value) (T' : State) (L : List Loc), Stand p l e R s m args below meth c T' (locs ++ L) (cells + rm.cells) (slots + rm.slots) → Q v T'.heap L → OGo p e below (T'.setTop (mkF m (pc + 3) Ls (v.toList ++ rest))) P) :
    OGo p e below (T.setTop (mkF m pc Ls (argsL.reverse ++ .ref a :: rest))) P := 
  own_specialK X hx hZ hy1 hown w1 w2 w4 hy (backOf (W := W) hM hZ w4 w3 hf hl) eT hsize hlen hW hd hc hs k
/-- an instance method by its contract -/
theorem own_virtualK (X : Stand p l e R s m args below meth c T locs cells slots) (hx : p.tables.exec = Jvm.exec) (hZ : Z.Warmed39 s.vm) {own C : String} {index : Nat} {y z : MethodName}
    (hown : s.vm.findClass own = some m.cls) (w1 : (Jvm.Cond.methodLink own index y).before a0 Z = true) (w2 : (Jvm.Cond.declares y).before a0 Z = true) (hnf : NotFace s y) (w5 : (Jvm.Cond.selects C y z).before a0 Z = true) (w6 : (Jvm.Cond.instanceMethod z).before a0 Z = true)
    (hy : y.cls ≠ "java/lang/invoke/MethodHandle" ∧ y.cls ≠ "java/lang/invoke/VarHandle") {b : Addr} (hb : Exa Z h b C)
    {W : Nat} {kc ks : Nat} {argsL rest : List Value} {Q : Option Value → Heap → List Loc → Prop} (hK : OBack l R p e below s args z 3 W (.ref b :: argsL).toArray h kc ks Q) (eT : T.heap = h)
    {pc : Nat} {Ls : Array Slot} (hsize : Ls.size = c.maxLocals) (hlen : ∀ sig, parseMethodDescriptor y.desc = some sig → argsL.length = sig.parameters.length) (hW : (rest.map fun v => v.category).sum = W)
    (hd : decode c.code pc = .ok (.invokevirtual index, 3)) (hc : cells + kc ≤ R.cells) (hs : slots + ks ≤ R.slots) {P : State → Outcome → Prop}
    (k : ∀ (v : Option Value) (T' : State) (L : List Loc), Stand p l e R s m args below meth c T' (locs ++ L) (cells + kc) (slots + ks) → Q v T'.heap L → OGo p e below (T'.setTop (mkF m (pc + 3) Ls (v.toList ++ rest))) P) :
    OGo p e below (T.setTop (mkF m pc Ls (argsL.reverse ++ .ref b :: rest))) P := by
  obtain ⟨cq, kq, qa, qb, qc⟩ := isOf hZ eT hb
  obtain ⟨v, vm, ⟨T', L', k', n'⟩, -, X', ⟨L, hQ, l1, y1, z1⟩, st⟩ := X.virtualBack hx (y := y) (z := z) hown (mvT hZ w1) (mvT hZ w2) hnf (mvT hZ w5) (mvT hZ w6) hy hK qa qc (g := mkF m pc Ls (argsL.reverse ++ .ref b :: rest)) rfl hsize (Steps.refl _) (argsL := argsL) (rest := rest) hlen rfl
    (by show 2 * 0 + _ ≤ _; rw [hW]; omega) hd (fun _ _ => ⟨rfl, eT, hc, hs⟩)
  dsimp only [Pt.U, Pt.locs, Pt.cells, Pt.slots] at X' l1 y1 z1 st hQ
  subst l1 y1 z1
  exact OGo.step (fun _ kk => st.trans kk) (k v T' L X' hQ)
theorem own_virtual (X : Stand p l e R s m args below meth c T locs cells slots) (hx : p.tables.exec = Jvm.exec) (hZ : Z.Warmed39 s.vm) {own C : String} {index : Nat} {y z : MethodName} {bytes : ByteArray} {maxL : Nat} {ret : Option FieldType}
    (hown : s.vm.findClass own = some m.cls) (w1 : (Jvm.Cond.methodLink own index y).before a0 Z = true) (w2 : (Jvm.Cond.declares y).before a0 Z = true) (hnf : NotFace s y) (w5 : (Jvm.Cond.selects C y z).before a0 Z = true) (w6 : (Jvm.Cond.instanceMethod z).before a0 Z = true)
    (hy : y.cls ≠ "java/lang/invoke/MethodHandle" ∧ y.cls ≠ "java/lang/invoke/VarHandle") (w4 : (Jvm.Cond.code z bytes maxL ret).before a0 Z = true) (w3 : (Jvm.Cond.initialized z.cls).before a0 Z = true) {b : Addr} (hb : Exa Z h b C)
    {W : Nat} {rm : Room} {argsL rest : List Value} {Q : Option Value → Heap → List Loc → Prop} (hM : OMet l Z z bytes maxL ret [] rm (.ref b :: argsL).toArray h Q) (eT : T.heap = h)
    {pc : Nat} {Ls : Array Slot} (hsize : Ls.size = c.maxLocals) (hlen : ∀ sig, parseMethodDescriptor y.desc = some sig → argsL.length = sig.parameters.length) (hW : (rest.map fun v => v.category).sum = W)
    (hd : decode c.code pc = .ok (.invokevirtual index, 3)) (hf : rm.frames + 1 ≤ R.frames) (hl : W + (maxL + 11) + rm.locals ≤ R.locals) (hc : cells + rm.cells ≤ R.cells) (hs : slots + rm.slots ≤ R.slots) {P : State → Outcome → Prop}
    (k : ∀ (v : Option Value) (T' : State) (L : List Loc), Stand p l e R s m args below meth c T' (locs ++ L) (cells + rm.cells) (slots + rm.slots) → Q v T'.heap L → OGo p e below (T'.setTop (mkF m (pc + 3) Ls (v.toList ++ rest))) P) :
    OGo p e below (T.setTop (mkF m pc Ls (argsL.reverse ++ .ref b :: rest))) P := 
  own_virtualK X hx hZ hown w1 w2 hnf w5 w6 hy hb (backOf (W := W) hM hZ w4 w3 hf hl) eT hsize hlen hW hd hc hs k
/-- an instance method that an ancestor declares, by its contract -/
theorem own_virtualUpK (X : Stand p l e R s m args below meth c T locs cells slots) (hx : p.tables.exec = Jvm.exec) (hZ : Z.Warmed39 s.vm) {own C owner : String} {index : Nat} {y z : MethodName}
    (hown : s.vm.findClass own = some m.cls) (w1 : (Jvm.Cond.methodLink own index y).before a0 Z = true) (w7 : (Jvm.Cond.sameMethod y.cls owner y.name y.desc).before a0 Z = true) (w2 : (Jvm.Cond.declares ⟨owner, y.name, y.desc⟩).before a0 Z = true) (w5 : (Jvm.Cond.selects C y z).before a0 Z = true) (w6 : (Jvm.Cond.instanceMethod z).before a0 Z = true)
    (hy : owner ≠ "java/lang/invoke/MethodHandle" ∧ owner ≠ "java/lang/invoke/VarHandle") {b : Addr} (hb : Exa Z h b C)
    {W : Nat} {kc ks : Nat} {argsL rest : List Value} {Q : Option Value → Heap → List Loc → Prop} (hK : OBack l R p e below s args z 3 W (.ref b :: argsL).toArray h kc ks Q) (eT : T.heap = h)
    {pc : Nat} {Ls : Array Slot} (hsize : Ls.size = c.maxLocals) (hlen : ∀ sig, parseMethodDescriptor y.desc = some sig → argsL.length = sig.parameters.length) (hW : (rest.map fun v => v.category).sum = W)
    (hd : decode c.code pc = .ok (.invokevirtual index, 3)) (hc : cells + kc ≤ R.cells) (hs : slots + ks ≤ R.slots) {P : State → Outcome → Prop}
    (k : ∀ (v : Option Value) (T' : State) (L : List Loc), Stand p l e R s m args below meth c T' (locs ++ L) (cells + kc) (slots + ks) → Q v T'.heap L → OGo p e below (T'.setTop (mkF m (pc + 3) Ls (v.toList ++ rest))) P) :
    OGo p e below (T.setTop (mkF m pc Ls (argsL.reverse ++ .ref b :: rest))) P := by
  obtain ⟨cq, kq, qa, qb, qc⟩ := isOf hZ eT hb
  obtain ⟨v, vm, ⟨T', L', k', n'⟩, -, X', ⟨L, hQ, l1, y1, z1⟩, st⟩ := X.virtualBackUp hx (x := y) (y := z) hown (mvT hZ w1) (mvT hZ w7) (mvT hZ w2) hy (mvT hZ w5) (mvT hZ w6) hK qa qc (g := mkF m pc Ls (argsL.reverse ++ .ref b :: rest)) rfl hsize (Steps.refl _) (argsL := argsL) (rest := rest) hlen rfl
    (by show 2 * 0 + _ ≤ _; rw [hW]; omega) hd (fun _ _ => ⟨rfl, eT, hc, hs⟩)
  dsimp only [Pt.U, Pt.locs, Pt.cells, Pt.slots] at X' l1 y1 z1 st hQ
  subst l1 y1 z1
  exact OGo.step (fun _ kk => st.trans kk) (k v T' L X' hQ)
theorem own_virtualUp (X : Stand p l e R s m args below meth c T locs cells slots) (hx : p.tables.exec = Jvm.exec) (hZ : Z.Warmed39 s.vm) {own C owner : String} {index : Nat} {y z : MethodName} {bytes : ByteArray} {maxL : Nat} {ret : Option FieldType}
    (hown : s.vm.findClass own = some m.cls) (w1 : (Jvm.Cond.methodLink own index y).before a0 Z = true) (w7 : (Jvm.Cond.sameMethod y.cls owner y.name y.desc).before a0 Z = true) (w2 : (Jvm.Cond.declares ⟨owner, y.name, y.desc⟩).before a0 Z = true) (w5 : (Jvm.Cond.selects C y z).before a0 Z = true) (w6 : (Jvm.Cond.instanceMethod z).before a0 Z = true)
    (hy : owner ≠ "java/lang/invoke/MethodHandle" ∧ owner ≠ "java/lang/invoke/VarHandle") (w4 : (Jvm.Cond.code z bytes maxL ret).before a0 Z = true) (w3 : (Jvm.Cond.initialized z.cls).before a0 Z = true) {b : Addr} (hb : Exa Z h b C)
    {W : Nat} {rm : Room} {argsL rest : List Value} {Q : Option Value → Heap → List Loc → Prop} (hM : OMet l Z z bytes maxL ret [] rm (.ref b :: argsL).toArray h Q) (eT : T.heap = h)
    {pc : Nat} {Ls : Array Slot} (hsize : Ls.size = c.maxLocals) (hlen : ∀ sig, parseMethodDescriptor y.desc = some sig → argsL.length = sig.parameters.length) (hW : (rest.map fun v => v.category).sum = W)
    (hd : decode c.code pc = .ok (.invokevirtual index, 3)) (hf : rm.frames + 1 ≤ R.frames) (hl : W + (maxL + 11) + rm.locals ≤ R.locals) (hc : cells + rm.cells ≤ R.cells) (hs : slots + rm.slots ≤ R.slots) {P : State → Outcome → Prop}
    (k : ∀ (v : Option Value) (T' : State) (L : List Loc), Stand p l e R s m args below meth c T' (locs ++ L) (cells + rm.cells) (slots + rm.slots) → Q v T'.heap L → OGo p e below (T'.setTop (mkF m (pc + 3) Ls (v.toList ++ rest))) P) :
    OGo p e below (T.setTop (mkF m pc Ls (argsL.reverse ++ .ref b :: rest))) P := 
  own_virtualUpK X hx hZ hown w1 w7 w2 w5 w6 hy hb (backOf (W := W) hM hZ w4 w3 hf hl) eT hsize hlen hW hd hc hs k
theorem own_cat {v : Value} (q : v.isRef = true) : v.category = 1 := by cases v <;> first | rfl | (simp [Value.isRef] at q)
theorem own_narR {v : Value} {t : FieldType} (q : v.isRef = true) (ht : t.isReference = true := by rfl) : narrow t v = v := by cases v <;> first | (simp [Value.isRef] at q; done) | (cases t <;> first | rfl | (cases ht))
theorem own_fitR {v : Value} {t : FieldType} (q : v.isRef = true) (ht : t.isReference = true := by rfl) : fits t v = true := by cases v <;> first | (simp [Value.isRef] at q; done) | (cases t <;> first | rfl | (cases ht))
theorem own_store1 {l l' : Array Slot} {i : Nat} {v : Value} {o : Slot} (hold : l[i]? = some o) (ho : o = .unset ∨ ∃ w, o = .val w ∧ w.category = 1) (hv : v.category = 1) (hl' : l.setIfInBounds i (.val v) = l' := by rfl) : storeLocals l i v = some l' := by
  rw [XS.store1 hold ho hv, hl']
end Own
theorem own_eqv {args : Array Value} {s : State} {a b : Term} {y : Value} (h : (Jvm.Cond.eq a b).value args s none s [] = some true) (hb : b.eval args s none [] s = some y) : a.eval args s none [] s = some y := by
  cases ha : a.eval args s none [] s with
  | none => simp [Cond.value, ha] at h
  | some x => cases x <;> cases y <;> simp_all [Cond.value]
theorem own_len {args : Array Value} {s : State} {t : Term} {a : Addr} {cl : Cell} {ty : FieldType} {n : Int32} (ev : t.eval args s none [] s = some (.ref a)) (A : Arr s s.heap a cl ty) (h : (Term.length t).eval args s none [] s = some (.int n)) : cl.slots.size < 2 ^ 31 ∧ cl.slots.size.toInt32 = n := by
  have ha : s.arrayAt? a = some cl := Arr.fin (State.WarmedH.refl s).alike A
  by_cases q : cl.slots.size < 2 ^ 31
  · rw [len_f ev ha q] at h
    exact ⟨q, Value.int.inj (Option.some.inj h)⟩
  · simp [Term.eval, ev, ha] at h
    omega
theorem own_elem {args : Array Value} {s : State} {t : Term} {a : Addr} {cl : Cell} {ty : FieldType} {j : Int32} {v : Value} (ev : t.eval args s none [] s = some (.ref a)) (A : Arr s s.heap a cl ty) (h : (Term.elem t (Term.int j)).eval args s none [] s = some v) (hn : ¬ j < 0 := by decide) : cl.slots[j.toNatClampNeg]? = some v := by
  have ha : s.arrayAt? a = some cl := Arr.fin (State.WarmedH.refl s).alike A
  rw [← elem_f ev (Term.int_eval j) ha hn]; exact h
section OwnW
variable {p : Program} {l : Launch} {e : Env} {R : Room} {s : State} {m : MethodId} {args : Array Value} {below : List Frame} {meth : Method} {c : Code} {T : State} {locs : List Loc} {cells slots : Nat} {Z : State} {a0 : Array Value} {h h' : Heap} {EL : List (String × Nat)} {vm0 : Vm}
/-- the contract of one body that may load String constants -/
abbrev OMetW (l : Launch) (Z : State) (EL : List (String × Nat)) (y : MethodName) (bytes : ByteArray) (maxL : Nat) (ret : Option FieldType) (ws : List Jvm.Cond) (rm : Room) (as' : Array Value) (h0 : Heap) (Q : Option Value → Heap → List Loc → Prop) : Prop :=
  MetFree l y (head1 (Jvm.Cond.code y bytes maxL ret :: ws) rm) (fun a U => a = as' ∧ Z.Warmed39 U.vm ∧ U.heap = h0 ∧ CHv Z EL U.vm h0) (fun _ _ _ _ _ => True) (fun _ U o U' => ∃ v L, o = .returned v ∧ Q v U'.heap L ∧ CHr Z EL U.vm U.heap U'.vm U'.heap ∧ ReturnedEndW U o U' L rm.cells rm.slots)
def OEndW (s Z : State) (EL : List (String × Nat)) (Q : Option Value → Heap → List Loc → Prop) (kc ks : Nat) (t : State) (o : Outcome) : Prop :=
  ∃ v L, o = .returned v ∧ Q v t.heap L ∧ CHr Z EL s.vm s.heap t.vm t.heap ∧ ReturnedEndW s o t L kc ks
/-- what a walk that may have interned keeps: the tables at hand, and that what they book stands in the heap at hand -/
def OW (Z s : State) (EL : List (String × Nat)) (vm0 : Vm) (h : Heap) : Prop := (∃ k, s.Since vm0 k ∧ k ≤ h.size) ∧ Z.Warmed39 vm0 ∧ CHr Z EL s.vm s.heap vm0 h
theorem OW.chv (O : OW Z s EL vm0 h) : CHv Z EL vm0 h := O.2.2.1
theorem OW.trans {vm1 : Vm} (O : OW Z s EL vm0 h) (hZ : Z.Warmed39 vm1) {k : Nat} (hS : s.Since vm1 k) (hk : k ≤ h'.size) (C : CHr Z EL vm0 h vm1 h') : OW Z s EL vm1 h' := ⟨⟨k, hS, hk⟩, hZ, O.2.2.trans C⟩
theorem OW.ext (O : OW Z s EL vm0 h) (E : Ext h h') : OW Z s EL vm0 h' := by
  obtain ⟨⟨k, a, b⟩, c, d⟩ := O
  exact ⟨⟨k, a, Nat.le_trans b E.1⟩, c, d.trans (CHr.ext E d.1)⟩
theorem OW.wr {a : Addr} {sl : Nat} {v : Value} (O : OW Z s EL vm0 h) (W : Wr h h' a sl v) (S : Safe Z EL vm0 h a) : OW Z s EL vm0 h' := by
  obtain ⟨⟨k, x, b⟩, c, d⟩ := O
  exact ⟨⟨k, x, by rw [W.size]; exact b⟩, c, d.trans (CHr.wr W S d.1)⟩
theorem OW.keep {ws : List Addr} (O : OW Z s EL vm0 h) (K : Keep h h' ws) (hs : ∀ x ∈ ws, Safe Z EL vm0 h x) : OW Z s EL vm0 h' := by
  obtain ⟨⟨k, x, b⟩, c, d⟩ := O
  exact ⟨⟨k, x, Nat.le_trans b K.1⟩, c, d.trans (CHr.keep K hs d.1)⟩
theorem OW.eq (O : OW Z s EL vm0 h) (q : h' = h) : OW Z s EL vm0 h' := q ▸ O
theorem OMetW.body {y : MethodName} {bytes : ByteArray} {maxL : Nat} {ret : Option FieldType} {ws : List Jvm.Cond} {rm : Room} {as' : Array Value} {h0 : Heap} {Q : Option Value → Heap → List Loc → Prop} (hpn : plainFor y = true)
    (b : ∀ (p : Program) (e : Env) (s : State) (m : MethodId) (below : List Frame) (meth : Method) (c : Code) (s₁ : State), p.tables.exec = Jvm.exec → c.code = bytes → c.maxLocals = maxL → (s.setVm s.vm).vm.findClass y.cls = some m.cls → meth.name = y.name → meth.sig.returnType = ret → meth.locks = false → Z.Warmed39 (s.setVm s.vm).vm →
      Stand p l e rm (s.setVm s.vm) m as' below meth c s₁ [] 0 0 → s₁.heap = h0 → OW Z s EL s.vm h0 → OGo p e below (s₁.setTop (entryFrame m as' maxL)) (OEndW s Z EL Q rm.cells rm.slots)) : OMetW l Z EL y bytes maxL ret ws rm as' h0 Q := by
  refine MetFree.of_bodySF hpn hisR ?_
  intro p e s m args below meth c s₁ Bd hml0 hP hK
  obtain ⟨rfl, hZ, hh, hC⟩ := hP
  exact b p e s m below meth c s₁ Bd.exec Bd.bytes hml0 (findClass_of_methodNamed Bd.named) (name_of_methodNamed Bd.named Bd.method).1 Bd.returns Bd.notSynchronized hZ (Stand.of_body Bd) (by rw [← hh, Bd.state]; rfl)
    ⟨⟨0, (State.WarmedH.refl s).since 0, Nat.zero_le _⟩, hZ, by rw [hh]; exact CHr.refl hC⟩
theorem own_endW (X : Stand p l e R (s.setVm vm0) m args below meth c T locs cells slots) (hlk : meth.locks = false) (hEL : EW Z a0 EL) (O : OW Z s EL vm0 h) (eT : T.heap = h) {v : Option Value} (hv : meth.sig.returnType = none → v = none) {Q : Option Value → Heap → List Loc → Prop} {kc ks : Nat} (hQ : Q v T.heap locs) (h1 : cells ≤ kc) (h2 : slots ≤ ks) :
    ∃ fs, (∀ (f : JFrame) (acts : List Action), f.method = m → f.locked = none → f.entered = [] → (doReturn e (T.setTop f) acts v).1 = T.setFrames fs) ∧ (T.setFrames fs).status = .running ∧ Ended (T.setFrames fs) below (.returned v) ∧ OEndW s Z EL Q kc ks (T.setFrames fs) (.returned v) := by
  obtain ⟨⟨k, hS, hk⟩, hZ, hC⟩ := O
  obtain ⟨fs, q1, q2, q3, q4, q5, q6, q7⟩ := X.leaveW hS (by rw [eT]; exact hk) (v := v) hv hlk
  refine ⟨fs, q1, q2, q3, v, locs, rfl, hQ, ?_, q4, q5, q6, q7.mono h1 h2⟩
  have C := hC.trans (CHv.at X hZ hEL hC.1)
  rw [← eT] at C
  exact C
theorem own_retW (X : Stand p l e R (s.setVm vm0) m args below meth c T locs cells slots) (hx : p.tables.exec = Jvm.exec) (hlk : meth.locks = false) (hEL : EW Z a0 EL) (O : OW Z s EL vm0 h) (eT : T.heap = h) {pc : Nat} {Ls : Array Slot} {w : Value} {t : FieldType} {i : Instr} {rest : List Value} (hret : meth.sig.returnType = some t) (hn : narrow t w = w)
    (hi : (i = .ireturn ∧ (t = .int ∨ t = .boolean ∨ t = .byte ∨ t = .char ∨ t = .short) ∧ ∃ z, w = .int z) ∨ (i = .lreturn ∧ t = .long ∧ ∃ z, w = .long z) ∨ (i = .dreturn ∧ t = .double ∧ ∃ z, w = .double z) ∨ (i = .freturn ∧ t = .float ∧ ∃ z, w = .float z) ∨ (i = .areturn ∧ t.isReference = true ∧ w.isRef = true))
    (hd : decode c.code pc = .ok (i, 1)) {Q : Option Value → Heap → List Loc → Prop} {kc ks : Nat} (hQ : Q (some w) T.heap locs) (h1 : cells ≤ kc) (h2 : slots ≤ ks) : OGo p e below (T.setTop (mkF m pc Ls (w :: rest))) (OEndW s Z EL Q kc ks) := by
  obtain ⟨fs, hr, q2, q3, q4⟩ := own_endW X hlk hEL O eT (v := some w) (fun h => by rw [hret] at h; cases h) hQ h1 h2
  exact ⟨_, _, retOut X hx hret hn hi hd hr, q2, q3, q4⟩
theorem own_retNW (X : Stand p l e R (s.setVm vm0) m args below meth c T locs cells slots) (hx : p.tables.exec = Jvm.exec) (hlk : meth.locks = false) (hEL : EW Z a0 EL) (O : OW Z s EL vm0 h) (eT : T.heap = h) {pc : Nat} {Ls : Array Slot} {z : Int32} {t : FieldType} {rest : List Value} (hret : meth.sig.returnType = some t) (ht : t = .boolean ∨ t = .byte ∨ t = .char ∨ t = .short)
    (hd : decode c.code pc = .ok (.ireturn, 1)) {Q : Option Value → Heap → List Loc → Prop} {kc ks : Nat} (hQ : Q (some (.int (nar t z))) T.heap locs) (h1 : cells ≤ kc) (h2 : slots ≤ ks) : OGo p e below (T.setTop (mkF m pc Ls (.int z :: rest))) (OEndW s Z EL Q kc ks) := by
  obtain ⟨fs, hr, q2, q3, q4⟩ := own_endW X hlk hEL O eT (v := some (.int (nar t z))) (fun h => by rw [hret] at h; cases h) hQ h1 h2
  exact ⟨_, _, retN X hx hret ht hd hr, q2, q3, q4⟩
theorem own_ret0W (X : Stand p l e R (s.setVm vm0) m args below meth c T locs cells slots) (hx : p.tables.exec = Jvm.exec) (hlk : meth.locks = false) (hEL : EW Z a0 EL) (O : OW Z s EL vm0 h) (eT : T.heap = h) {pc : Nat} {Ls : Array Slot} (hret : meth.sig.returnType = none)
    (hd : decode c.code pc = .ok (.return_, 1)) {Q : Option Value → Heap → List Loc → Prop} {kc ks : Nat} (hQ : Q none T.heap locs) (h1 : cells ≤ kc) (h2 : slots ≤ ks) : OGo p e below (T.setTop (mkF m pc Ls [])) (OEndW s Z EL Q kc ks) := by
  obtain ⟨fs, hr, q2, q3, q4⟩ := own_endW X hlk hEL O eT (v := none) (fun _ => rfl) hQ h1 h2
  exact ⟨_, _, X.returnOut hx hret hd hr, q2, q3, q4⟩
/-- behind a callee that may have interned -/
theorem own_behind {T' : State} {own : String} {L : List Loc} {kc ks : Nat} {Q : Option Value → Heap → List Loc → Prop} {v : Option Value} (O : OW Z s EL vm0 h) (eT : T.heap = h) (hown : (s.setVm vm0).vm.findClass own = some m.cls)
    (hS2 : (s.setVm vm0).Since T'.vm T'.heap.size) (hg : T.heap.size ≤ T'.heap.size) (C : CHr Z EL vm0 h T'.vm T'.heap) : OW Z s EL T'.vm T'.heap ∧ Z.Warmed39 (s.setVm T'.vm).vm ∧ (s.setVm T'.vm).vm.findClass own = some m.cls := by
  obtain ⟨⟨k, hS, hk⟩, hZ, hC⟩ := O
  have hW : Z.Warmed39 T'.vm := State.Warmed39.trans (t := s.setVm vm0) hZ hS2.1
  exact ⟨⟨⟨_, hS.trans hS2 (Nat.le_trans hk (by rw [← eT]; exact hg)), Nat.le_refl _⟩, hW, hC.trans C⟩, hW, (hS2.1.alike.findClass _ _).trans hown⟩
theorem own_callSW (X : Stand p l e R (s.setVm vm0) m args below meth c T locs cells slots) (hx : p.tables.exec = Jvm.exec) (hZ : Z.Warmed39 (s.setVm vm0).vm) {own : String} {index : Nat} {y : MethodName} {bytes : ByteArray} {maxL : Nat} {ret : Option FieldType}
    (hown : (s.setVm vm0).vm.findClass own = some m.cls) (w1 : (Jvm.Cond.methodLink own index y).before a0 Z = true) (w2 : (Jvm.Cond.static y).before a0 Z = true) (w3 : (Jvm.Cond.initialized y.cls).before a0 Z = true)
    (w4 : (Jvm.Cond.code y bytes maxL ret).before a0 Z = true) (hy : y.cls ≠ "java/lang/invoke/MethodHandle" ∧ y.cls ≠ "java/lang/invoke/VarHandle") (hEL : EW Z a0 EL) (O : OW Z s EL vm0 h)
    {W : Nat} {rm : Room} {argsL rest : List Value} {Q : Option Value → Heap → List Loc → Prop} (hM : OMetW l Z EL y bytes maxL ret [] rm argsL.toArray h Q) (eT : T.heap = h)
    {pc : Nat} {Ls : Array Slot} (hsize : Ls.size = c.maxLocals) (hlen : ∀ sig, parseMethodDescriptor y.desc = some sig → argsL.length = sig.parameters.length) (hW : (rest.map fun v => v.category).sum = W)
    (hd : decode c.code pc = .ok (.invokestatic index, 3)) (hf : rm.frames + 1 ≤ R.frames) (hl : W + (maxL + 11) + rm.locals ≤ R.locals) (hc : cells + rm.cells ≤ R.cells) (hs : slots + rm.slots ≤ R.slots) {P : State → Outcome → Prop}
    (k : ∀ (v : Option Value) (T' : State) (L : List Loc), Stand p l e R (s.setVm T'.vm) m args below meth c T' (locs ++ L) (cells + rm.cells) (slots + rm.slots) → Q v T'.heap L → OW Z s EL T'.vm T'.heap → Z.Warmed39 (s.setVm T'.vm).vm → (s.setVm T'.vm).vm.findClass own = some m.cls → CHr Z EL vm0 h T'.vm T'.heap → OGo p e below (T'.setTop (mkF m (pc + 3) Ls (v.toList ++ rest))) P) :
    OGo p e below (T.setTop (mkF m pc Ls (argsL.reverse ++ rest))) P := by
  obtain ⟨v, vm, ⟨T', L', k', n'⟩, -, X', hS2, hg, ⟨L, hQ, l1, y1, z1, C⟩, st⟩ := callSS X hx (y := y) hown (mvT hZ w1) (mvT hZ w2) (mvT hZ w3) (mvT hZ w4) hy (backOfSH (W := W) hM hZ w4 w3 hf hl hEL O.chv) (g := mkF m pc Ls (argsL.reverse ++ rest)) rfl hsize (argsL := argsL) (rest := rest) hlen rfl
    (by show 2 * 0 + _ ≤ _; rw [hW]; omega) hd (fun _ _ => ⟨rfl, eT, hc, hs⟩)
  dsimp only [Pt.U, Pt.locs, Pt.cells, Pt.slots] at X' l1 y1 z1 st hQ hS2 hg C
  subst l1 y1 z1
  obtain ⟨r1, r2, r3⟩ := own_behind (L := L) (kc := 0) (ks := 0) (Q := Q) (v := v) O eT hown hS2 hg C
  exact OGo.step (fun _ kk => st.trans kk) (k v T' L X' hQ r1 r2 r3 C)
theorem own_specialW (X : Stand p l e R (s.setVm vm0) m args below meth c T locs cells slots) (hx : p.tables.exec = Jvm.exec) (hZ : Z.Warmed39 (s.setVm vm0).vm) {own : String} {index : Nat} {y : MethodName} {bytes : ByteArray} {maxL : Nat} (hy1 : y.name = "<init>")
    (hown : (s.setVm vm0).vm.findClass own = some m.cls) (w1 : (Jvm.Cond.methodLink own index y).before a0 Z = true) (w2 : (Jvm.Cond.instanceMethod y).before a0 Z = true)
    (w4 : (Jvm.Cond.code y bytes maxL none).before a0 Z = true) (w3 : (Jvm.Cond.initialized y.cls).before a0 Z = true) (hy : y.cls ≠ "java/lang/invoke/MethodHandle" ∧ y.cls ≠ "java/lang/invoke/VarHandle") (hEL : EW Z a0 EL) (O : OW Z s EL vm0 h) {a : Addr}
    {W : Nat} {rm : Room} {argsL rest : List Value} {Q : Option Value → Heap → List Loc → Prop} (hM : OMetW l Z EL y bytes maxL none [] rm (.ref a :: argsL).toArray h Q) (eT : T.heap = h)
    {pc : Nat} {Ls : Array Slot} (hsize : Ls.size = c.maxLocals) (hlen : ∀ sig, parseMethodDescriptor y.desc = some sig → argsL.length = sig.parameters.length) (hW : (rest.map fun v => v.category).sum = W)
    (hd : decode c.code pc = .ok (.invokespecial index, 3)) (hf : rm.frames + 1 ≤ R.frames) (hl : W + (maxL + 11) + rm.locals ≤ R.locals) (hc : cells + rm.cells ≤ R.cells) (hs : slots + rm.slots ≤ R.slots) {P : State → Outcome → Prop}
    (k : ∀ (v : Option Value) (T' : State) (L : List Loc), Stand p l e R (s.setVm T'.vm) m args below meth c T' (locs ++ L) (cells + rm.cells) (slots + rm.slots) → Q v T'.heap L → OW Z s EL T'.vm T'.heap → Z.Warmed39 (s.setVm T'.vm).vm → (s.setVm T'.vm).vm.findClass own = some m.cls → CHr Z EL vm0 h T'.vm T'.heap → OGo p e below (T'.setTop (mkF m (pc + 3) Ls (v.toList ++ rest))) P) :
    OGo p e below (T.setTop (mkF m pc Ls (argsL.reverse ++ .ref a :: rest))) P := by
  obtain ⟨v, vm, ⟨T', L', k', n'⟩, -, X', hS2, hg, ⟨L, hQ, l1, y1, z1, C⟩, st⟩ := X.specialBackS hx (y := y) hy1 hown (mvT hZ w1) (mvT hZ w2) (mvT hZ w4) hy (backOfSH (W := W) hM hZ w4 w3 hf hl hEL O.chv) (g := mkF m pc Ls (argsL.reverse ++ .ref a :: rest)) rfl hsize (Steps.refl _) (a := a) (argsL := argsL) (rest := rest) hlen rfl
    (by show 2 * 0 + _ ≤ _; rw [hW]; omega) hd (fun _ _ => ⟨rfl, eT, hc, hs⟩)
  dsimp only [Pt.U, Pt.locs, Pt.cells, Pt.slots] at X' l1 y1 z1 st hQ hS2 hg C
  subst l1 y1 z1
  obtain ⟨r1, r2, r3⟩ := own_behind (L := L) (kc := 0) (ks := 0) (Q := Q) (v := v) O eT hown hS2 hg C
  exact OGo.step (fun _ kk => st.trans kk) (k v T' L X' hQ r1 r2 r3 C)
theorem own_virtualW (X : Stand p l e R (s.setVm vm0) m args below meth c T locs cells slots) (hx : p.tables.exec = Jvm.exec) (hZ : Z.Warmed39 (s.setVm vm0).vm) {own C : String} {index : Nat} {y z : MethodName} {bytes : ByteArray} {maxL : Nat} {ret : Option FieldType}
    (hown : (s.setVm vm0).vm.findClass own = some m.cls) (w1 : (Jvm.Cond.methodLink own index y).before a0 Z = true) (w2 : (Jvm.Cond.declares y).before a0 Z = true) (hnf : NotFace (s.setVm vm0) y) (w5 : (Jvm.Cond.selects C y z).before a0 Z = true) (w6 : (Jvm.Cond.instanceMethod z).before a0 Z = true)
    (hy : y.cls ≠ "java/lang/invoke/MethodHandle" ∧ y.cls ≠ "java/lang/invoke/VarHandle") (w4 : (Jvm.Cond.code z bytes maxL ret).before a0 Z = true) (w3 : (Jvm.Cond.initialized z.cls).before a0 Z = true) (hEL : EW Z a0 EL) (O : OW Z s EL vm0 h) {b : Addr} (hb : Exa Z h b C)
    {W : Nat} {rm : Room} {argsL rest : List Value} {Q : Option Value → Heap → List Loc → Prop} (hM : OMetW l Z EL z bytes maxL ret [] rm (.ref b :: argsL).toArray h Q) (eT : T.heap = h)
    {pc : Nat} {Ls : Array Slot} (hsize : Ls.size = c.maxLocals) (hlen : ∀ sig, parseMethodDescriptor y.desc = some sig → argsL.length = sig.parameters.length) (hW : (rest.map fun v => v.category).sum = W)
    (hd : decode c.code pc = .ok (.invokevirtual index, 3)) (hf : rm.frames + 1 ≤ R.frames) (hl : W + (maxL + 11) + rm.locals ≤ R.locals) (hc : cells + rm.cells ≤ R.cells) (hs : slots + rm.slots ≤ R.slots) {P : State → Outcome → Prop}
    (k : ∀ (v : Option Value) (T' : State) (L : List Loc), Stand p l e R (s.setVm T'.vm) m args below meth c T' (locs ++ L) (cells + rm.cells) (slots + rm.slots) → Q v T'.heap L → OW Z s EL T'.vm T'.heap → Z.Warmed39 (s.setVm T'.vm).vm → (s.setVm T'.vm).vm.findClass own = some m.cls → CHr Z EL vm0 h T'.vm T'.heap → OGo p e below (T'.setTop (mkF m (pc + 3) Ls (v.toList ++ rest))) P) :
    OGo p e below (T.setTop (mkF m pc Ls (argsL.reverse ++ .ref b :: rest))) P := by
  obtain ⟨cq, kq, qa, qb, qc⟩ := isOf hZ eT hb
  obtain ⟨v, vm, ⟨T', L', k', n'⟩, -, X', hS2, hg, ⟨L, hQ, l1, y1, z1, C⟩, st⟩ := X.virtualBackS hx (y := y) (z := z) hown (mvT hZ w1) (mvT hZ w2) hnf (mvT hZ w5) (mvT hZ w6) hy (backOfSH (W := W) hM hZ w4 w3 hf hl hEL O.chv) qa qc (g := mkF m pc Ls (argsL.reverse ++ .ref b :: rest)) rfl hsize (Steps.refl _) (argsL := argsL) (rest := rest) hlen rfl
    (by show 2 * 0 + _ ≤ _; rw [hW]; omega) hd (fun _ _ => ⟨rfl, eT, hc, hs⟩)
  dsimp only [Pt.U, Pt.locs, Pt.cells, Pt.slots] at X' l1 y1 z1 st hQ hS2 hg C
  subst l1 y1 z1
  obtain ⟨r1, r2, r3⟩ := own_behind (L := L) (kc := 0) (ks := 0) (Q := Q) (v := v) O eT hown hS2 hg C
  exact OGo.step (fun _ kk => st.trans kk) (k v T' L X' hQ r1 r2 r3 C)
/-- 'ldc' of a String constant of EL -/
theorem own_ldcW (X : Stand p l e R (s.setVm vm0) m args below meth c T locs cells slots) (hx : p.tables.exec = Jvm.exec) {own text : String} {index : Nat} (hown : (s.setVm vm0).vm.findClass own = some m.cls) (w : (Jvm.Cond.stringLink own index text).before a0 Z = true) (wS : ∀ a ∈ Bundle.stringAtoms, a.before a0 Z = true)
    (hEL : EW Z a0 EL) (O : OW Z s EL vm0 h) (eT : T.heap = h) (hmem : (own, index) ∈ EL) {vs : List Value} {z : Int32} (ht : (∀ c ∈ text.toList, c.toNat < 256) ∧ text.toList.map (fun c => Value.int (Jvm.Lit.byteI c.toNat.toUInt16)) = vs) (hz : ¬ z < 0) (hl : z.toNatClampNeg = vs.length)
    {pc : Nat} {Ls : Array Slot} {st : List Value} (hd : decode c.code pc = .ok (.ldc index, 2)) {n : Nat} (hn : 4 * text.toList.length ≤ n) (hbig : n ≤ 536870912) (hc : cells + 2 ≤ R.cells) (hl' : slots + (n + 4) ≤ R.slots) {P : State → Outcome → Prop}
    (k : ∀ (a b : Addr) (kb : ClassId) (T' : State), Stand p l e R (s.setVm T'.vm) m args below meth c T' locs (cells + 2) (slots + (n + 4)) → Ext h T'.heap → OW Z s EL T'.vm T'.heap → Z.Warmed39 (s.setVm T'.vm).vm → (s.setVm T'.vm).vm.findClass own = some m.cls → CHr Z EL vm0 h T'.vm T'.heap →
      Exa Z T'.heap a "java/lang/String" → Fld Z T'.heap a "java/lang/String" "coder" "B" (.int 0) → Fld Z T'.heap a "java/lang/String" "value" "[B" (.ref b) → Arv Z T'.heap b kb .byte z vs (.int 0) → (∀ x, Safe Z EL T'.vm T'.heap x → x ≠ a ∧ x ≠ b) → OGo p e below (T'.setTop (mkF m (pc + 2) Ls (.ref a :: st))) P) :
    OGo p e below (T.setTop (mkF m pc Ls st)) P := by
  obtain ⟨⟨k0, hS, hk⟩, hZ, hC⟩ := O
  obtain ⟨a, T', h', k1, b, kb, X', rfl, E, hS2, hk2, hW, hf, hE, hF1, hF2, hA, -, -, C, -, hsf, stp⟩ := ldcCH X hx hZ hown w wS eT hS hk hEL hmem hC.1 ht hz hl (g := mkF m pc Ls st) rfl hd hn hbig hc hl'
  exact OGo.step stp (k a b kb T' X' E ⟨⟨k1, hS2, hk2⟩, hW, hC.trans C⟩ hW hf C hE hF1 hF2 hA hsf)
end OwnW
theorem own_pd0 : parseMethodDescriptor "([C)V" = some ⟨[(.array .char)], none⟩ := by decide +kernel
theorem own_pd1 : parseMethodDescriptor "(C)Ljava/lang/String;" = some ⟨[.char], some (.object "java/lang/String")⟩ := by decide +kernel
theorem own_pd2 : parseMethodDescriptor "(Ljava/lang/Object;Ljava/lang/String;)Ljava/lang/Object;" = some ⟨[(.object "java/lang/Object"), (.object "java/lang/String")], some (.object "java/lang/Object")⟩ := by decide +kernel
theorem own_pd3 : parseMethodDescriptor "(Ljava/lang/String;J)V" = some ⟨[(.object "java/lang/String"), .long], none⟩ := by decide +kernel
theorem own_pd4 : parseMethodDescriptor "(ICCC)Ljava/lang/String;" = some ⟨[.int, .char, .char, .char], some (.object "java/lang/String")⟩ := by decide +kernel
theorem own_pd5 : parseMethodDescriptor "(Ljava/lang/String;J)Lcom/example/lease/lease/model/AddToken;" = some ⟨[(.object "java/lang/String"), .long], some (.object "com/example/lease/lease/model/AddToken")⟩ := by decide +kernel
theorem own_pd6 : parseMethodDescriptor "()Ljava/lang/String;" = some ⟨[], some (.object "java/lang/String")⟩ := by decide +kernel
theorem own_pd7 : parseMethodDescriptor "(Ljava/lang/Object;)Z" = some ⟨[(.object "java/lang/Object")], some .boolean⟩ := by decide +kernel
theorem own_pd8 : parseMethodDescriptor "()J" = some ⟨[], some .long⟩ := by decide +kernel
theorem own_pd9 : parseMethodDescriptor "()I" = some ⟨[], some .int⟩ := by decide +kernel
theorem own_pd10 : parseMethodDescriptor "([CIILjava/lang/Void;)V" = some ⟨[(.array .char), .int, .int, (.object "java/lang/Void")], none⟩ := by decide +kernel
theorem own_pd11 : parseMethodDescriptor "(I)I" = some ⟨[.int], some .int⟩ := by decide +kernel
theorem own_pd12 : parseMethodDescriptor "(I)[B" = some ⟨[.int], some (.array .byte)⟩ := by decide +kernel
theorem own_pd13 : parseMethodDescriptor "([BII)V" = some ⟨[(.array .byte), .int, .int], none⟩ := by decide +kernel
theorem own_pd14 : parseMethodDescriptor "([CI[BII)I" = some ⟨[(.array .char), .int, (.array .byte), .int, .int], some .int⟩ := by decide +kernel
theorem own_pd15 : parseMethodDescriptor "([CII)[B" = some ⟨[(.array .char), .int, .int], some (.array .byte)⟩ := by decide +kernel
theorem own_pd16 : parseMethodDescriptor "([BI)C" = some ⟨[(.array .byte), .int], some .char⟩ := by decide +kernel
theorem own_pd17 : parseMethodDescriptor "([BI)B" = some ⟨[(.array .byte), .int], some .byte⟩ := by decide +kernel
theorem own_pd18 : parseMethodDescriptor "(C)Z" = some ⟨[.char], some .boolean⟩ := by decide +kernel
theorem own_pd19 : parseMethodDescriptor "(C)[B" = some ⟨[.char], some (.array .byte)⟩ := by decide +kernel
theorem own_pd20 : parseMethodDescriptor "([BB)V" = some ⟨[(.array .byte), .byte], none⟩ := by decide +kernel
theorem own_pn0 : plainName "com/example/lease/lease/model/AddTokenKeptForPinLaw" = true := by first | (simp [plainName, overriddenIn]; done) | decide +kernel
theorem own_pn1 : plainName "java/util/Objects" = true := by first | (simp [plainName, overriddenIn]; done) | decide +kernel
theorem own_pn2 : plainName "com/example/lease/lease/model/AddToken" = true := by first | (simp [plainName, overriddenIn]; done) | decide +kernel
theorem own_pn3 : plainName "java/lang/String" = true := by first | (simp [plainName, overriddenIn]; done) | decide +kernel
theorem own_pn4 : plainName "java/lang/StringUTF16" = true := by first | (simp [plainName, overriddenIn]; done) | decide +kernel
theorem own_pn5 : plainName "java/lang/StringLatin1" = true := by first | (simp [plainName, overriddenIn]; done) | decide +kernel
theorem own_d_method_3_code_0 : decode method_3_code 0 = .ok (.iload_n 0, 1) := by decide +kernel
theorem own_d_method_3_code_1 : decode method_3_code 1 = .ok (.ifCond .ne 14, 3) := by decide +kernel
theorem own_d_method_3_code_4 : decode method_3_code 4 = .ok (.new 29, 3) := by decide +kernel
theorem own_d_method_3_code_7 : decode method_3_code 7 = .ok (.dup, 1) := by decide +kernel
theorem own_d_method_3_code_8 : decode method_3_code 8 = .ok (.iconst 0, 1) := by decide +kernel
theorem own_d_method_3_code_9 : decode method_3_code 9 = .ok (.newarray .char, 2) := by decide +kernel
theorem own_d_method_3_code_11 : decode method_3_code 11 = .ok (.invokespecial 42, 3) := by decide +kernel
theorem own_d_method_3_code_14 : decode method_3_code 14 = .ok (.areturn, 1) := by decide +kernel
theorem own_d_method_3_code_15 : decode method_3_code 15 = .ok (.iload_n 0, 1) := by decide +kernel
theorem own_d_method_3_code_16 : decode method_3_code 16 = .ok (.iconst 1, 1) := by decide +kernel
theorem own_d_method_3_code_17 : decode method_3_code 17 = .ok (.if_icmp .ne 8, 3) := by decide +kernel
theorem own_d_method_3_code_20 : decode method_3_code 20 = .ok (.iload_n 1, 1) := by decide +kernel
theorem own_d_method_3_code_21 : decode method_3_code 21 = .ok (.invokestatic 45, 3) := by decide +kernel
theorem own_d_method_3_code_24 : decode method_3_code 24 = .ok (.areturn, 1) := by decide +kernel
theorem own_d_method_3_code_25 : decode method_3_code 25 = .ok (.iload_n 0, 1) := by decide +kernel
theorem own_d_method_3_code_26 : decode method_3_code 26 = .ok (.iconst 2, 1) := by decide +kernel
theorem own_d_method_3_code_27 : decode method_3_code 27 = .ok (.if_icmp .ne 28, 3) := by decide +kernel
theorem own_d_method_3_code_30 : decode method_3_code 30 = .ok (.iconst 2, 1) := by decide +kernel
theorem own_d_method_3_code_31 : decode method_3_code 31 = .ok (.newarray .char, 2) := by decide +kernel
theorem own_d_method_3_code_33 : decode method_3_code 33 = .ok (.astore 4, 2) := by decide +kernel
theorem own_d_method_3_code_35 : decode method_3_code 35 = .ok (.aload 4, 2) := by decide +kernel
theorem own_d_method_3_code_37 : decode method_3_code 37 = .ok (.iconst 0, 1) := by decide +kernel
theorem own_d_method_3_code_38 : decode method_3_code 38 = .ok (.iload_n 1, 1) := by decide +kernel
theorem own_d_method_3_code_39 : decode method_3_code 39 = .ok (.castore, 1) := by decide +kernel
theorem own_d_method_3_code_40 : decode method_3_code 40 = .ok (.aload 4, 2) := by decide +kernel
theorem own_d_method_3_code_42 : decode method_3_code 42 = .ok (.iconst 1, 1) := by decide +kernel
theorem own_d_method_3_code_43 : decode method_3_code 43 = .ok (.iload_n 2, 1) := by decide +kernel
theorem own_d_method_3_code_44 : decode method_3_code 44 = .ok (.castore, 1) := by decide +kernel
theorem own_d_method_3_code_45 : decode method_3_code 45 = .ok (.new 29, 3) := by decide +kernel
theorem own_d_method_3_code_48 : decode method_3_code 48 = .ok (.dup, 1) := by decide +kernel
theorem own_d_method_3_code_49 : decode method_3_code 49 = .ok (.aload 4, 2) := by decide +kernel
theorem own_d_method_3_code_51 : decode method_3_code 51 = .ok (.invokespecial 42, 3) := by decide +kernel
theorem own_d_method_3_code_54 : decode method_3_code 54 = .ok (.areturn, 1) := by decide +kernel
theorem own_d_method_3_code_55 : decode method_3_code 55 = .ok (.iconst 3, 1) := by decide +kernel
theorem own_d_method_3_code_56 : decode method_3_code 56 = .ok (.newarray .char, 2) := by decide +kernel
theorem own_d_method_3_code_58 : decode method_3_code 58 = .ok (.astore 4, 2) := by decide +kernel
theorem own_d_method_3_code_60 : decode method_3_code 60 = .ok (.aload 4, 2) := by decide +kernel
theorem own_d_method_3_code_62 : decode method_3_code 62 = .ok (.iconst 0, 1) := by decide +kernel
theorem own_d_method_3_code_63 : decode method_3_code 63 = .ok (.iload_n 1, 1) := by decide +kernel
theorem own_d_method_3_code_64 : decode method_3_code 64 = .ok (.castore, 1) := by decide +kernel
theorem own_d_method_3_code_65 : decode method_3_code 65 = .ok (.aload 4, 2) := by decide +kernel
theorem own_d_method_3_code_67 : decode method_3_code 67 = .ok (.iconst 1, 1) := by decide +kernel
theorem own_d_method_3_code_68 : decode method_3_code 68 = .ok (.iload_n 2, 1) := by decide +kernel
theorem own_d_method_3_code_69 : decode method_3_code 69 = .ok (.castore, 1) := by decide +kernel
theorem own_d_method_3_code_70 : decode method_3_code 70 = .ok (.aload 4, 2) := by decide +kernel
theorem own_d_method_3_code_72 : decode method_3_code 72 = .ok (.iconst 2, 1) := by decide +kernel
theorem own_d_method_3_code_73 : decode method_3_code 73 = .ok (.iload_n 3, 1) := by decide +kernel
theorem own_d_method_3_code_74 : decode method_3_code 74 = .ok (.castore, 1) := by decide +kernel
theorem own_d_method_3_code_75 : decode method_3_code 75 = .ok (.new 29, 3) := by decide +kernel
theorem own_d_method_3_code_78 : decode method_3_code 78 = .ok (.dup, 1) := by decide +kernel
theorem own_d_method_3_code_79 : decode method_3_code 79 = .ok (.aload 4, 2) := by decide +kernel
theorem own_d_method_3_code_81 : decode method_3_code 81 = .ok (.invokespecial 42, 3) := by decide +kernel
theorem own_d_method_3_code_84 : decode method_3_code 84 = .ok (.areturn, 1) := by decide +kernel
theorem own_d_jdk_31_method_11_code_0 : decode jdk_31_method_11_code 0 = .ok (.aload_n 0, 1) := by decide +kernel
theorem own_d_jdk_31_method_11_code_1 : decode jdk_31_method_11_code 1 = .ok (.ifnonnull 12, 3) := by decide +kernel
theorem own_d_jdk_31_method_11_code_13 : decode jdk_31_method_11_code 13 = .ok (.aload_n 0, 1) := by decide +kernel
theorem own_d_jdk_31_method_11_code_14 : decode jdk_31_method_11_code 14 = .ok (.areturn, 1) := by decide +kernel
theorem own_d_prog_4_method_1_code_0 : decode prog_4_method_1_code 0 = .ok (.aload_n 0, 1) := by decide +kernel
theorem own_d_prog_4_method_1_code_1 : decode prog_4_method_1_code 1 = .ok (.invokespecial 1, 3) := by decide +kernel
theorem own_d_prog_4_method_1_code_4 : decode prog_4_method_1_code 4 = .ok (.aload_n 0, 1) := by decide +kernel
theorem own_d_prog_4_method_1_code_5 : decode prog_4_method_1_code 5 = .ok (.aload_n 1, 1) := by decide +kernel
theorem own_d_prog_4_method_1_code_6 : decode prog_4_method_1_code 6 = .ok (.ldc 7, 2) := by decide +kernel
theorem own_d_prog_4_method_1_code_8 : decode prog_4_method_1_code 8 = .ok (.invokestatic 9, 3) := by decide +kernel
theorem own_d_prog_4_method_1_code_11 : decode prog_4_method_1_code 11 = .ok (.checkcast 15, 3) := by decide +kernel
theorem own_d_prog_4_method_1_code_14 : decode prog_4_method_1_code 14 = .ok (.putfield 17, 3) := by decide +kernel
theorem own_d_prog_4_method_1_code_17 : decode prog_4_method_1_code 17 = .ok (.aload_n 0, 1) := by decide +kernel
theorem own_d_prog_4_method_1_code_18 : decode prog_4_method_1_code 18 = .ok (.lload_n 2, 1) := by decide +kernel
theorem own_d_prog_4_method_1_code_19 : decode prog_4_method_1_code 19 = .ok (.putfield 22, 3) := by decide +kernel
theorem own_d_prog_4_method_1_code_22 : decode prog_4_method_1_code 22 = .ok (.return_, 1) := by decide +kernel
theorem own_d_prog_4_method_3_code_0 : decode prog_4_method_3_code 0 = .ok (.lload_n 1, 1) := by decide +kernel
theorem own_d_prog_4_method_3_code_1 : decode prog_4_method_3_code 1 = .ok (.lconst 1, 1) := by decide +kernel
theorem own_d_prog_4_method_3_code_2 : decode prog_4_method_3_code 2 = .ok (.lcmp, 1) := by decide +kernel
theorem own_d_prog_4_method_3_code_3 : decode prog_4_method_3_code 3 = .ok (.ifCond .lt 11, 3) := by decide +kernel
theorem own_d_prog_4_method_3_code_6 : decode prog_4_method_3_code 6 = .ok (.lload_n 1, 1) := by decide +kernel
theorem own_d_prog_4_method_3_code_7 : decode prog_4_method_3_code 7 = .ok (.ldc2_w 33, 3) := by decide +kernel
theorem own_d_prog_4_method_3_code_10 : decode prog_4_method_3_code 10 = .ok (.lcmp, 1) := by decide +kernel
theorem own_d_prog_4_method_3_code_11 : decode prog_4_method_3_code 11 = .ok (.ifCond .le 17, 3) := by decide +kernel
theorem own_d_prog_4_method_3_code_28 : decode prog_4_method_3_code 28 = .ok (.new 18, 3) := by decide +kernel
theorem own_d_prog_4_method_3_code_31 : decode prog_4_method_3_code 31 = .ok (.dup, 1) := by decide +kernel
theorem own_d_prog_4_method_3_code_32 : decode prog_4_method_3_code 32 = .ok (.aload_n 0, 1) := by decide +kernel
theorem own_d_prog_4_method_3_code_33 : decode prog_4_method_3_code 33 = .ok (.lload_n 1, 1) := by decide +kernel
theorem own_d_prog_4_method_3_code_34 : decode prog_4_method_3_code 34 = .ok (.invokespecial 28, 3) := by decide +kernel
theorem own_d_prog_4_method_3_code_37 : decode prog_4_method_3_code 37 = .ok (.areturn, 1) := by decide +kernel
theorem own_d_prog_4_method_4_code_0 : decode prog_4_method_4_code 0 = .ok (.aload_n 0, 1) := by decide +kernel
theorem own_d_prog_4_method_4_code_1 : decode prog_4_method_4_code 1 = .ok (.getfield 17, 3) := by decide +kernel
theorem own_d_prog_4_method_4_code_4 : decode prog_4_method_4_code 4 = .ok (.areturn, 1) := by decide +kernel
theorem own_d_prog_4_method_5_code_0 : decode prog_4_method_5_code 0 = .ok (.aload_n 0, 1) := by decide +kernel
theorem own_d_prog_4_method_5_code_1 : decode prog_4_method_5_code 1 = .ok (.getfield 22, 3) := by decide +kernel
theorem own_d_prog_4_method_5_code_4 : decode prog_4_method_5_code 4 = .ok (.lreturn, 1) := by decide +kernel
theorem own_d_jdk_42_method_149_code_0 : decode jdk_42_method_149_code 0 = .ok (.aload_n 0, 1) := by decide +kernel
theorem own_d_jdk_42_method_149_code_1 : decode jdk_42_method_149_code 1 = .ok (.invokespecial 1, 3) := by decide +kernel
theorem own_d_jdk_42_method_149_code_4 : decode jdk_42_method_149_code 4 = .ok (.iload_n 3, 1) := by decide +kernel
theorem own_d_jdk_42_method_149_code_5 : decode jdk_42_method_149_code 5 = .ok (.ifCond .ne 22, 3) := by decide +kernel
theorem own_d_jdk_42_method_149_code_8 : decode jdk_42_method_149_code 8 = .ok (.aload_n 0, 1) := by decide +kernel
theorem own_d_jdk_42_method_149_code_9 : decode jdk_42_method_149_code 9 = .ok (.ldc 7, 2) := by decide +kernel
theorem own_d_jdk_42_method_149_code_11 : decode jdk_42_method_149_code 11 = .ok (.getfield 9, 3) := by decide +kernel
theorem own_d_jdk_42_method_149_code_14 : decode jdk_42_method_149_code 14 = .ok (.putfield 9, 3) := by decide +kernel
theorem own_d_jdk_42_method_149_code_17 : decode jdk_42_method_149_code 17 = .ok (.aload_n 0, 1) := by decide +kernel
theorem own_d_jdk_42_method_149_code_18 : decode jdk_42_method_149_code 18 = .ok (.ldc 7, 2) := by decide +kernel
theorem own_d_jdk_42_method_149_code_20 : decode jdk_42_method_149_code 20 = .ok (.getfield 15, 3) := by decide +kernel
theorem own_d_jdk_42_method_149_code_23 : decode jdk_42_method_149_code 23 = .ok (.putfield 15, 3) := by decide +kernel
theorem own_d_jdk_42_method_149_code_26 : decode jdk_42_method_149_code 26 = .ok (.return_, 1) := by decide +kernel
theorem own_d_jdk_42_method_3_code_0 : decode jdk_42_method_3_code 0 = .ok (.aload_n 0, 1) := by decide +kernel
theorem own_d_jdk_42_method_3_code_1 : decode jdk_42_method_3_code 1 = .ok (.aload_n 1, 1) := by decide +kernel
theorem own_d_jdk_42_method_3_code_2 : decode jdk_42_method_3_code 2 = .ok (.iconst 0, 1) := by decide +kernel
theorem own_d_jdk_42_method_3_code_3 : decode jdk_42_method_3_code 3 = .ok (.aload_n 1, 1) := by decide +kernel
theorem own_d_jdk_42_method_3_code_4 : decode jdk_42_method_3_code 4 = .ok (.arraylength, 1) := by decide +kernel
theorem own_d_jdk_42_method_3_code_5 : decode jdk_42_method_3_code 5 = .ok (.aconst_null, 1) := by decide +kernel
theorem own_d_jdk_42_method_3_code_6 : decode jdk_42_method_3_code 6 = .ok (.invokespecial 27, 3) := by decide +kernel
theorem own_d_jdk_42_method_3_code_9 : decode jdk_42_method_3_code 9 = .ok (.return_, 1) := by decide +kernel
theorem own_d_jdk_52_method_4_code_0 : decode jdk_52_method_4_code 0 = .ok (.getstatic 44, 3) := by decide +kernel
theorem own_d_jdk_52_method_4_code_3 : decode jdk_52_method_4_code 3 = .ok (.ifCond .ne 25, 3) := by decide +kernel
theorem own_d_jdk_52_method_4_code_28 : decode jdk_52_method_4_code 28 = .ok (.iload_n 1, 1) := by decide +kernel
theorem own_d_jdk_52_method_4_code_29 : decode jdk_52_method_4_code 29 = .ok (.iconst 1, 1) := by decide +kernel
theorem own_d_jdk_52_method_4_code_30 : decode jdk_52_method_4_code 30 = .ok (.ishl, 1) := by decide +kernel
theorem own_d_jdk_52_method_4_code_31 : decode jdk_52_method_4_code 31 = .ok (.istore_n 1, 1) := by decide +kernel
theorem own_d_jdk_52_method_4_code_32 : decode jdk_52_method_4_code 32 = .ok (.aload_n 0, 1) := by decide +kernel
theorem own_d_jdk_52_method_4_code_33 : decode jdk_52_method_4_code 33 = .ok (.iload_n 1, 1) := by decide +kernel
theorem own_d_jdk_52_method_4_code_34 : decode jdk_52_method_4_code 34 = .ok (.iinc 1 1, 3) := by decide +kernel
theorem own_d_jdk_52_method_4_code_37 : decode jdk_52_method_4_code 37 = .ok (.iload_n 2, 1) := by decide +kernel
theorem own_d_jdk_52_method_4_code_38 : decode jdk_52_method_4_code 38 = .ok (.getstatic 59, 3) := by decide +kernel
theorem own_d_jdk_52_method_4_code_41 : decode jdk_52_method_4_code 41 = .ok (.ishr, 1) := by decide +kernel
theorem own_d_jdk_52_method_4_code_42 : decode jdk_52_method_4_code 42 = .ok (.i2b, 1) := by decide +kernel
theorem own_d_jdk_52_method_4_code_43 : decode jdk_52_method_4_code 43 = .ok (.bastore, 1) := by decide +kernel
theorem own_d_jdk_52_method_4_code_44 : decode jdk_52_method_4_code 44 = .ok (.aload_n 0, 1) := by decide +kernel
theorem own_d_jdk_52_method_4_code_45 : decode jdk_52_method_4_code 45 = .ok (.iload_n 1, 1) := by decide +kernel
theorem own_d_jdk_52_method_4_code_46 : decode jdk_52_method_4_code 46 = .ok (.iload_n 2, 1) := by decide +kernel
theorem own_d_jdk_52_method_4_code_47 : decode jdk_52_method_4_code 47 = .ok (.getstatic 63, 3) := by decide +kernel
theorem own_d_jdk_52_method_4_code_50 : decode jdk_52_method_4_code 50 = .ok (.ishr, 1) := by decide +kernel
theorem own_d_jdk_52_method_4_code_51 : decode jdk_52_method_4_code 51 = .ok (.i2b, 1) := by decide +kernel
theorem own_d_jdk_52_method_4_code_52 : decode jdk_52_method_4_code 52 = .ok (.bastore, 1) := by decide +kernel
theorem own_d_jdk_52_method_4_code_53 : decode jdk_52_method_4_code 53 = .ok (.return_, 1) := by decide +kernel
theorem own_d_jdk_52_method_5_code_0 : decode jdk_52_method_5_code 0 = .ok (.getstatic 44, 3) := by decide +kernel
theorem own_d_jdk_52_method_5_code_3 : decode jdk_52_method_5_code 3 = .ok (.ifCond .ne 25, 3) := by decide +kernel
theorem own_d_jdk_52_method_5_code_28 : decode jdk_52_method_5_code 28 = .ok (.iload_n 1, 1) := by decide +kernel
theorem own_d_jdk_52_method_5_code_29 : decode jdk_52_method_5_code 29 = .ok (.iconst 1, 1) := by decide +kernel
theorem own_d_jdk_52_method_5_code_30 : decode jdk_52_method_5_code 30 = .ok (.ishl, 1) := by decide +kernel
theorem own_d_jdk_52_method_5_code_31 : decode jdk_52_method_5_code 31 = .ok (.istore_n 1, 1) := by decide +kernel
theorem own_d_jdk_52_method_5_code_32 : decode jdk_52_method_5_code 32 = .ok (.aload_n 0, 1) := by decide +kernel
theorem own_d_jdk_52_method_5_code_33 : decode jdk_52_method_5_code 33 = .ok (.iload_n 1, 1) := by decide +kernel
theorem own_d_jdk_52_method_5_code_34 : decode jdk_52_method_5_code 34 = .ok (.iinc 1 1, 3) := by decide +kernel
theorem own_d_jdk_52_method_5_code_37 : decode jdk_52_method_5_code 37 = .ok (.baload, 1) := by decide +kernel
theorem own_d_jdk_52_method_5_code_38 : decode jdk_52_method_5_code 38 = .ok (.sipush 255, 3) := by decide +kernel
theorem own_d_jdk_52_method_5_code_41 : decode jdk_52_method_5_code 41 = .ok (.iand, 1) := by decide +kernel
theorem own_d_jdk_52_method_5_code_42 : decode jdk_52_method_5_code 42 = .ok (.getstatic 59, 3) := by decide +kernel
theorem own_d_jdk_52_method_5_code_45 : decode jdk_52_method_5_code 45 = .ok (.ishl, 1) := by decide +kernel
theorem own_d_jdk_52_method_5_code_46 : decode jdk_52_method_5_code 46 = .ok (.aload_n 0, 1) := by decide +kernel
theorem own_d_jdk_52_method_5_code_47 : decode jdk_52_method_5_code 47 = .ok (.iload_n 1, 1) := by decide +kernel
theorem own_d_jdk_52_method_5_code_48 : decode jdk_52_method_5_code 48 = .ok (.baload, 1) := by decide +kernel
theorem own_d_jdk_52_method_5_code_49 : decode jdk_52_method_5_code 49 = .ok (.sipush 255, 3) := by decide +kernel
theorem own_d_jdk_52_method_5_code_52 : decode jdk_52_method_5_code 52 = .ok (.iand, 1) := by decide +kernel
theorem own_d_jdk_52_method_5_code_53 : decode jdk_52_method_5_code 53 = .ok (.getstatic 63, 3) := by decide +kernel
theorem own_d_jdk_52_method_5_code_56 : decode jdk_52_method_5_code 56 = .ok (.ishl, 1) := by decide +kernel
theorem own_d_jdk_52_method_5_code_57 : decode jdk_52_method_5_code 57 = .ok (.ior, 1) := by decide +kernel
theorem own_d_jdk_52_method_5_code_58 : decode jdk_52_method_5_code 58 = .ok (.i2c, 1) := by decide +kernel
theorem own_d_jdk_52_method_5_code_59 : decode jdk_52_method_5_code 59 = .ok (.ireturn, 1) := by decide +kernel
theorem own_d_jdk_52_method_3_code_0 : decode jdk_52_method_3_code 0 = .ok (.iload_n 0, 1) := by decide +kernel
theorem own_d_jdk_52_method_3_code_1 : decode jdk_52_method_3_code 1 = .ok (.ifCond .ge 11, 3) := by decide +kernel
theorem own_d_jdk_52_method_3_code_12 : decode jdk_52_method_3_code 12 = .ok (.iload_n 0, 1) := by decide +kernel
theorem own_d_jdk_52_method_3_code_13 : decode jdk_52_method_3_code 13 = .ok (.ldc 20, 2) := by decide +kernel
theorem own_d_jdk_52_method_3_code_15 : decode jdk_52_method_3_code 15 = .ok (.if_icmp .lt 40, 3) := by decide +kernel
theorem own_d_jdk_52_method_3_code_55 : decode jdk_52_method_3_code 55 = .ok (.iload_n 0, 1) := by decide +kernel
theorem own_d_jdk_52_method_3_code_56 : decode jdk_52_method_3_code 56 = .ok (.iconst 1, 1) := by decide +kernel
theorem own_d_jdk_52_method_3_code_57 : decode jdk_52_method_3_code 57 = .ok (.ishl, 1) := by decide +kernel
theorem own_d_jdk_52_method_3_code_58 : decode jdk_52_method_3_code 58 = .ok (.ireturn, 1) := by decide +kernel
theorem own_d_jdk_52_method_2_code_0 : decode jdk_52_method_2_code 0 = .ok (.iload_n 0, 1) := by decide +kernel
theorem own_d_jdk_52_method_2_code_1 : decode jdk_52_method_2_code 1 = .ok (.invokestatic 11, 3) := by decide +kernel
theorem own_d_jdk_52_method_2_code_4 : decode jdk_52_method_2_code 4 = .ok (.newarray .byte, 2) := by decide +kernel
theorem own_d_jdk_52_method_2_code_6 : decode jdk_52_method_2_code 6 = .ok (.areturn, 1) := by decide +kernel
theorem own_d_jdk_52_method_14_code_0 : decode jdk_52_method_14_code 0 = .ok (.iload_n 2, 1) := by decide +kernel
theorem own_d_jdk_52_method_14_code_1 : decode jdk_52_method_14_code 1 = .ok (.invokestatic 107, 3) := by decide +kernel
theorem own_d_jdk_52_method_14_code_4 : decode jdk_52_method_14_code 4 = .ok (.astore_n 3, 1) := by decide +kernel
theorem own_d_jdk_52_method_14_code_5 : decode jdk_52_method_14_code 5 = .ok (.iconst 0, 1) := by decide +kernel
theorem own_d_jdk_52_method_14_code_6 : decode jdk_52_method_14_code 6 = .ok (.istore 4, 2) := by decide +kernel
theorem own_d_jdk_52_method_14_code_8 : decode jdk_52_method_14_code 8 = .ok (.iload 4, 2) := by decide +kernel
theorem own_d_jdk_52_method_14_code_10 : decode jdk_52_method_14_code 10 = .ok (.iload_n 2, 1) := by decide +kernel
theorem own_d_jdk_52_method_14_code_11 : decode jdk_52_method_14_code 11 = .ok (.if_icmp .ge 21, 3) := by decide +kernel
theorem own_d_jdk_52_method_14_code_14 : decode jdk_52_method_14_code 14 = .ok (.aload_n 3, 1) := by decide +kernel
theorem own_d_jdk_52_method_14_code_15 : decode jdk_52_method_14_code 15 = .ok (.iload 4, 2) := by decide +kernel
theorem own_d_jdk_52_method_14_code_17 : decode jdk_52_method_14_code 17 = .ok (.aload_n 0, 1) := by decide +kernel
theorem own_d_jdk_52_method_14_code_18 : decode jdk_52_method_14_code 18 = .ok (.iload_n 1, 1) := by decide +kernel
theorem own_d_jdk_52_method_14_code_19 : decode jdk_52_method_14_code 19 = .ok (.caload, 1) := by decide +kernel
theorem own_d_jdk_52_method_14_code_20 : decode jdk_52_method_14_code 20 = .ok (.invokestatic 111, 3) := by decide +kernel
theorem own_d_jdk_52_method_14_code_23 : decode jdk_52_method_14_code 23 = .ok (.iinc 1 1, 3) := by decide +kernel
theorem own_d_jdk_52_method_14_code_26 : decode jdk_52_method_14_code 26 = .ok (.iinc 4 1, 3) := by decide +kernel
theorem own_d_jdk_52_method_14_code_29 : decode jdk_52_method_14_code 29 = .ok (.goto (-21), 3) := by decide +kernel
theorem own_d_jdk_52_method_14_code_32 : decode jdk_52_method_14_code 32 = .ok (.aload_n 3, 1) := by decide +kernel
theorem own_d_jdk_52_method_14_code_33 : decode jdk_52_method_14_code 33 = .ok (.areturn, 1) := by decide +kernel
theorem own_d_jdk_52_method_21_code_0 : decode jdk_52_method_21_code 0 = .ok (.iconst 0, 1) := by decide +kernel
theorem own_d_jdk_52_method_21_code_1 : decode jdk_52_method_21_code 1 = .ok (.istore 5, 2) := by decide +kernel
theorem own_d_jdk_52_method_21_code_3 : decode jdk_52_method_21_code 3 = .ok (.iload 5, 2) := by decide +kernel
theorem own_d_jdk_52_method_21_code_5 : decode jdk_52_method_21_code 5 = .ok (.iload 4, 2) := by decide +kernel
theorem own_d_jdk_52_method_21_code_7 : decode jdk_52_method_21_code 7 = .ok (.if_icmp .ge 37, 3) := by decide +kernel
theorem own_d_jdk_52_method_21_code_10 : decode jdk_52_method_21_code 10 = .ok (.aload_n 0, 1) := by decide +kernel
theorem own_d_jdk_52_method_21_code_11 : decode jdk_52_method_21_code 11 = .ok (.iload_n 1, 1) := by decide +kernel
theorem own_d_jdk_52_method_21_code_12 : decode jdk_52_method_21_code 12 = .ok (.caload, 1) := by decide +kernel
theorem own_d_jdk_52_method_21_code_13 : decode jdk_52_method_21_code 13 = .ok (.istore 6, 2) := by decide +kernel
theorem own_d_jdk_52_method_21_code_15 : decode jdk_52_method_21_code 15 = .ok (.iload 6, 2) := by decide +kernel
theorem own_d_jdk_52_method_21_code_17 : decode jdk_52_method_21_code 17 = .ok (.sipush 255, 3) := by decide +kernel
theorem own_d_jdk_52_method_21_code_20 : decode jdk_52_method_21_code 20 = .ok (.if_icmp .le 6, 3) := by decide +kernel
theorem own_d_jdk_52_method_21_code_23 : decode jdk_52_method_21_code 23 = .ok (.iload 5, 2) := by decide +kernel
theorem own_d_jdk_52_method_21_code_25 : decode jdk_52_method_21_code 25 = .ok (.ireturn, 1) := by decide +kernel
theorem own_d_jdk_52_method_21_code_26 : decode jdk_52_method_21_code 26 = .ok (.aload_n 2, 1) := by decide +kernel
theorem own_d_jdk_52_method_21_code_27 : decode jdk_52_method_21_code 27 = .ok (.iload_n 3, 1) := by decide +kernel
theorem own_d_jdk_52_method_21_code_28 : decode jdk_52_method_21_code 28 = .ok (.iload 6, 2) := by decide +kernel
theorem own_d_jdk_52_method_21_code_30 : decode jdk_52_method_21_code 30 = .ok (.i2b, 1) := by decide +kernel
theorem own_d_jdk_52_method_21_code_31 : decode jdk_52_method_21_code 31 = .ok (.bastore, 1) := by decide +kernel
theorem own_d_jdk_52_method_21_code_32 : decode jdk_52_method_21_code 32 = .ok (.iinc 1 1, 3) := by decide +kernel
theorem own_d_jdk_52_method_21_code_35 : decode jdk_52_method_21_code 35 = .ok (.iinc 3 1, 3) := by decide +kernel
theorem own_d_jdk_52_method_21_code_38 : decode jdk_52_method_21_code 38 = .ok (.iinc 5 1, 3) := by decide +kernel
theorem own_d_jdk_52_method_21_code_41 : decode jdk_52_method_21_code 41 = .ok (.goto (-38), 3) := by decide +kernel
theorem own_d_jdk_52_method_16_code_0 : decode jdk_52_method_16_code 0 = .ok (.iload_n 2, 1) := by decide +kernel
theorem own_d_jdk_52_method_16_code_1 : decode jdk_52_method_16_code 1 = .ok (.newarray .byte, 2) := by decide +kernel
theorem own_d_jdk_52_method_16_code_3 : decode jdk_52_method_16_code 3 = .ok (.astore_n 3, 1) := by decide +kernel
theorem own_d_jdk_52_method_16_code_4 : decode jdk_52_method_16_code 4 = .ok (.aload_n 0, 1) := by decide +kernel
theorem own_d_jdk_52_method_16_code_5 : decode jdk_52_method_16_code 5 = .ok (.iload_n 1, 1) := by decide +kernel
theorem own_d_jdk_52_method_16_code_6 : decode jdk_52_method_16_code 6 = .ok (.aload_n 3, 1) := by decide +kernel
theorem own_d_jdk_52_method_16_code_7 : decode jdk_52_method_16_code 7 = .ok (.iconst 0, 1) := by decide +kernel
theorem own_d_jdk_52_method_16_code_8 : decode jdk_52_method_16_code 8 = .ok (.iload_n 2, 1) := by decide +kernel
theorem own_d_jdk_52_method_16_code_9 : decode jdk_52_method_16_code 9 = .ok (.invokestatic 115, 3) := by decide +kernel
theorem own_d_jdk_52_method_16_code_12 : decode jdk_52_method_16_code 12 = .ok (.istore 4, 2) := by decide +kernel
theorem own_d_jdk_52_method_16_code_14 : decode jdk_52_method_16_code 14 = .ok (.iload 4, 2) := by decide +kernel
theorem own_d_jdk_52_method_16_code_16 : decode jdk_52_method_16_code 16 = .ok (.iload_n 2, 1) := by decide +kernel
theorem own_d_jdk_52_method_16_code_17 : decode jdk_52_method_16_code 17 = .ok (.if_icmp .eq 40, 3) := by decide +kernel
theorem own_d_jdk_52_method_16_code_20 : decode jdk_52_method_16_code 20 = .ok (.aload_n 0, 1) := by decide +kernel
theorem own_d_jdk_52_method_16_code_21 : decode jdk_52_method_16_code 21 = .ok (.iload_n 1, 1) := by decide +kernel
theorem own_d_jdk_52_method_16_code_22 : decode jdk_52_method_16_code 22 = .ok (.iload_n 2, 1) := by decide +kernel
theorem own_d_jdk_52_method_16_code_23 : decode jdk_52_method_16_code 23 = .ok (.invokestatic 119, 3) := by decide +kernel
theorem own_d_jdk_52_method_16_code_26 : decode jdk_52_method_16_code 26 = .ok (.astore 5, 2) := by decide +kernel
theorem own_d_jdk_52_method_16_code_28 : decode jdk_52_method_16_code 28 = .ok (.aload 5, 2) := by decide +kernel
theorem own_d_jdk_52_method_16_code_30 : decode jdk_52_method_16_code 30 = .ok (.iload 4, 2) := by decide +kernel
theorem own_d_jdk_52_method_16_code_32 : decode jdk_52_method_16_code 32 = .ok (.invokestatic 71, 3) := by decide +kernel
theorem own_d_jdk_52_method_16_code_35 : decode jdk_52_method_16_code 35 = .ok (.sipush 255, 3) := by decide +kernel
theorem own_d_jdk_52_method_16_code_38 : decode jdk_52_method_16_code 38 = .ok (.if_icmp .gt 16, 3) := by decide +kernel
theorem own_d_jdk_52_method_16_code_54 : decode jdk_52_method_16_code 54 = .ok (.aload 5, 2) := by decide +kernel
theorem own_d_jdk_52_method_16_code_56 : decode jdk_52_method_16_code 56 = .ok (.areturn, 1) := by decide +kernel
theorem own_d_jdk_52_method_15_code_0 : decode jdk_52_method_15_code 0 = .ok (.iload_n 1, 1) := by decide +kernel
theorem own_d_jdk_52_method_15_code_1 : decode jdk_52_method_15_code 1 = .ok (.aload_n 0, 1) := by decide +kernel
theorem own_d_jdk_52_method_15_code_2 : decode jdk_52_method_15_code 2 = .ok (.arraylength, 1) := by decide +kernel
theorem own_d_jdk_52_method_15_code_3 : decode jdk_52_method_15_code 3 = .ok (.isub, 1) := by decide +kernel
theorem own_d_jdk_52_method_15_code_4 : decode jdk_52_method_15_code 4 = .ok (.bipush 31, 2) := by decide +kernel
theorem own_d_jdk_52_method_15_code_6 : decode jdk_52_method_15_code 6 = .ok (.iushr, 1) := by decide +kernel
theorem own_d_jdk_52_method_15_code_7 : decode jdk_52_method_15_code 7 = .ok (.i2b, 1) := by decide +kernel
theorem own_d_jdk_52_method_15_code_8 : decode jdk_52_method_15_code 8 = .ok (.ireturn, 1) := by decide +kernel
theorem own_d_jdk_42_method_149_code_27 : decode jdk_42_method_149_code 27 = .ok (.getstatic 38, 3) := by decide +kernel
theorem own_d_jdk_42_method_149_code_30 : decode jdk_42_method_149_code 30 = .ok (.ifCond .eq 28, 3) := by decide +kernel
theorem own_d_jdk_42_method_149_code_33 : decode jdk_42_method_149_code 33 = .ok (.aload_n 1, 1) := by decide +kernel
theorem own_d_jdk_42_method_149_code_34 : decode jdk_42_method_149_code 34 = .ok (.iload_n 2, 1) := by decide +kernel
theorem own_d_jdk_42_method_149_code_35 : decode jdk_42_method_149_code 35 = .ok (.iload_n 3, 1) := by decide +kernel
theorem own_d_jdk_42_method_149_code_36 : decode jdk_42_method_149_code 36 = .ok (.invokestatic 177, 3) := by decide +kernel
theorem own_d_jdk_42_method_149_code_39 : decode jdk_42_method_149_code 39 = .ok (.astore 5, 2) := by decide +kernel
theorem own_d_jdk_42_method_149_code_41 : decode jdk_42_method_149_code 41 = .ok (.aload_n 0, 1) := by decide +kernel
theorem own_d_jdk_42_method_149_code_42 : decode jdk_42_method_149_code 42 = .ok (.aload 5, 2) := by decide +kernel
theorem own_d_jdk_42_method_149_code_44 : decode jdk_42_method_149_code 44 = .ok (.iload_n 3, 1) := by decide +kernel
theorem own_d_jdk_42_method_149_code_45 : decode jdk_42_method_149_code 45 = .ok (.invokestatic 47, 3) := by decide +kernel
theorem own_d_jdk_42_method_149_code_48 : decode jdk_42_method_149_code 48 = .ok (.putfield 15, 3) := by decide +kernel
theorem own_d_jdk_42_method_149_code_51 : decode jdk_42_method_149_code 51 = .ok (.aload_n 0, 1) := by decide +kernel
theorem own_d_jdk_42_method_149_code_52 : decode jdk_42_method_149_code 52 = .ok (.aload 5, 2) := by decide +kernel
theorem own_d_jdk_42_method_149_code_54 : decode jdk_42_method_149_code 54 = .ok (.putfield 9, 3) := by decide +kernel
theorem own_d_jdk_42_method_149_code_57 : decode jdk_42_method_149_code 57 = .ok (.return_, 1) := by decide +kernel
theorem own_d_jdk_43_method_3_code_0 : decode jdk_43_method_3_code 0 = .ok (.iload_n 0, 1) := by decide +kernel
theorem own_d_jdk_43_method_3_code_1 : decode jdk_43_method_3_code 1 = .ok (.sipush 255, 3) := by decide +kernel
theorem own_d_jdk_43_method_3_code_4 : decode jdk_43_method_3_code 4 = .ok (.if_icmp .gt 7, 3) := by decide +kernel
theorem own_d_jdk_43_method_3_code_7 : decode jdk_43_method_3_code 7 = .ok (.iconst 1, 1) := by decide +kernel
theorem own_d_jdk_43_method_3_code_8 : decode jdk_43_method_3_code 8 = .ok (.goto 4, 3) := by decide +kernel
theorem own_d_jdk_43_method_3_code_12 : decode jdk_43_method_3_code 12 = .ok (.ireturn, 1) := by decide +kernel
theorem own_d_jdk_43_method_46_code_0 : decode jdk_43_method_46_code 0 = .ok (.iconst 1, 1) := by decide +kernel
theorem own_d_jdk_43_method_46_code_1 : decode jdk_43_method_46_code 1 = .ok (.newarray .byte, 2) := by decide +kernel
theorem own_d_jdk_43_method_46_code_3 : decode jdk_43_method_46_code 3 = .ok (.dup, 1) := by decide +kernel
theorem own_d_jdk_43_method_46_code_4 : decode jdk_43_method_46_code 4 = .ok (.iconst 0, 1) := by decide +kernel
theorem own_d_jdk_43_method_46_code_5 : decode jdk_43_method_46_code 5 = .ok (.iload_n 0, 1) := by decide +kernel
theorem own_d_jdk_43_method_46_code_6 : decode jdk_43_method_46_code 6 = .ok (.i2b, 1) := by decide +kernel
theorem own_d_jdk_43_method_46_code_7 : decode jdk_43_method_46_code 7 = .ok (.bastore, 1) := by decide +kernel
theorem own_d_jdk_43_method_46_code_8 : decode jdk_43_method_46_code 8 = .ok (.areturn, 1) := by decide +kernel
theorem own_d_jdk_42_method_139_code_0 : decode jdk_42_method_139_code 0 = .ok (.getstatic 38, 3) := by decide +kernel
theorem own_d_jdk_42_method_139_code_3 : decode jdk_42_method_139_code 3 = .ok (.ifCond .eq 23, 3) := by decide +kernel
theorem own_d_jdk_42_method_139_code_6 : decode jdk_42_method_139_code 6 = .ok (.iload_n 0, 1) := by decide +kernel
theorem own_d_jdk_42_method_139_code_7 : decode jdk_42_method_139_code 7 = .ok (.invokestatic 1015, 3) := by decide +kernel
theorem own_d_jdk_42_method_139_code_10 : decode jdk_42_method_139_code 10 = .ok (.ifCond .eq 16, 3) := by decide +kernel
theorem own_d_jdk_42_method_139_code_13 : decode jdk_42_method_139_code 13 = .ok (.new 10, 3) := by decide +kernel
theorem own_d_jdk_42_method_139_code_16 : decode jdk_42_method_139_code 16 = .ok (.dup, 1) := by decide +kernel
theorem own_d_jdk_42_method_139_code_17 : decode jdk_42_method_139_code 17 = .ok (.iload_n 0, 1) := by decide +kernel
theorem own_d_jdk_42_method_139_code_18 : decode jdk_42_method_139_code 18 = .ok (.invokestatic 1018, 3) := by decide +kernel
theorem own_d_jdk_42_method_139_code_21 : decode jdk_42_method_139_code 21 = .ok (.iconst 0, 1) := by decide +kernel
theorem own_d_jdk_42_method_139_code_22 : decode jdk_42_method_139_code 22 = .ok (.invokespecial 209, 3) := by decide +kernel
theorem own_d_jdk_42_method_139_code_25 : decode jdk_42_method_139_code 25 = .ok (.areturn, 1) := by decide +kernel
theorem own_d_jdk_42_method_151_code_0 : decode jdk_42_method_151_code 0 = .ok (.aload_n 0, 1) := by decide +kernel
theorem own_d_jdk_42_method_151_code_1 : decode jdk_42_method_151_code 1 = .ok (.invokespecial 1, 3) := by decide +kernel
theorem own_d_jdk_42_method_151_code_4 : decode jdk_42_method_151_code 4 = .ok (.aload_n 0, 1) := by decide +kernel
theorem own_d_jdk_42_method_151_code_5 : decode jdk_42_method_151_code 5 = .ok (.aload_n 1, 1) := by decide +kernel
theorem own_d_jdk_42_method_151_code_6 : decode jdk_42_method_151_code 6 = .ok (.putfield 9, 3) := by decide +kernel
theorem own_d_jdk_42_method_151_code_9 : decode jdk_42_method_151_code 9 = .ok (.aload_n 0, 1) := by decide +kernel
theorem own_d_jdk_42_method_151_code_10 : decode jdk_42_method_151_code 10 = .ok (.iload_n 2, 1) := by decide +kernel
theorem own_d_jdk_42_method_151_code_11 : decode jdk_42_method_151_code 11 = .ok (.putfield 15, 3) := by decide +kernel
theorem own_d_jdk_42_method_151_code_14 : decode jdk_42_method_151_code 14 = .ok (.return_, 1) := by decide +kernel
theorem own_d_jdk_43_method_3_code_11 : decode jdk_43_method_3_code 11 = .ok (.iconst 0, 1) := by decide +kernel
theorem own_d_jdk_52_method_24_code_0 : decode jdk_52_method_24_code 0 = .ok (.iconst 2, 1) := by decide +kernel
theorem own_d_jdk_52_method_24_code_1 : decode jdk_52_method_24_code 1 = .ok (.newarray .byte, 2) := by decide +kernel
theorem own_d_jdk_52_method_24_code_3 : decode jdk_52_method_24_code 3 = .ok (.astore_n 1, 1) := by decide +kernel
theorem own_d_jdk_52_method_24_code_4 : decode jdk_52_method_24_code 4 = .ok (.aload_n 1, 1) := by decide +kernel
theorem own_d_jdk_52_method_24_code_5 : decode jdk_52_method_24_code 5 = .ok (.iconst 0, 1) := by decide +kernel
theorem own_d_jdk_52_method_24_code_6 : decode jdk_52_method_24_code 6 = .ok (.iload_n 0, 1) := by decide +kernel
theorem own_d_jdk_52_method_24_code_7 : decode jdk_52_method_24_code 7 = .ok (.invokestatic 111, 3) := by decide +kernel
theorem own_d_jdk_52_method_24_code_10 : decode jdk_52_method_24_code 10 = .ok (.aload_n 1, 1) := by decide +kernel
theorem own_d_jdk_52_method_24_code_11 : decode jdk_52_method_24_code 11 = .ok (.areturn, 1) := by decide +kernel
theorem own_d_jdk_42_method_139_code_26 : decode jdk_42_method_139_code 26 = .ok (.new 10, 3) := by decide +kernel
theorem own_d_jdk_42_method_139_code_29 : decode jdk_42_method_139_code 29 = .ok (.dup, 1) := by decide +kernel
theorem own_d_jdk_42_method_139_code_30 : decode jdk_42_method_139_code 30 = .ok (.iload_n 0, 1) := by decide +kernel
theorem own_d_jdk_42_method_139_code_31 : decode jdk_42_method_139_code 31 = .ok (.invokestatic 1021, 3) := by decide +kernel
theorem own_d_jdk_42_method_139_code_34 : decode jdk_42_method_139_code 34 = .ok (.iconst 1, 1) := by decide +kernel
theorem own_d_jdk_42_method_139_code_35 : decode jdk_42_method_139_code 35 = .ok (.invokespecial 209, 3) := by decide +kernel
theorem own_d_jdk_42_method_139_code_38 : decode jdk_42_method_139_code 38 = .ok (.areturn, 1) := by decide +kernel
theorem own_hEL {Z : State} {a0 : Array Value} (hw : ∀ d ∈ tables_1, d.before a0 Z = true) : EW Z a0 consts_1 := (EW.cons (hw _ (List.mem_of_getElem? (i := 39) rfl)) (by decide) (EW.cons (hw _ (List.mem_of_getElem? (i := 20) rfl)) (by decide) EW.nil))
theorem own_wS {Z : State} {a0 : Array Value} (hw : ∀ d ∈ tables_1, d.before a0 Z = true) : ∀ a ∈ Bundle.stringAtoms, a.before a0 Z = true := fun a ha => hw a ((by decide +kernel : ∀ a ∈ Bundle.stringAtoms, a ∈ tables_1) a ha)

section OwnS
variable {p : Program} {l : Launch} {e : Env} {R : Room} {s : State} {args : Array Value} {below : List Frame} {Z : State} {a0 : Array Value} {h h1 h2 : Heap} {EL : List (String × Nat)} {vm : Vm}
theorem own_ext_refl (h : Heap) : Ext h h := ⟨Nat.le_refl _, fun _ _ q => q⟩
theorem own_ext_trans (E : Ext h h1) (F : Ext h1 h2) : Ext h h2 := ⟨Nat.le_trans E.1 F.1, fun a c q => F.2 a c (E.2 a c q)⟩
theorem own_ext_keep {ws : List Addr} (E : Ext h h1) (K : Keep h1 h2 ws) (q : ∀ x ∈ ws, h.size ≤ x) : Ext h h2 := ⟨Nat.le_trans E.1 K.1, fun a c r => K.2.1 a c (E.2 a c r) fun z => absurd (Array.getElem?_eq_some_iff.mp r).1 (Nat.not_lt.mpr (q a z))⟩
theorem own_ext_wr {a : Addr} {sl : Nat} {v : Value} (E : Ext h h1) (W : Wr h1 h2 a sl v) (q : h.size ≤ a) : Ext h h2 := own_ext_keep E (Keep.of_wr W) (allS q all0)
theorem own_keep_ext (E : Ext h h1) (ws : List Addr) : Keep h h1 ws := (Keep.refl h ws).ext E
/-- the String x says cs -/
def OStr (Z : State) (h : Heap) (x : Addr) (cs : List Int32) : Prop :=
  ∃ (t : Addr) (kb : ClassId) (cd N2 : Int32) (vs : List Value), Exa Z h x "java/lang/String" ∧ Fld Z h x "java/lang/String" "value" "[B" (.ref t) ∧ Fld Z h x "java/lang/String" "coder" "B" (.int cd) ∧ Arv Z h t kb .byte N2 vs (.int 0) ∧
    StrChars.Road.CodA cs cd N2 vs ∧ (∀ c ∈ cs, ¬ c < 0 ∧ ¬ (65535 : Int32) < c) ∧ cs.length ≤ 4000
theorem OStr.ext {x : Addr} {cs : List Int32} (F : OStr Z h x cs) (E : Ext h h1) : OStr Z h1 x cs := by
  obtain ⟨t, kb, cd, N2, vs, a, b, c, d, r⟩ := F
  exact ⟨t, kb, cd, N2, vs, a.ext E, b.ext E, c.ext E, d.ext E, r⟩
theorem OStr.exa {x : Addr} {cs : List Int32} (F : OStr Z h x cs) : Exa Z h x "java/lang/String" := by obtain ⟨t, kb, cd, N2, vs, a, r⟩ := F; exact a
theorem OStr.lt {x : Addr} {cs : List Int32} (F : OStr Z h x cs) : x < h.size := F.exa.lt
/-- a value that is null or a String -/
def OSv (Z : State) (h : Heap) (v : Value) (o : Option (List Int32)) : Prop := (v = .null ∧ o = none) ∨ ∃ x cs, v = .ref x ∧ o = some cs ∧ OStr Z h x cs
theorem OSv.ext {v : Value} {o : Option (List Int32)} (F : OSv Z h v o) (E : Ext h h1) : OSv Z h1 v o := by
  rcases F with q | ⟨x, cs, q1, q2, q3⟩
  · exact Or.inl q
  · exact Or.inr ⟨x, cs, q1, q2, q3.ext E⟩
theorem OSv.isRef {v : Value} {o : Option (List Int32)} (F : OSv Z h v o) : v.isRef = true := by
  rcases F with ⟨rfl, -⟩ | ⟨x, cs, rfl, -⟩ <;> rfl
/-- two that were made one after the other -/
theorem OSv.sep {v w : Value} {o o' : Option (List Int32)} (F : OSv Z h v o) (G : OSv Z h1 w o') (q : ∀ y, w = .ref y → h.size ≤ y) : v = w → o = o' := by
  intro e
  subst e
  rcases F with ⟨rfl, rfl⟩ | ⟨x, cs, rfl, rfl, F⟩
  · rcases G with ⟨-, rfl⟩ | ⟨y, ds, q1, -⟩
    · rfl
    · cases q1
  · exact absurd F.lt (Nat.not_lt.mpr (q x rfl))
/-- a String under construction, its 'value' not yet written, is no booked one -/
theorem own_safe_null {x : Addr} (hal : Z.vm.Alike vm) (E : Exa Z h x "java/lang/String") (F : Fld Z h x "java/lang/String" "value" "[B" .null) : Safe Z EL vm h x := fun B => by
  obtain ⟨cell, cf, k, i, f, e1, e2, -, -, -, -, e7⟩ := F
  obtain ⟨p, -, u, a, -, q, -, G, rfl | rfl⟩ := B
  · cases (show h[q.sa]? = some q.sC from G.ha).symm.trans e1
    obtain ⟨cS, ⟨⟨-, -, -, ⟨c1, k1, i1, f1, -⟩, -, -, -, v1, -⟩, -⟩, -⟩ := G
    obtain ⟨k3, e3, -⟩ := State.fieldFound?_setVm (s := Z) hal e2
    have e4 := (show (Wst Z vm h).fieldFound? _ _ _ = _ from e3).symm.trans f1
    simp only [Option.some.injEq, Prod.mk.injEq] at e4
    rw [← e4.2.2.2, e7] at v1
    cases v1
  · cases (show h[q.sd]? = some q.SA from G.hd).symm.trans e1
    obtain ⟨cell2, k2, g1, g2, -⟩ := E
    cases e1.symm.trans g1
    obtain ⟨cS, -, -, fb, -⟩ := G
    have fb' : vm.findClass "[B" = some q.SA.cls := fb
    rw [hal.findClass] at fb'
    exact ids_ne fb' g2 (by decide) rfl
/-- a class with no road to another -/
theorem own_notCast {C O K : String} {n : Nat} (w : (Jvm.Cond.superclass C O).before a0 Z = true) (w0 : (Jvm.Cond.noSuperclass O).before a0 Z = true) (wk : (Jvm.Cond.instantiable K n).before a0 Z = true) (h1 : C ≠ K) (h2 : O ≠ K) : ∃ c t, Z.vm.findClass C = some c ∧ Z.vm.findClass K = some t ∧ Z.vm.assignable c t = false := by
  obtain ⟨co, ko, o1, o2, o3, -, -⟩ := Cond.noSuperclass_spec w0
  obtain ⟨t, kt, t1, t2, t3, t4, -, -⟩ := Cond.instantiable_spec wk
  obtain ⟨c, c0⟩ := found_sup w
  obtain ⟨pp, k, kp, c1, c2, c3, c4, c5, c6, c7⟩ := Cond.superclass_spec c0 w
  cases o1.symm.trans c1
  have n1 := ids_ne c0 t1 h1
  have n2 := ids_ne o1 t1 h2
  have hi : kt.isInterface = false := by simp only [Bool.or_eq_false_iff] at t4; exact t4.1
  have hs : ∀ fuel, Z.vm.isSubclassAux fuel co t = false := fun fuel => by
    cases fuel with
    | zero => rfl
    | succ f => simp [Vm.isSubclassAux, n2, o2, o3]
  have hc : ∀ fuel, Z.vm.isSubclassAux fuel c t = false := fun fuel => by
    cases fuel with
    | zero => rfl
    | succ f => simp [Vm.isSubclassAux, n1, c2, c4, hs]
  refine ⟨c, t, c0, t1, ?_⟩
  show Z.vm.assignableAux (255 + 1) c t = false
  simp [Vm.assignableAux, n1, c2, t2, c5, t3, hi, Vm.isSubclass, hc]
/-- equals of two Strings -/
theorem own_seq {len W : Nat} (hZ : Z.Warmed39 s.vm) (hw : ∀ d ∈ StrChars.Road.wordsEq, d.before a0 Z = true) {kI : Nat} (wi : (Jvm.Cond.instantiable "java/lang/String" kI).before a0 Z = true) {x y : Addr} {cs ds : List Int32} (F : OStr Z h x cs) (G : OStr Z h y ds)
    {z : Int32} (S : Sta Z h "java/lang/String" "COMPACT_STRINGS" "Z" (.int z)) (hz : ¬ z = 0) (n0 : Nat) (hfr : 2 ≤ R.frames) (hlo : W + 28 ≤ R.locals) :
    OBack l R p e below s args (⟨"java/lang/String", "equals", "(Ljava/lang/Object;)Z"⟩ : MethodName) len W #[.ref x, .ref y] h 0 0 (fun v h' L => v = some (.int (if cs = ds then 1 else 0)) ∧ Fr n0 L ∧ h' = h) := by
  obtain ⟨t, kb, cd, N2, vs, a1, a2, a3, a4, a5, a6, a7⟩ := F
  obtain ⟨t', kb', cd', N2', vs', b1, b2, b3, b4, b5, b6, b7⟩ := G
  refine Back.mono (StrChars.Road.eqW hZ hw wi a1 a2 a3 a4 a5 a6 a7 b1 b2 b3 b4 b5 b6 b7 S hz hfr hlo) (fun P a hp => hp) (fun P a v B hp hq => ?_)
  obtain ⟨L, ⟨q1, rfl, q3⟩, hl, hc, hs⟩ := hq
  refine ⟨[], ⟨?_, Fr.nil n0, q3⟩, hl, hc, hs⟩
  rcases q1 with ⟨q, r⟩ | ⟨q, r⟩
  · rw [q, if_pos r]
  · rw [q, if_neg r]
end OwnS
theorem own_ch255 (x : Int32) : ¬ nar .char ((x &&& (255 : Int32)).toUInt32.toUInt16.toUInt32.toInt32) < 0 ∧ ¬ (255 : Int32) < nar .char ((x &&& (255 : Int32)).toUInt32.toUInt16.toUInt32.toInt32) := by
  have t : ∀ k : Fin 256, ¬ nar .char ((Int32.ofNat k.val).toUInt32.toUInt16.toUInt32.toInt32) < 0 ∧ ¬ (255 : Int32) < nar .char ((Int32.ofNat k.val).toUInt32.toUInt16.toUInt32.toInt32) := by decide +kernel
  have h : (x &&& 255).toBitVec.toNat < 256 := by
    simp only [Int32.toBitVec_and, BitVec.toNat_and]
    exact Nat.lt_succ_of_le Nat.and_le_right
  have e : (x &&& 255) = Int32.ofNat (x &&& 255).toBitVec.toNat := by
    apply Int32.toBitVec_inj.mp
    show _ = BitVec.ofNat 32 _
    rw [BitVec.ofNat_toNat]; simp
  rw [e]
  exact t ⟨_, h⟩
theorem own_up (cs : List Int32) (h : ∀ c ∈ cs, ¬ c < 0 ∧ ¬ (255 : Int32) < c) : ∀ c ∈ cs, ¬ c < 0 ∧ ¬ (65535 : Int32) < c := fun c hc => ⟨(h c hc).1, fun q => (h c hc).2 (Int32.lt_trans (by decide : (255 : Int32) < 65535) q)⟩
theorem own_all0 {P : Int32 → Prop} : ∀ c ∈ ([] : List Int32), P c := fun _ q => nomatch q
theorem own_allS {P : Int32 → Prop} {x : Int32} {cs : List Int32} (a : P x) (r : ∀ c ∈ cs, P c) : ∀ c ∈ x :: cs, P c := fun c q => by
  cases q with
  | head => exact a
  | tail _ q => exact r c q
theorem own_narC {c : Int32} (h : ¬ c < 0 ∧ ¬ (255 : Int32) < c) : nar .char c = c := by
  have t : ∀ k : Fin 256, nar .char (Int32.ofNat k.val) = Int32.ofNat k.val := by decide +kernel
  have h0 : 0 ≤ c.toInt := by have := h.1; rw [Int32.lt_iff_toInt_lt] at this; have z : (0 : Int32).toInt = 0 := rfl; omega
  have h1 : c.toInt ≤ 255 := by have := h.2; rw [Int32.lt_iff_toInt_lt] at this; have z : (255 : Int32).toInt = 255 := rfl; omega
  have e : c = Int32.ofNat c.toInt.toNat := Int32.toInt_inj.mp (by rw [Int32.toInt_ofNat_of_lt (by omega)]; omega)
  rw [e]
  exact t ⟨c.toInt.toNat, by omega⟩
theorem own_nc {c : Int32} (h : ¬ c < 0 ∧ ¬ (255 : Int32) < c) : ¬ nar .char c < 0 ∧ ¬ (255 : Int32) < nar .char c := by rw [own_narC h]; exact h
theorem own_narb (x : Int32) : nar .byte x.toInt8.toInt32 = x.toInt8.toInt32 := by show x.toInt8.toInt32.toInt8.toInt32 = _; simp
theorem own_chL (x : Int64) : ¬ nar .char ((x &&& (255 : Int64)).toInt32.toUInt32.toUInt16.toUInt32.toInt32) < 0 ∧ ¬ (255 : Int32) < nar .char ((x &&& (255 : Int64)).toInt32.toUInt32.toUInt16.toUInt32.toInt32) := by
  have t : ∀ k : Fin 256, ¬ nar .char ((Int64.ofNat k.val).toInt32.toUInt32.toUInt16.toUInt32.toInt32) < 0 ∧ ¬ (255 : Int32) < nar .char ((Int64.ofNat k.val).toInt32.toUInt32.toUInt16.toUInt32.toInt32) := by decide +kernel
  have h : (x &&& 255).toBitVec.toNat < 256 := by
    simp only [Int64.toBitVec_and, BitVec.toNat_and]
    exact Nat.lt_succ_of_le Nat.and_le_right
  have e : (x &&& 255) = Int64.ofNat (x &&& 255).toBitVec.toNat := by
    apply Int64.toBitVec_inj.mp
    show _ = BitVec.ofNat 64 _
    rw [BitVec.ofNat_toNat]; simp
  rw [e]
  exact t ⟨_, h⟩


theorem own_slen {p : Program} {l : Launch} {e : Env} {R : Room} {s : State} {args : Array Value} {below : List Frame} {len W : Nat} {Z : State} {a0 : Array Value} {h : Heap} (hZ : Z.Warmed39 s.vm) (hw : ∀ d ∈ StrChars.Road.wordsLen, d.before a0 Z = true) {kI : Nat} (wi : (Jvm.Cond.instantiable "java/lang/String" kI).before a0 Z = true)
    {x : Addr} {cs : List Int32} {z : Int32} (F : OStr Z h x cs) (S : Sta Z h "java/lang/String" "COMPACT_STRINGS" "Z" (.int z)) (hz : ¬ z = 0) (n0 : Nat) (hfr : 2 ≤ R.frames) (hlo : W + 25 ≤ R.locals) :
    OBack l R p e below s args (⟨"java/lang/String", "length", "()I"⟩ : MethodName) len W #[.ref x] h 0 0 (fun v h' L => v = some (.int (Int32.ofNat cs.length)) ∧ Fr n0 L ∧ h' = h) := by
  obtain ⟨t, kb, cd, N2, vs, a1, a2, a3, a4, a5, a6, a7⟩ := F
  refine Back.mono (StrChars.Road.lenW hZ hw wi a1 a2 a3 a4 a5 a6 S hz a7 hfr hlo) (fun P a hp => hp) (fun P a v B hp hq => ?_)
  obtain ⟨L, ⟨q1, rfl, q3⟩, hl, hc, hs⟩ := hq
  exact ⟨[], ⟨q1, Fr.nil n0, q3⟩, hl, hc, hs⟩


theorem own_if0 {q : Prop} [Decidable q] (h : (if q then (1 : Int32) else 0) = 0) : ¬ q := fun z => by rw [if_pos z] at h; exact absurd h (by decide)
theorem own_if1 {q : Prop} [Decidable q] (h : ¬ (if q then (1 : Int32) else 0) = 0) : q := by
  by_cases z : q
  · exact z
  · exact absurd (if_neg z) h
theorem own_narB {q : Prop} [Decidable q] : nar .boolean (if q then (1 : Int32) else 0) = if q then (1 : Int32) else 0 := by split <;> rfl
theorem own_nar1 : nar .boolean (1 : Int32) = 1 := by decide
theorem own_nar0 : nar .boolean (0 : Int32) = 0 := by decide

theorem own_lo (x : Int32) : nar .byte (x >>> ((0 : Int32) &&& 31)).toInt8.toInt32 = StrChars.lo8 x := by rw [own_narb, StrChars.shr0]; rfl
theorem own_hi (x : Int32) : nar .byte (x >>> ((8 : Int32) &&& 31)).toInt8.toInt32 = StrChars.hi8 x := by rw [own_narb]; rfl
theorem own_nar16 (x : Int32) : ¬ nar .char x < 0 ∧ ¬ (65535 : Int32) < nar .char x := by
  have e : (nar .char x).toInt = (x.toUInt32.toUInt16.toNat : Int) := by
    show (x.toUInt32.toUInt16.toUInt32.toInt32).toInt = _
    have h := x.toUInt32.toUInt16.toNat_lt
    show x.toUInt32.toUInt16.toUInt32.toBitVec.toInt = _
    rw [BitVec.toInt_eq_toNat_of_lt]
    · rfl
    · show 2 * x.toUInt32.toUInt16.toUInt32.toNat < 2 ^ 32
      have : x.toUInt32.toUInt16.toUInt32.toNat = x.toUInt32.toUInt16.toNat := rfl
      omega
  have h := x.toUInt32.toUInt16.toNat_lt
  have z0 : (0 : Int32).toInt = 0 := rfl
  have z1 : (65535 : Int32).toInt = 65535 := rfl
  rw [Int32.lt_iff_toInt_lt, Int32.lt_iff_toInt_lt, e, z0, z1]
  omega
theorem own_narcc (x : Int32) : nar .char (x.toUInt32.toUInt16.toUInt32.toInt32) = x.toUInt32.toUInt16.toUInt32.toInt32 := by
  have e : x.toUInt32.toUInt16.toUInt32.toInt32.toUInt32.toUInt16 = x.toUInt32.toUInt16 := by
    show x.toUInt32.toUInt16.toUInt32.toUInt16 = _
    exact UInt16.toUInt16_toUInt32 _
  show (x.toUInt32.toUInt16.toUInt32.toInt32.toUInt32.toUInt16).toUInt32.toInt32 = _
  rw [e]

def own_mk (n c0_ c1_ c2_ : Int32) : List Int32 := if n = 0 then [] else if n = 1 then [c0_] else if n = 2 then [(nar .char c0_), (nar .char c1_)] else [(nar .char c0_), (nar .char c1_), (nar .char c2_)]
theorem own_mk_len (n c0_ c1_ c2_ : Int32) (h : n = 0 ∨ n = 1 ∨ n = 2 ∨ n = 3) : Int32.ofNat (own_mk n c0_ c1_ c2_).length = n := by
  rcases h with rfl | rfl | rfl | rfl <;> rfl
theorem own_four (x : Int32) : (x &&& (3 : Int32)) = 0 ∨ (x &&& (3 : Int32)) = 1 ∨ (x &&& (3 : Int32)) = 2 ∨ (x &&& (3 : Int32)) = 3 := by
  have e1 : (x &&& (3 : Int32)).toInt = x.toInt % 2 ^ 2 := Jvm.Kit.i32_mask x 3 (k := 2) (by decide) (by decide)
  have z0 : (0 : Int32).toInt = 0 := rfl
  have z1 : (1 : Int32).toInt = 1 := rfl
  have z2 : (2 : Int32).toInt = 2 := rfl
  have z3 : (3 : Int32).toInt = 3 := rfl
  simp only [← Int32.toInt_inj, e1, z0, z1, z2, z3]
  omega
theorem own_rng (x : Int64) : ¬ (x &&& ((4503599627370496 : Int64) - (1 : Int64))) + (1 : Int64) < 1 ∧ ¬ (4503599627370496 : Int64) < (x &&& ((4503599627370496 : Int64) - (1 : Int64))) + (1 : Int64) := by
  have e0 : (4503599627370496 : Int64) - (1 : Int64) = 4503599627370495 := by decide
  rw [e0]
  have e1 : (x &&& 4503599627370495).toInt = x.toInt % 2 ^ 52 := Jvm.Kit.i64_mask x 4503599627370495 (k := 52) (by decide) (by decide)
  have z1 : (1 : Int64).toInt = 1 := rfl
  have e2 : ((x &&& 4503599627370495) + 1).toInt = (x &&& 4503599627370495).toInt + (1 : Int64).toInt := Jvm.Kit.i64_add (by omega) (by omega)
  have z2 : (4503599627370496 : Int64).toInt = 4503599627370496 := rfl
  rw [Int64.lt_iff_toInt_lt, Int64.lt_iff_toInt_lt, e2, z1, z2]
  omega

set_option maxRecDepth 65536 in
set_option maxHeartbeats 40000000 in
theorem own_new4E (l : Launch) (Z : State) (a0 : Array Value) (hw : ∀ d ∈ tables_1, d.before a0 Z = true) (ws : List Jvm.Cond) (a b : Addr) (h0 : Heap) (n0 : Nat) (Z0 : n0 ≤ h0.size) (E1 : Exa Z h0 a "java/lang/String") (Fv : Fld Z h0 a "java/lang/String" "value" "[B" .null) (Fc : Fld Z h0 a "java/lang/String" "coder" "B" (.int (0 : Int32))) (ga : n0 ≤ a) :
    OMetW l Z consts_1 (⟨"java/lang/String", "<init>", "([CIILjava/lang/Void;)V"⟩ : MethodName) jdk_42_method_149_code 6 none ws ({ frames := 1, cells := 4, slots := 8, locals := 16 } : Room) #[(.ref a), (.ref b), (.int (0 : Int32)), (.int (0 : Int32)), .null] h0 (fun v h L => v = none ∧ Fr n0 L ∧ Keep h0 h [a] ∧ OStr Z h a []) := by
  refine OMetW.body (plainFor_of_name own_pn3) ?_
  intro p e s m below meth c s₁ hx hby hml hown hnm hret hlk hZ X0 e0 OW0
  have hEL := own_hEL hw
  have wS := own_wS hw
  refine OGo.step (fun _ kk => castTop (show entryFrame m #[(.ref a), (.ref b), (.int (0 : Int32)), (.int (0 : Int32)), .null] 6 = (mkF m 0 #[.val (.ref a), .val (.ref b), .val (.int (0 : Int32)), .val (.int (0 : Int32)), .val .null, .unset] []) from by first | (simp [entryFrame, mkF, argsToLocals, Value.category]; done) | rfl) kk) ?_
  show OGo p e below (s₁.setTop (mkF m 0 #[.val (.ref a), .val (.ref b), .val (.int (0 : Int32)), .val (.int (0 : Int32)), .val .null, .unset] [])) _
  have sf131 := own_safe_null (EL := consts_1) OW0.2.1.alike E1 Fv
  refine OGo.step (fun _ kk => XS.aloadN X0.here hx rfl (hb hby own_d_jdk_42_method_149_code_0) rfl rfl kk) ?_
  show OGo p e below (s₁.setTop (mkF m 1 #[.val (.ref a), .val (.ref b), .val (.int (0 : Int32)), .val (.int (0 : Int32)), .val .null, .unset] [(.ref a)])) _
  obtain ⟨T132, X132, e132, st132⟩ := initO X0 hx hZ hown (hw _ (List.mem_of_getElem? (i := 17) rfl)) (hw _ (List.mem_of_getElem? (i := 18) rfl)) (hw _ (List.mem_of_getElem? (i := 19) rfl)) e0 (g := (mkF m 1 #[.val (.ref a), .val (.ref b), .val (.int (0 : Int32)), .val (.int (0 : Int32)), .val .null, .unset] [(.ref a)])) rfl (by rw [hml]; rfl) rfl (hb hby own_d_jdk_42_method_149_code_1) (by decide) (W := 0) (by show 2 * 0 + _ ≤ _; exact Nat.le_of_eq rfl) (by decide)
  refine OGo.step st132 ?_
  show OGo p e below (T132.setTop (mkF m 4 #[.val (.ref a), .val (.ref b), .val (.int (0 : Int32)), .val (.int (0 : Int32)), .val .null, .unset] [])) _
  refine OGo.step (fun _ kk => XS.iloadN X132.here hx rfl (hb hby own_d_jdk_42_method_149_code_4) rfl kk) ?_
  show OGo p e below (T132.setTop (mkF m 5 #[.val (.ref a), .val (.ref b), .val (.int (0 : Int32)), .val (.int (0 : Int32)), .val .null, .unset] [(.int (0 : Int32))])) _
  refine OGo.step (fun _ kk => XS.ifNo X132.here hx rfl (hb hby own_d_jdk_42_method_149_code_5) rfl ((if0 _ _).trans (teq rfl).2) kk) ?_
  show OGo p e below (T132.setTop (mkF m 8 #[.val (.ref a), .val (.ref b), .val (.int (0 : Int32)), .val (.int (0 : Int32)), .val .null, .unset] [])) _
  refine OGo.step (fun _ kk => XS.aloadN X132.here hx rfl (hb hby own_d_jdk_42_method_149_code_8) rfl rfl kk) ?_
  show OGo p e below (T132.setTop (mkF m 9 #[.val (.ref a), .val (.ref b), .val (.int (0 : Int32)), .val (.int (0 : Int32)), .val .null, .unset] [(.ref a)])) _
  refine own_ldcW X132 hx hown (hw _ (List.mem_of_getElem? (i := 20) rfl)) wS hEL OW0 e132 (by decide) (vs := []) (z := (0 : Int32)) ⟨by decide, by decide⟩ (by decide) (by decide) (pc := 9) (Ls := #[.val (.ref a), .val (.ref b), .val (.int (0 : Int32)), .val (.int (0 : Int32)), .val .null, .unset]) (st := [(.ref a)]) (hb hby own_d_jdk_42_method_149_code_9) (n := 0) (by decide) (by decide) (by decide) (by decide) ?_
  intro z zb kb133 T133 X133 E133 OW133 hZ hown CH133 Es133 Fc133 Fv133 Av133 Ns133
  have sf134 := CH133.safe (E1).lt sf131
  have sz133 : n0 ≤ T133.heap.size := Nat.le_trans Z0 E133.1
  show OGo p e below (T133.setTop (mkF m 11 #[.val (.ref a), .val (.ref b), .val (.int (0 : Int32)), .val (.int (0 : Int32)), .val .null, .unset] [(.ref z), (.ref a)])) _
  have nab := (Ns133 _ sf134).2
  obtain ⟨T135, X135, e135, st135⟩ := getF X133 hx hZ hown (host := "") (Or.inl (hw _ (List.mem_of_getElem? (i := 26) rfl))) Via.refl rfl Fv133 (g := (mkF m 11 #[.val (.ref a), .val (.ref b), .val (.int (0 : Int32)), .val (.int (0 : Int32)), .val .null, .unset] [(.ref z), (.ref a)])) rfl rfl (hb hby own_d_jdk_42_method_149_code_11)
  refine OGo.step st135 ?_
  show OGo p e below (T135.setTop (mkF m 14 #[.val (.ref a), .val (.ref b), .val (.int (0 : Int32)), .val (.int (0 : Int32)), .val .null, .unset] [(.ref zb), (.ref a)])) _
  have fc136 := (Fv.ext E133)
  have fc137 := (E1.ext E133)
  obtain ⟨T138, h138, X138, e138, W138, st138⟩ := putF X135 hx hZ hown (host := "") (Or.inl (hw _ (List.mem_of_getElem? (i := 26) rfl))) Via.refl e135 fc136 fc137 (Or.inr ⟨(hw _ (List.mem_of_getElem? (i := 22) rfl)), rfl, hnm⟩) (hw _ (List.mem_of_getElem? (i := 7) rfl)) (ty := (.array .byte)) (by decide) rfl rfl (g := (mkF m 14 #[.val (.ref a), .val (.ref b), .val (.int (0 : Int32)), .val (.int (0 : Int32)), .val .null, .unset] [(.ref zb), (.ref a)])) rfl rfl (hb hby own_d_jdk_42_method_149_code_14)
  refine OGo.step st138 ?_
  show OGo p e below (T138.setTop (mkF m 17 #[.val (.ref a), .val (.ref b), .val (.int (0 : Int32)), .val (.int (0 : Int32)), .val .null, .unset] [])) _
  have Fw138 := fc136.same W138
  have Nf138 := Fr.snoc X138 (Fr.nil n0) ga
  have sz138 : n0 ≤ h138.size := by rw [W138.size]; exact sz133
  have sw139 := sf134
  have sf140 := Safe.wr W138 sw139 OW133.chv sf134
  have OW141 := OW133.wr W138 sw139
  refine OGo.step (fun _ kk => XS.aloadN X138.here hx rfl (hb hby own_d_jdk_42_method_149_code_17) rfl rfl kk) ?_
  show OGo p e below (T138.setTop (mkF m 18 #[.val (.ref a), .val (.ref b), .val (.int (0 : Int32)), .val (.int (0 : Int32)), .val .null, .unset] [(.ref a)])) _
  refine own_ldcW X138 hx hown (hw _ (List.mem_of_getElem? (i := 20) rfl)) wS hEL OW141 e138 (by decide) (vs := []) (z := (0 : Int32)) ⟨by decide, by decide⟩ (by decide) (by decide) (pc := 18) (Ls := #[.val (.ref a), .val (.ref b), .val (.int (0 : Int32)), .val (.int (0 : Int32)), .val .null, .unset]) (st := [(.ref a)]) (hb hby own_d_jdk_42_method_149_code_18) (n := 0) (by decide) (by decide) (by decide) (by decide) ?_
  intro z2 z2b kb142 T142 X142 E142 OW142 hZ hown CH142 Es142 Fc142 Fv142 Av142 Ns142
  have fc144 := (fc137.wr W138)
  have sf143 := CH142.safe (fc144).lt sf140
  have sz142 : n0 ≤ T142.heap.size := Nat.le_trans sz138 E142.1
  show OGo p e below (T142.setTop (mkF m 20 #[.val (.ref a), .val (.ref b), .val (.int (0 : Int32)), .val (.int (0 : Int32)), .val .null, .unset] [(.ref z2), (.ref a)])) _
  obtain ⟨T145, X145, e145, st145⟩ := getF X142 hx hZ hown (host := "") (Or.inl (hw _ (List.mem_of_getElem? (i := 27) rfl))) Via.refl rfl Fc142 (g := (mkF m 20 #[.val (.ref a), .val (.ref b), .val (.int (0 : Int32)), .val (.int (0 : Int32)), .val .null, .unset] [(.ref z2), (.ref a)])) rfl rfl (hb hby own_d_jdk_42_method_149_code_20)
  refine OGo.step st145 ?_
  show OGo p e below (T145.setTop (mkF m 23 #[.val (.ref a), .val (.ref b), .val (.int (0 : Int32)), .val (.int (0 : Int32)), .val .null, .unset] [(.int (0 : Int32)), (.ref a)])) _
  have fc146 := (((Fc.ext E133).other W138 (Or.inr (slot_ne (Or.inr (hw _ (List.mem_of_getElem? (i := 23) rfl))) (Or.inr (hw _ (List.mem_of_getElem? (i := 22) rfl))) (by decide) (t := .byte) (t' := (.array .byte)) (by decide) (by decide)))).ext E142)
  have fc147 := (fc144.ext E142)
  obtain ⟨T148, h148, X148, e148, W148, st148⟩ := putFN X145 hx hZ hown (hw _ (List.mem_of_getElem? (i := 27) rfl)) Via.refl e145 fc146 fc147 (Or.inr ⟨(hw _ (List.mem_of_getElem? (i := 23) rfl)), rfl, hnm⟩) (hw _ (List.mem_of_getElem? (i := 7) rfl)) (ty := .byte) (v' := (.int (0 : Int32))) (by decide) rfl rfl (g := (mkF m 23 #[.val (.ref a), .val (.ref b), .val (.int (0 : Int32)), .val (.int (0 : Int32)), .val .null, .unset] [(.int (0 : Int32)), (.ref a)])) rfl rfl (hb hby own_d_jdk_42_method_149_code_23)
  refine OGo.step st148 ?_
  show OGo p e below (T148.setTop (mkF m 26 #[.val (.ref a), .val (.ref b), .val (.int (0 : Int32)), .val (.int (0 : Int32)), .val .null, .unset] [])) _
  have Fw148 := fc146.same W148
  have Nf148 := Fr.snoc X148 Nf138 ga
  have sz148 : n0 ≤ h148.size := by rw [W148.size]; exact sz142
  have sw149 := sf143
  have sf150 := Safe.wr W148 sw149 OW142.chv sf143
  have OW151 := OW142.wr W148 sw149
  have fc152 := (fc147.wr W148)
  have fc153 := ((Fw138.ext E142).other W148 (Or.inr (slot_ne (Or.inr (hw _ (List.mem_of_getElem? (i := 22) rfl))) (Or.inr (hw _ (List.mem_of_getElem? (i := 23) rfl))) (by decide) (t := (.array .byte)) (t' := .byte) (by decide) (by decide))))
  have fc154 := (((Av133.other W138 (Ne.symm nab)).ext E142).other W148 (Ne.symm nab))
  have HQ : OStr Z h148 a [] := ⟨zb, _, 0, 0, [], fc152, fc153, Fw148, fc154, Or.inl ⟨rfl, rfl, rfl, own_all0⟩, own_all0, by decide⟩
  have HK := (((((Keep.refl h0 [a]).ext E133).wr W138 (Or.inl (List.mem_of_getElem? (i := 0) rfl))).ext E142).wr W148 (Or.inl (List.mem_of_getElem? (i := 0) rfl)))
  exact own_ret0W X148 hx hlk hEL OW151 e148 hret (hb hby own_d_jdk_42_method_149_code_26) (by rw [e148]; exact ⟨rfl, Nf148, HK, HQ⟩) (by decide) (by decide)

set_option maxRecDepth 65536 in
set_option maxHeartbeats 40000000 in
theorem own_new1E (l : Launch) (Z : State) (a0 : Array Value) (hw : ∀ d ∈ tables_1, d.before a0 Z = true) (ws : List Jvm.Cond) (a b : Addr) (kb : ClassId) (h0 : Heap) (n0 : Nat) (Z0 : n0 ≤ h0.size) (E1 : Exa Z h0 a "java/lang/String") (Fv : Fld Z h0 a "java/lang/String" "value" "[B" .null) (Fc : Fld Z h0 a "java/lang/String" "coder" "B" (.int (0 : Int32))) (ga : n0 ≤ a) (Vb : Arv Z h0 b kb .char (0 : Int32) [] (.int (0 : Int32))) :
    OMetW l Z consts_1 (⟨"java/lang/String", "<init>", "([C)V"⟩ : MethodName) jdk_42_method_3_code 2 none ws ({ frames := 2, cells := 4, slots := 8, locals := 33 } : Room) #[(.ref a), (.ref b)] h0 (fun v h L => v = none ∧ Fr n0 L ∧ Keep h0 h [a] ∧ OStr Z h a []) := by
  refine OMetW.body (plainFor_of_name own_pn3) ?_
  intro p e s m below meth c s₁ hx hby hml hown hnm hret hlk hZ X0 e0 OW0
  have hEL := own_hEL hw
  have wS := own_wS hw
  refine OGo.step (fun _ kk => castTop (show entryFrame m #[(.ref a), (.ref b)] 2 = (mkF m 0 #[.val (.ref a), .val (.ref b)] []) from by first | (simp [entryFrame, mkF, argsToLocals, Value.category]; done) | rfl) kk) ?_
  show OGo p e below (s₁.setTop (mkF m 0 #[.val (.ref a), .val (.ref b)] [])) _
  obtain ⟨cb, Ab, qb, Sb, Mb, Hb, Gb⟩ := Vb
  refine OGo.step (fun _ kk => XS.aloadN X0.here hx rfl (hb hby own_d_jdk_42_method_3_code_0) rfl rfl kk) ?_
  show OGo p e below (s₁.setTop (mkF m 1 #[.val (.ref a), .val (.ref b)] [(.ref a)])) _
  refine OGo.step (fun _ kk => XS.aloadN X0.here hx rfl (hb hby own_d_jdk_42_method_3_code_1) rfl rfl kk) ?_
  show OGo p e below (s₁.setTop (mkF m 2 #[.val (.ref a), .val (.ref b)] [(.ref b), (.ref a)])) _
  refine OGo.step (fun _ kk => XS.iconst X0.here hx rfl (hb hby own_d_jdk_42_method_3_code_2) kk) ?_
  show OGo p e below (s₁.setTop (mkF m 3 #[.val (.ref a), .val (.ref b)] [(.int (0 : Int32)), (.ref b), (.ref a)])) _
  refine OGo.step (fun _ kk => XS.aloadN X0.here hx rfl (hb hby own_d_jdk_42_method_3_code_3) rfl rfl kk) ?_
  show OGo p e below (s₁.setTop (mkF m 4 #[.val (.ref a), .val (.ref b)] [(.ref b), (.int (0 : Int32)), (.ref b), (.ref a)])) _
  refine OGo.step (fun _ kk => X0.arraylength hx (by rw [e0]; exact (Ab).1) (State.isArrayOf_alike hZ.alike (Ab).2.1) (g := (mkF m 4 #[.val (.ref a), .val (.ref b)] [(.ref b), (.int (0 : Int32)), (.ref b), (.ref a)])) rfl rfl (hb hby own_d_jdk_42_method_3_code_4) _ kk) ?_
  rw [len_of Sb Mb]
  show OGo p e below (s₁.setTop (mkF m 5 #[.val (.ref a), .val (.ref b)] [(.int (0 : Int32)), (.int (0 : Int32)), (.ref b), (.ref a)])) _
  refine OGo.step (fun _ kk => XS.aconstNull X0.here hx rfl (hb hby own_d_jdk_42_method_3_code_5) kk) ?_
  show OGo p e below (s₁.setTop (mkF m 6 #[.val (.ref a), .val (.ref b)] [.null, (.int (0 : Int32)), (.int (0 : Int32)), (.ref b), (.ref a)])) _
  refine own_specialW X0 hx hZ (y := (⟨"java/lang/String", "<init>", "([CIILjava/lang/Void;)V"⟩ : MethodName)) rfl hown (hw _ (List.mem_of_getElem? (i := 13) rfl)) (hw _ (List.mem_of_getElem? (i := 14) rfl)) (hw _ (List.mem_of_getElem? (i := 16) rfl)) (hw _ (List.mem_of_getElem? (i := 8) rfl)) (by decide) hEL OW0 (a := a) (W := 0) (own_new4E l Z a0 hw [] a b h0 n0 Z0 E1 Fv Fc ga) e0  (pc := 6) (Ls := #[.val (.ref a), .val (.ref b)]) (argsL := [(.ref b), (.int (0 : Int32)), (.int (0 : Int32)), .null]) (rest := []) (by rw [hml]; rfl) (lenOf own_pd10 rfl) rfl (hb hby own_d_jdk_42_method_3_code_6) (by decide) (by decide) (by decide) (by decide) ?_
  intro v155 T155 L155 X155 hQ155 OW155 hZ hown CH155
  obtain ⟨rfl, N155, K155, O155⟩ := hQ155
  show OGo p e below (T155.setTop (mkF m 9 #[.val (.ref a), .val (.ref b)] [])) _
  exact own_ret0W X155 hx hlk hEL OW155 rfl hret (hb hby own_d_jdk_42_method_3_code_9) ⟨rfl, Fr.app (Fr.nil n0) N155, K155, O155⟩ (by decide) (by decide)

set_option maxRecDepth 65536 in
set_option maxHeartbeats 40000000 in
theorem own_putc0 (l : Launch) (Z : State) (a0 : Array Value) (hw : ∀ d ∈ tables_1, d.before a0 Z = true) (ws : List Jvm.Cond) (u : Addr) (kb : ClassId) (N : Int32) (vs : List Value) (ch : Int32) (h0 : Heap) (n0 : Nat) (Z0 : n0 ≤ h0.size) (SA : Sta Z h0 "java/lang/StringUTF16" "$assertionsDisabled" "Z" (.int (1 : Int32))) (SH : Sta Z h0 "java/lang/StringUTF16" "HI_BYTE_SHIFT" "I" (.int (0 : Int32))) (SL : Sta Z h0 "java/lang/StringUTF16" "LO_BYTE_SHIFT" "I" (.int (8 : Int32))) (gu : n0 ≤ u) (Vu : Arv Z h0 u kb .byte N vs (.int (0 : Int32))) (hl : 1 < vs.length) (hN0 : (0 : Int32) < N) (hN1 : (1 : Int32) < N) :
    OMet l Z (⟨"java/lang/StringUTF16", "putChar", "([BII)V"⟩ : MethodName) jdk_52_method_4_code 3 none ws ({ frames := 0, cells := 0, slots := 0, locals := 0 } : Room) #[(.ref u), (.int (0 : Int32)), (.int ch)] h0 (fun v h L => v = none ∧ Fr n0 L ∧ Keep h0 h [u] ∧ Arv Z h u kb .byte N ((vs.set 0 (.int (StrChars.lo8 ch))).set 1 (.int (StrChars.hi8 ch))) (.int (0 : Int32))) := by
  refine OMet.body (plainFor_of_name own_pn4) ?_
  intro p e s m below meth c s₁ hx hby hml hown hnm hret hlk hZ X0 e0
  refine OGo.step (fun _ kk => castTop (show entryFrame m #[(.ref u), (.int (0 : Int32)), (.int ch)] 3 = (mkF m 0 #[.val (.ref u), .val (.int (0 : Int32)), .val (.int ch)] []) from by first | (simp [entryFrame, mkF, argsToLocals, Value.category]; done) | rfl) kk) ?_
  show OGo p e below (s₁.setTop (mkF m 0 #[.val (.ref u), .val (.int (0 : Int32)), .val (.int ch)] [])) _
  obtain ⟨T156, X156, e156, st156⟩ := getS2 X0 hx hZ hown (host := "") (Or.inl (hw _ (List.mem_of_getElem? (i := 102) rfl))) Via.refl e0 SA (g := (mkF m 0 #[.val (.ref u), .val (.int (0 : Int32)), .val (.int ch)] [])) rfl (hb hby own_d_jdk_52_method_4_code_0)
  refine OGo.step st156 ?_
  show OGo p e below (T156.setTop (mkF m 3 #[.val (.ref u), .val (.int (0 : Int32)), .val (.int ch)] [(.int (1 : Int32))])) _
  refine OGo.step (fun _ kk => XS.ifYes X156.here hx rfl (pc0 := 3) (pc' := 28) rfl (hb hby own_d_jdk_52_method_4_code_3) rfl ((if0 _ _).trans (feq (by decide)).2) (by decide) (by decide) kk) ?_
  show OGo p e below (T156.setTop (mkF m 28 #[.val (.ref u), .val (.int (0 : Int32)), .val (.int ch)] [])) _
  refine OGo.step (fun _ kk => XS.iloadN X156.here hx rfl (hb hby own_d_jdk_52_method_4_code_28) rfl kk) ?_
  show OGo p e below (T156.setTop (mkF m 29 #[.val (.ref u), .val (.int (0 : Int32)), .val (.int ch)] [(.int (0 : Int32))])) _
  refine OGo.step (fun _ kk => XS.iconst X156.here hx rfl (hb hby own_d_jdk_52_method_4_code_29) kk) ?_
  show OGo p e below (T156.setTop (mkF m 30 #[.val (.ref u), .val (.int (0 : Int32)), .val (.int ch)] [(.int (1 : Int32)), (.int (0 : Int32))])) _
  refine OGo.step (fun _ kk => XS.ishl X156.here hx rfl (hb hby own_d_jdk_52_method_4_code_30) rfl kk) ?_
  show OGo p e below (T156.setTop (mkF m 31 #[.val (.ref u), .val (.int (0 : Int32)), .val (.int ch)] [(.int ((0 : Int32) <<< ((1 : Int32) &&& 31)))])) _
  refine OGo.step (fun _ kk => XS.istoreN X156.here hx rfl (hb hby own_d_jdk_52_method_4_code_31) rfl (l' := #[.val (.ref u), .val (.int ((0 : Int32) <<< ((1 : Int32) &&& 31))), .val (.int ch)]) rfl kk) ?_
  show OGo p e below (T156.setTop (mkF m 32 #[.val (.ref u), .val (.int ((0 : Int32) <<< ((1 : Int32) &&& 31))), .val (.int ch)] [])) _
  show OGo p e below (T156.setTop (mkF m 32 #[.val (.ref u), .val (.int (0 : Int32)), .val (.int ch)] [])) _
  refine OGo.step (fun _ kk => XS.aloadN X156.here hx rfl (hb hby own_d_jdk_52_method_4_code_32) rfl rfl kk) ?_
  show OGo p e below (T156.setTop (mkF m 33 #[.val (.ref u), .val (.int (0 : Int32)), .val (.int ch)] [(.ref u)])) _
  refine OGo.step (fun _ kk => XS.iloadN X156.here hx rfl (hb hby own_d_jdk_52_method_4_code_33) rfl kk) ?_
  show OGo p e below (T156.setTop (mkF m 34 #[.val (.ref u), .val (.int (0 : Int32)), .val (.int ch)] [(.int (0 : Int32)), (.ref u)])) _
  refine OGo.step (fun _ kk => XS.iinc X156.here hx rfl (hb hby own_d_jdk_52_method_4_code_34) rfl (l' := #[.val (.ref u), .val (.int ((0 : Int32) + (1 : Int32))), .val (.int ch)]) rfl kk) ?_
  show OGo p e below (T156.setTop (mkF m 37 #[.val (.ref u), .val (.int ((0 : Int32) + (1 : Int32))), .val (.int ch)] [(.int (0 : Int32)), (.ref u)])) _
  show OGo p e below (T156.setTop (mkF m 37 #[.val (.ref u), .val (.int (1 : Int32)), .val (.int ch)] [(.int (0 : Int32)), (.ref u)])) _
  refine OGo.step (fun _ kk => XS.iloadN X156.here hx rfl (hb hby own_d_jdk_52_method_4_code_37) rfl kk) ?_
  show OGo p e below (T156.setTop (mkF m 38 #[.val (.ref u), .val (.int (1 : Int32)), .val (.int ch)] [(.int ch), (.int (0 : Int32)), (.ref u)])) _
  obtain ⟨T157, X157, e157, st157⟩ := getS2 X156 hx hZ hown (host := "") (Or.inl (hw _ (List.mem_of_getElem? (i := 103) rfl))) Via.refl e156 SH (g := (mkF m 38 #[.val (.ref u), .val (.int (1 : Int32)), .val (.int ch)] [(.int ch), (.int (0 : Int32)), (.ref u)])) rfl (hb hby own_d_jdk_52_method_4_code_38)
  refine OGo.step st157 ?_
  show OGo p e below (T157.setTop (mkF m 41 #[.val (.ref u), .val (.int (1 : Int32)), .val (.int ch)] [(.int (0 : Int32)), (.int ch), (.int (0 : Int32)), (.ref u)])) _
  refine OGo.step (fun _ kk => XS.ishr X157.here hx rfl (hb hby own_d_jdk_52_method_4_code_41) rfl kk) ?_
  show OGo p e below (T157.setTop (mkF m 42 #[.val (.ref u), .val (.int (1 : Int32)), .val (.int ch)] [(.int (ch >>> ((0 : Int32) &&& 31))), (.int (0 : Int32)), (.ref u)])) _
  refine OGo.step (fun _ kk => XS.i2b X157.here hx rfl (hb hby own_d_jdk_52_method_4_code_42) rfl kk) ?_
  show OGo p e below (T157.setTop (mkF m 43 #[.val (.ref u), .val (.int (1 : Int32)), .val (.int ch)] [(.int ((ch >>> ((0 : Int32) &&& 31)).toInt8.toInt32)), (.int (0 : Int32)), (.ref u)])) _
  obtain ⟨cA158, A158, q158, S158, M158, H158, G158⟩ := id Vu
  obtain ⟨T159, h159, X159, e159, W159, st159⟩ := stB X157 hx hZ e157 A158 (j := (0 : Int32)) (inb_of S158 ⟨by decide, hN0⟩) (g := (mkF m 43 #[.val (.ref u), .val (.int (1 : Int32)), .val (.int ch)] [(.int ((ch >>> ((0 : Int32) &&& 31)).toInt8.toInt32)), (.int (0 : Int32)), (.ref u)])) rfl rfl (hb hby own_d_jdk_52_method_4_code_43)
  refine OGo.step st159 ?_
  show OGo p e below (T159.setTop (mkF m 44 #[.val (.ref u), .val (.int (1 : Int32)), .val (.int ch)] [])) _
  have Va158 : Arv Z h159 u kb .byte N (vs.set 0 (.int (StrChars.lo8 ch))) (.int (0 : Int32)) := by rw [← (own_lo ch)]; exact Arv.set A158 q158 S158 M158 H158 G158 (fits_nar_byte _) W159 0 rfl (Nat.lt_of_succ_lt hl)
  have Nf159 := Fr.snoc X159 (Fr.nil n0) gu
  have sz159 : n0 ≤ h159.size := by rw [W159.size]; exact Z0
  refine OGo.step (fun _ kk => XS.aloadN X159.here hx rfl (hb hby own_d_jdk_52_method_4_code_44) rfl rfl kk) ?_
  show OGo p e below (T159.setTop (mkF m 45 #[.val (.ref u), .val (.int (1 : Int32)), .val (.int ch)] [(.ref u)])) _
  refine OGo.step (fun _ kk => XS.iloadN X159.here hx rfl (hb hby own_d_jdk_52_method_4_code_45) rfl kk) ?_
  show OGo p e below (T159.setTop (mkF m 46 #[.val (.ref u), .val (.int (1 : Int32)), .val (.int ch)] [(.int (1 : Int32)), (.ref u)])) _
  refine OGo.step (fun _ kk => XS.iloadN X159.here hx rfl (hb hby own_d_jdk_52_method_4_code_46) rfl kk) ?_
  show OGo p e below (T159.setTop (mkF m 47 #[.val (.ref u), .val (.int (1 : Int32)), .val (.int ch)] [(.int ch), (.int (1 : Int32)), (.ref u)])) _
  have fc160 := (SL.wr W159)
  obtain ⟨T161, X161, e161, st161⟩ := getS2 X159 hx hZ hown (host := "") (Or.inl (hw _ (List.mem_of_getElem? (i := 104) rfl))) Via.refl e159 fc160 (g := (mkF m 47 #[.val (.ref u), .val (.int (1 : Int32)), .val (.int ch)] [(.int ch), (.int (1 : Int32)), (.ref u)])) rfl (hb hby own_d_jdk_52_method_4_code_47)
  refine OGo.step st161 ?_
  show OGo p e below (T161.setTop (mkF m 50 #[.val (.ref u), .val (.int (1 : Int32)), .val (.int ch)] [(.int (8 : Int32)), (.int ch), (.int (1 : Int32)), (.ref u)])) _
  refine OGo.step (fun _ kk => XS.ishr X161.here hx rfl (hb hby own_d_jdk_52_method_4_code_50) rfl kk) ?_
  show OGo p e below (T161.setTop (mkF m 51 #[.val (.ref u), .val (.int (1 : Int32)), .val (.int ch)] [(.int (ch >>> ((8 : Int32) &&& 31))), (.int (1 : Int32)), (.ref u)])) _
  refine OGo.step (fun _ kk => XS.i2b X161.here hx rfl (hb hby own_d_jdk_52_method_4_code_51) rfl kk) ?_
  show OGo p e below (T161.setTop (mkF m 52 #[.val (.ref u), .val (.int (1 : Int32)), .val (.int ch)] [(.int ((ch >>> ((8 : Int32) &&& 31)).toInt8.toInt32)), (.int (1 : Int32)), (.ref u)])) _
  obtain ⟨cA162, A162, q162, S162, M162, H162, G162⟩ := id Va158
  obtain ⟨T163, h163, X163, e163, W163, st163⟩ := stB X161 hx hZ e161 A162 (j := (1 : Int32)) (inb_of S162 ⟨by decide, hN1⟩) (g := (mkF m 52 #[.val (.ref u), .val (.int (1 : Int32)), .val (.int ch)] [(.int ((ch >>> ((8 : Int32) &&& 31)).toInt8.toInt32)), (.int (1 : Int32)), (.ref u)])) rfl rfl (hb hby own_d_jdk_52_method_4_code_52)
  refine OGo.step st163 ?_
  show OGo p e below (T163.setTop (mkF m 53 #[.val (.ref u), .val (.int (1 : Int32)), .val (.int ch)] [])) _
  have Va162 : Arv Z h163 u kb .byte N ((vs.set 0 (.int (StrChars.lo8 ch))).set 1 (.int (StrChars.hi8 ch))) (.int (0 : Int32)) := by rw [← (own_hi ch)]; exact Arv.set A162 q162 S162 M162 H162 G162 (fits_nar_byte _) W163 1 rfl (by rw [List.length_set]; exact hl)
  have Nf163 := Fr.snoc X163 Nf159 gu
  have sz163 : n0 ≤ h163.size := by rw [W163.size]; exact sz159
  have HK := (((Keep.refl h0 [u]).wr W159 (Or.inl (List.mem_of_getElem? (i := 0) rfl))).wr W163 (Or.inl (List.mem_of_getElem? (i := 0) rfl)))
  exact own_ret0 X163 hx hlk hret (hb hby own_d_jdk_52_method_4_code_53) (by rw [e163]; exact ⟨rfl, Nf163, HK, Va162⟩) (by decide) (by decide)

set_option maxRecDepth 65536 in
set_option maxHeartbeats 40000000 in
theorem own_getc0 (l : Launch) (Z : State) (a0 : Array Value) (hw : ∀ d ∈ tables_1, d.before a0 Z = true) (ws : List Jvm.Cond) (u : Addr) (kb : ClassId) (N : Int32) (vs : List Value) (x y : Int32) (h0 : Heap) (n0 : Nat) (Z0 : n0 ≤ h0.size) (SA : Sta Z h0 "java/lang/StringUTF16" "$assertionsDisabled" "Z" (.int (1 : Int32))) (SH : Sta Z h0 "java/lang/StringUTF16" "HI_BYTE_SHIFT" "I" (.int (0 : Int32))) (SL : Sta Z h0 "java/lang/StringUTF16" "LO_BYTE_SHIFT" "I" (.int (8 : Int32))) (Vu : Arv Z h0 u kb .byte N vs (.int (0 : Int32))) (hN0 : (0 : Int32) < N) (hN1 : (1 : Int32) < N) (hb0 : 0 < N.toNatClampNeg) (hb1 : 1 < N.toNatClampNeg) (g0 : vs.getD 0 (.int (0 : Int32)) = .int x) (g1 : vs.getD 1 (.int (0 : Int32)) = .int y) :
    OMet l Z (⟨"java/lang/StringUTF16", "getChar", "([BI)C"⟩ : MethodName) jdk_52_method_5_code 2 (some .char) ws ({ frames := 0, cells := 0, slots := 0, locals := 0 } : Room) #[(.ref u), (.int (0 : Int32))] h0 (fun v h L => v = some (.int (StrChars.pairCh x y)) ∧ Fr n0 L ∧ h = h0) := by
  refine OMet.body (plainFor_of_name own_pn4) ?_
  intro p e s m below meth c s₁ hx hby hml hown hnm hret hlk hZ X0 e0
  refine OGo.step (fun _ kk => castTop (show entryFrame m #[(.ref u), (.int (0 : Int32))] 2 = (mkF m 0 #[.val (.ref u), .val (.int (0 : Int32))] []) from by first | (simp [entryFrame, mkF, argsToLocals, Value.category]; done) | rfl) kk) ?_
  show OGo p e below (s₁.setTop (mkF m 0 #[.val (.ref u), .val (.int (0 : Int32))] [])) _
  obtain ⟨cu, Au, qu, Su, Mu, Hu, Gu⟩ := id Vu
  obtain ⟨T164, X164, e164, st164⟩ := getS2 X0 hx hZ hown (host := "") (Or.inl (hw _ (List.mem_of_getElem? (i := 102) rfl))) Via.refl e0 SA (g := (mkF m 0 #[.val (.ref u), .val (.int (0 : Int32))] [])) rfl (hb hby own_d_jdk_52_method_5_code_0)
  refine OGo.step st164 ?_
  show OGo p e below (T164.setTop (mkF m 3 #[.val (.ref u), .val (.int (0 : Int32))] [(.int (1 : Int32))])) _
  refine OGo.step (fun _ kk => XS.ifYes X164.here hx rfl (pc0 := 3) (pc' := 28) rfl (hb hby own_d_jdk_52_method_5_code_3) rfl ((if0 _ _).trans (feq (by decide)).2) (by decide) (by decide) kk) ?_
  show OGo p e below (T164.setTop (mkF m 28 #[.val (.ref u), .val (.int (0 : Int32))] [])) _
  refine OGo.step (fun _ kk => XS.iloadN X164.here hx rfl (hb hby own_d_jdk_52_method_5_code_28) rfl kk) ?_
  show OGo p e below (T164.setTop (mkF m 29 #[.val (.ref u), .val (.int (0 : Int32))] [(.int (0 : Int32))])) _
  refine OGo.step (fun _ kk => XS.iconst X164.here hx rfl (hb hby own_d_jdk_52_method_5_code_29) kk) ?_
  show OGo p e below (T164.setTop (mkF m 30 #[.val (.ref u), .val (.int (0 : Int32))] [(.int (1 : Int32)), (.int (0 : Int32))])) _
  refine OGo.step (fun _ kk => XS.ishl X164.here hx rfl (hb hby own_d_jdk_52_method_5_code_30) rfl kk) ?_
  show OGo p e below (T164.setTop (mkF m 31 #[.val (.ref u), .val (.int (0 : Int32))] [(.int ((0 : Int32) <<< ((1 : Int32) &&& 31)))])) _
  refine OGo.step (fun _ kk => XS.istoreN X164.here hx rfl (hb hby own_d_jdk_52_method_5_code_31) rfl (l' := #[.val (.ref u), .val (.int ((0 : Int32) <<< ((1 : Int32) &&& 31)))]) rfl kk) ?_
  show OGo p e below (T164.setTop (mkF m 32 #[.val (.ref u), .val (.int ((0 : Int32) <<< ((1 : Int32) &&& 31)))] [])) _
  show OGo p e below (T164.setTop (mkF m 32 #[.val (.ref u), .val (.int (0 : Int32))] [])) _
  refine OGo.step (fun _ kk => XS.aloadN X164.here hx rfl (hb hby own_d_jdk_52_method_5_code_32) rfl rfl kk) ?_
  show OGo p e below (T164.setTop (mkF m 33 #[.val (.ref u), .val (.int (0 : Int32))] [(.ref u)])) _
  refine OGo.step (fun _ kk => XS.iloadN X164.here hx rfl (hb hby own_d_jdk_52_method_5_code_33) rfl kk) ?_
  show OGo p e below (T164.setTop (mkF m 34 #[.val (.ref u), .val (.int (0 : Int32))] [(.int (0 : Int32)), (.ref u)])) _
  refine OGo.step (fun _ kk => XS.iinc X164.here hx rfl (hb hby own_d_jdk_52_method_5_code_34) rfl (l' := #[.val (.ref u), .val (.int ((0 : Int32) + (1 : Int32)))]) rfl kk) ?_
  show OGo p e below (T164.setTop (mkF m 37 #[.val (.ref u), .val (.int ((0 : Int32) + (1 : Int32)))] [(.int (0 : Int32)), (.ref u)])) _
  show OGo p e below (T164.setTop (mkF m 37 #[.val (.ref u), .val (.int (1 : Int32))] [(.int (0 : Int32)), (.ref u)])) _
  refine OGo.step (fun _ kk => X164.baloadBytes hx (j := (0 : Int32)) (v := (.int x)) (by rw [e164]; exact (Au).1) (State.isArrayOf_alike hZ.alike (Au).2.1) (Au).2.2 (inb_of Su ⟨by decide, hN0⟩) (by rw [← g0]; exact Hu 0 (by rw [Su]; exact hb0)) (g := (mkF m 37 #[.val (.ref u), .val (.int (1 : Int32))] [(.int (0 : Int32)), (.ref u)])) rfl rfl (hb hby own_d_jdk_52_method_5_code_37) _ kk) ?_
  show OGo p e below (T164.setTop (mkF m 38 #[.val (.ref u), .val (.int (1 : Int32))] [(.int x)])) _
  refine OGo.step (fun _ kk => XS.sipush X164.here hx rfl (hb hby own_d_jdk_52_method_5_code_38) kk) ?_
  show OGo p e below (T164.setTop (mkF m 41 #[.val (.ref u), .val (.int (1 : Int32))] [(.int (255 : Int32)), (.int x)])) _
  refine OGo.step (fun _ kk => XS.iand X164.here hx rfl (hb hby own_d_jdk_52_method_5_code_41) rfl kk) ?_
  show OGo p e below (T164.setTop (mkF m 42 #[.val (.ref u), .val (.int (1 : Int32))] [(.int (x &&& (255 : Int32)))])) _
  obtain ⟨T165, X165, e165, st165⟩ := getS2 X164 hx hZ hown (host := "") (Or.inl (hw _ (List.mem_of_getElem? (i := 103) rfl))) Via.refl e164 SH (g := (mkF m 42 #[.val (.ref u), .val (.int (1 : Int32))] [(.int (x &&& (255 : Int32)))])) rfl (hb hby own_d_jdk_52_method_5_code_42)
  refine OGo.step st165 ?_
  show OGo p e below (T165.setTop (mkF m 45 #[.val (.ref u), .val (.int (1 : Int32))] [(.int (0 : Int32)), (.int (x &&& (255 : Int32)))])) _
  refine OGo.step (fun _ kk => XS.ishl X165.here hx rfl (hb hby own_d_jdk_52_method_5_code_45) rfl kk) ?_
  show OGo p e below (T165.setTop (mkF m 46 #[.val (.ref u), .val (.int (1 : Int32))] [(.int ((x &&& (255 : Int32)) <<< ((0 : Int32) &&& 31)))])) _
  refine OGo.step (fun _ kk => XS.aloadN X165.here hx rfl (hb hby own_d_jdk_52_method_5_code_46) rfl rfl kk) ?_
  show OGo p e below (T165.setTop (mkF m 47 #[.val (.ref u), .val (.int (1 : Int32))] [(.ref u), (.int ((x &&& (255 : Int32)) <<< ((0 : Int32) &&& 31)))])) _
  refine OGo.step (fun _ kk => XS.iloadN X165.here hx rfl (hb hby own_d_jdk_52_method_5_code_47) rfl kk) ?_
  show OGo p e below (T165.setTop (mkF m 48 #[.val (.ref u), .val (.int (1 : Int32))] [(.int (1 : Int32)), (.ref u), (.int ((x &&& (255 : Int32)) <<< ((0 : Int32) &&& 31)))])) _
  refine OGo.step (fun _ kk => X165.baloadBytes hx (j := (1 : Int32)) (v := (.int y)) (by rw [e165]; exact (Au).1) (State.isArrayOf_alike hZ.alike (Au).2.1) (Au).2.2 (inb_of Su ⟨by decide, hN1⟩) (by rw [← g1]; exact Hu 1 (by rw [Su]; exact hb1)) (g := (mkF m 48 #[.val (.ref u), .val (.int (1 : Int32))] [(.int (1 : Int32)), (.ref u), (.int ((x &&& (255 : Int32)) <<< ((0 : Int32) &&& 31)))])) rfl rfl (hb hby own_d_jdk_52_method_5_code_48) _ kk) ?_
  show OGo p e below (T165.setTop (mkF m 49 #[.val (.ref u), .val (.int (1 : Int32))] [(.int y), (.int ((x &&& (255 : Int32)) <<< ((0 : Int32) &&& 31)))])) _
  refine OGo.step (fun _ kk => XS.sipush X165.here hx rfl (hb hby own_d_jdk_52_method_5_code_49) kk) ?_
  show OGo p e below (T165.setTop (mkF m 52 #[.val (.ref u), .val (.int (1 : Int32))] [(.int (255 : Int32)), (.int y), (.int ((x &&& (255 : Int32)) <<< ((0 : Int32) &&& 31)))])) _
  refine OGo.step (fun _ kk => XS.iand X165.here hx rfl (hb hby own_d_jdk_52_method_5_code_52) rfl kk) ?_
  show OGo p e below (T165.setTop (mkF m 53 #[.val (.ref u), .val (.int (1 : Int32))] [(.int (y &&& (255 : Int32))), (.int ((x &&& (255 : Int32)) <<< ((0 : Int32) &&& 31)))])) _
  obtain ⟨T166, X166, e166, st166⟩ := getS2 X165 hx hZ hown (host := "") (Or.inl (hw _ (List.mem_of_getElem? (i := 104) rfl))) Via.refl e165 SL (g := (mkF m 53 #[.val (.ref u), .val (.int (1 : Int32))] [(.int (y &&& (255 : Int32))), (.int ((x &&& (255 : Int32)) <<< ((0 : Int32) &&& 31)))])) rfl (hb hby own_d_jdk_52_method_5_code_53)
  refine OGo.step st166 ?_
  show OGo p e below (T166.setTop (mkF m 56 #[.val (.ref u), .val (.int (1 : Int32))] [(.int (8 : Int32)), (.int (y &&& (255 : Int32))), (.int ((x &&& (255 : Int32)) <<< ((0 : Int32) &&& 31)))])) _
  refine OGo.step (fun _ kk => XS.ishl X166.here hx rfl (hb hby own_d_jdk_52_method_5_code_56) rfl kk) ?_
  show OGo p e below (T166.setTop (mkF m 57 #[.val (.ref u), .val (.int (1 : Int32))] [(.int ((y &&& (255 : Int32)) <<< ((8 : Int32) &&& 31))), (.int ((x &&& (255 : Int32)) <<< ((0 : Int32) &&& 31)))])) _
  refine OGo.step (fun _ kk => XS.ior X166.here hx rfl (hb hby own_d_jdk_52_method_5_code_57) rfl kk) ?_
  show OGo p e below (T166.setTop (mkF m 58 #[.val (.ref u), .val (.int (1 : Int32))] [(.int (((x &&& (255 : Int32)) <<< ((0 : Int32) &&& 31)) ||| ((y &&& (255 : Int32)) <<< ((8 : Int32) &&& 31))))])) _
  refine OGo.step (fun _ kk => XS.i2c X166.here hx rfl (hb hby own_d_jdk_52_method_5_code_58) rfl kk) ?_
  show OGo p e below (T166.setTop (mkF m 59 #[.val (.ref u), .val (.int (1 : Int32))] [(.int ((((x &&& (255 : Int32)) <<< ((0 : Int32) &&& 31)) ||| ((y &&& (255 : Int32)) <<< ((8 : Int32) &&& 31))).toUInt32.toUInt16.toUInt32.toInt32))])) _
  exact own_retN X166 hx hlk hret (by simp) (hb hby own_d_jdk_52_method_5_code_59) ⟨congrArg (fun z => some (Value.int z)) (own_narcc _), Fr.nil n0, e166⟩ (by decide) (by decide)

set_option maxRecDepth 65536 in
set_option maxHeartbeats 40000000 in
theorem own_putc1 (l : Launch) (Z : State) (a0 : Array Value) (hw : ∀ d ∈ tables_1, d.before a0 Z = true) (ws : List Jvm.Cond) (u : Addr) (kb : ClassId) (N : Int32) (vs : List Value) (ch : Int32) (h0 : Heap) (n0 : Nat) (Z0 : n0 ≤ h0.size) (SA : Sta Z h0 "java/lang/StringUTF16" "$assertionsDisabled" "Z" (.int (1 : Int32))) (SH : Sta Z h0 "java/lang/StringUTF16" "HI_BYTE_SHIFT" "I" (.int (0 : Int32))) (SL : Sta Z h0 "java/lang/StringUTF16" "LO_BYTE_SHIFT" "I" (.int (8 : Int32))) (gu : n0 ≤ u) (Vu : Arv Z h0 u kb .byte N vs (.int (0 : Int32))) (hl : 3 < vs.length) (hN0 : (2 : Int32) < N) (hN1 : (3 : Int32) < N) :
    OMet l Z (⟨"java/lang/StringUTF16", "putChar", "([BII)V"⟩ : MethodName) jdk_52_method_4_code 3 none ws ({ frames := 0, cells := 0, slots := 0, locals := 0 } : Room) #[(.ref u), (.int (1 : Int32)), (.int ch)] h0 (fun v h L => v = none ∧ Fr n0 L ∧ Keep h0 h [u] ∧ Arv Z h u kb .byte N ((vs.set 2 (.int (StrChars.lo8 ch))).set 3 (.int (StrChars.hi8 ch))) (.int (0 : Int32))) := by
  refine OMet.body (plainFor_of_name own_pn4) ?_
  intro p e s m below meth c s₁ hx hby hml hown hnm hret hlk hZ X0 e0
  refine OGo.step (fun _ kk => castTop (show entryFrame m #[(.ref u), (.int (1 : Int32)), (.int ch)] 3 = (mkF m 0 #[.val (.ref u), .val (.int (1 : Int32)), .val (.int ch)] []) from by first | (simp [entryFrame, mkF, argsToLocals, Value.category]; done) | rfl) kk) ?_
  show OGo p e below (s₁.setTop (mkF m 0 #[.val (.ref u), .val (.int (1 : Int32)), .val (.int ch)] [])) _
  obtain ⟨T167, X167, e167, st167⟩ := getS2 X0 hx hZ hown (host := "") (Or.inl (hw _ (List.mem_of_getElem? (i := 102) rfl))) Via.refl e0 SA (g := (mkF m 0 #[.val (.ref u), .val (.int (1 : Int32)), .val (.int ch)] [])) rfl (hb hby own_d_jdk_52_method_4_code_0)
  refine OGo.step st167 ?_
  show OGo p e below (T167.setTop (mkF m 3 #[.val (.ref u), .val (.int (1 : Int32)), .val (.int ch)] [(.int (1 : Int32))])) _
  refine OGo.step (fun _ kk => XS.ifYes X167.here hx rfl (pc0 := 3) (pc' := 28) rfl (hb hby own_d_jdk_52_method_4_code_3) rfl ((if0 _ _).trans (feq (by decide)).2) (by decide) (by decide) kk) ?_
  show OGo p e below (T167.setTop (mkF m 28 #[.val (.ref u), .val (.int (1 : Int32)), .val (.int ch)] [])) _
  refine OGo.step (fun _ kk => XS.iloadN X167.here hx rfl (hb hby own_d_jdk_52_method_4_code_28) rfl kk) ?_
  show OGo p e below (T167.setTop (mkF m 29 #[.val (.ref u), .val (.int (1 : Int32)), .val (.int ch)] [(.int (1 : Int32))])) _
  refine OGo.step (fun _ kk => XS.iconst X167.here hx rfl (hb hby own_d_jdk_52_method_4_code_29) kk) ?_
  show OGo p e below (T167.setTop (mkF m 30 #[.val (.ref u), .val (.int (1 : Int32)), .val (.int ch)] [(.int (1 : Int32)), (.int (1 : Int32))])) _
  refine OGo.step (fun _ kk => XS.ishl X167.here hx rfl (hb hby own_d_jdk_52_method_4_code_30) rfl kk) ?_
  show OGo p e below (T167.setTop (mkF m 31 #[.val (.ref u), .val (.int (1 : Int32)), .val (.int ch)] [(.int ((1 : Int32) <<< ((1 : Int32) &&& 31)))])) _
  refine OGo.step (fun _ kk => XS.istoreN X167.here hx rfl (hb hby own_d_jdk_52_method_4_code_31) rfl (l' := #[.val (.ref u), .val (.int ((1 : Int32) <<< ((1 : Int32) &&& 31))), .val (.int ch)]) rfl kk) ?_
  show OGo p e below (T167.setTop (mkF m 32 #[.val (.ref u), .val (.int ((1 : Int32) <<< ((1 : Int32) &&& 31))), .val (.int ch)] [])) _
  show OGo p e below (T167.setTop (mkF m 32 #[.val (.ref u), .val (.int (2 : Int32)), .val (.int ch)] [])) _
  refine OGo.step (fun _ kk => XS.aloadN X167.here hx rfl (hb hby own_d_jdk_52_method_4_code_32) rfl rfl kk) ?_
  show OGo p e below (T167.setTop (mkF m 33 #[.val (.ref u), .val (.int (2 : Int32)), .val (.int ch)] [(.ref u)])) _
  refine OGo.step (fun _ kk => XS.iloadN X167.here hx rfl (hb hby own_d_jdk_52_method_4_code_33) rfl kk) ?_
  show OGo p e below (T167.setTop (mkF m 34 #[.val (.ref u), .val (.int (2 : Int32)), .val (.int ch)] [(.int (2 : Int32)), (.ref u)])) _
  refine OGo.step (fun _ kk => XS.iinc X167.here hx rfl (hb hby own_d_jdk_52_method_4_code_34) rfl (l' := #[.val (.ref u), .val (.int ((2 : Int32) + (1 : Int32))), .val (.int ch)]) rfl kk) ?_
  show OGo p e below (T167.setTop (mkF m 37 #[.val (.ref u), .val (.int ((2 : Int32) + (1 : Int32))), .val (.int ch)] [(.int (2 : Int32)), (.ref u)])) _
  show OGo p e below (T167.setTop (mkF m 37 #[.val (.ref u), .val (.int (3 : Int32)), .val (.int ch)] [(.int (2 : Int32)), (.ref u)])) _
  refine OGo.step (fun _ kk => XS.iloadN X167.here hx rfl (hb hby own_d_jdk_52_method_4_code_37) rfl kk) ?_
  show OGo p e below (T167.setTop (mkF m 38 #[.val (.ref u), .val (.int (3 : Int32)), .val (.int ch)] [(.int ch), (.int (2 : Int32)), (.ref u)])) _
  obtain ⟨T168, X168, e168, st168⟩ := getS2 X167 hx hZ hown (host := "") (Or.inl (hw _ (List.mem_of_getElem? (i := 103) rfl))) Via.refl e167 SH (g := (mkF m 38 #[.val (.ref u), .val (.int (3 : Int32)), .val (.int ch)] [(.int ch), (.int (2 : Int32)), (.ref u)])) rfl (hb hby own_d_jdk_52_method_4_code_38)
  refine OGo.step st168 ?_
  show OGo p e below (T168.setTop (mkF m 41 #[.val (.ref u), .val (.int (3 : Int32)), .val (.int ch)] [(.int (0 : Int32)), (.int ch), (.int (2 : Int32)), (.ref u)])) _
  refine OGo.step (fun _ kk => XS.ishr X168.here hx rfl (hb hby own_d_jdk_52_method_4_code_41) rfl kk) ?_
  show OGo p e below (T168.setTop (mkF m 42 #[.val (.ref u), .val (.int (3 : Int32)), .val (.int ch)] [(.int (ch >>> ((0 : Int32) &&& 31))), (.int (2 : Int32)), (.ref u)])) _
  refine OGo.step (fun _ kk => XS.i2b X168.here hx rfl (hb hby own_d_jdk_52_method_4_code_42) rfl kk) ?_
  show OGo p e below (T168.setTop (mkF m 43 #[.val (.ref u), .val (.int (3 : Int32)), .val (.int ch)] [(.int ((ch >>> ((0 : Int32) &&& 31)).toInt8.toInt32)), (.int (2 : Int32)), (.ref u)])) _
  obtain ⟨cA169, A169, q169, S169, M169, H169, G169⟩ := id Vu
  obtain ⟨T170, h170, X170, e170, W170, st170⟩ := stB X168 hx hZ e168 A169 (j := (2 : Int32)) (inb_of S169 ⟨by decide, hN0⟩) (g := (mkF m 43 #[.val (.ref u), .val (.int (3 : Int32)), .val (.int ch)] [(.int ((ch >>> ((0 : Int32) &&& 31)).toInt8.toInt32)), (.int (2 : Int32)), (.ref u)])) rfl rfl (hb hby own_d_jdk_52_method_4_code_43)
  refine OGo.step st170 ?_
  show OGo p e below (T170.setTop (mkF m 44 #[.val (.ref u), .val (.int (3 : Int32)), .val (.int ch)] [])) _
  have Va169 : Arv Z h170 u kb .byte N (vs.set 2 (.int (StrChars.lo8 ch))) (.int (0 : Int32)) := by rw [← (own_lo ch)]; exact Arv.set A169 q169 S169 M169 H169 G169 (fits_nar_byte _) W170 2 rfl (Nat.lt_of_succ_lt hl)
  have Nf170 := Fr.snoc X170 (Fr.nil n0) gu
  have sz170 : n0 ≤ h170.size := by rw [W170.size]; exact Z0
  refine OGo.step (fun _ kk => XS.aloadN X170.here hx rfl (hb hby own_d_jdk_52_method_4_code_44) rfl rfl kk) ?_
  show OGo p e below (T170.setTop (mkF m 45 #[.val (.ref u), .val (.int (3 : Int32)), .val (.int ch)] [(.ref u)])) _
  refine OGo.step (fun _ kk => XS.iloadN X170.here hx rfl (hb hby own_d_jdk_52_method_4_code_45) rfl kk) ?_
  show OGo p e below (T170.setTop (mkF m 46 #[.val (.ref u), .val (.int (3 : Int32)), .val (.int ch)] [(.int (3 : Int32)), (.ref u)])) _
  refine OGo.step (fun _ kk => XS.iloadN X170.here hx rfl (hb hby own_d_jdk_52_method_4_code_46) rfl kk) ?_
  show OGo p e below (T170.setTop (mkF m 47 #[.val (.ref u), .val (.int (3 : Int32)), .val (.int ch)] [(.int ch), (.int (3 : Int32)), (.ref u)])) _
  have fc171 := (SL.wr W170)
  obtain ⟨T172, X172, e172, st172⟩ := getS2 X170 hx hZ hown (host := "") (Or.inl (hw _ (List.mem_of_getElem? (i := 104) rfl))) Via.refl e170 fc171 (g := (mkF m 47 #[.val (.ref u), .val (.int (3 : Int32)), .val (.int ch)] [(.int ch), (.int (3 : Int32)), (.ref u)])) rfl (hb hby own_d_jdk_52_method_4_code_47)
  refine OGo.step st172 ?_
  show OGo p e below (T172.setTop (mkF m 50 #[.val (.ref u), .val (.int (3 : Int32)), .val (.int ch)] [(.int (8 : Int32)), (.int ch), (.int (3 : Int32)), (.ref u)])) _
  refine OGo.step (fun _ kk => XS.ishr X172.here hx rfl (hb hby own_d_jdk_52_method_4_code_50) rfl kk) ?_
  show OGo p e below (T172.setTop (mkF m 51 #[.val (.ref u), .val (.int (3 : Int32)), .val (.int ch)] [(.int (ch >>> ((8 : Int32) &&& 31))), (.int (3 : Int32)), (.ref u)])) _
  refine OGo.step (fun _ kk => XS.i2b X172.here hx rfl (hb hby own_d_jdk_52_method_4_code_51) rfl kk) ?_
  show OGo p e below (T172.setTop (mkF m 52 #[.val (.ref u), .val (.int (3 : Int32)), .val (.int ch)] [(.int ((ch >>> ((8 : Int32) &&& 31)).toInt8.toInt32)), (.int (3 : Int32)), (.ref u)])) _
  obtain ⟨cA173, A173, q173, S173, M173, H173, G173⟩ := id Va169
  obtain ⟨T174, h174, X174, e174, W174, st174⟩ := stB X172 hx hZ e172 A173 (j := (3 : Int32)) (inb_of S173 ⟨by decide, hN1⟩) (g := (mkF m 52 #[.val (.ref u), .val (.int (3 : Int32)), .val (.int ch)] [(.int ((ch >>> ((8 : Int32) &&& 31)).toInt8.toInt32)), (.int (3 : Int32)), (.ref u)])) rfl rfl (hb hby own_d_jdk_52_method_4_code_52)
  refine OGo.step st174 ?_
  show OGo p e below (T174.setTop (mkF m 53 #[.val (.ref u), .val (.int (3 : Int32)), .val (.int ch)] [])) _
  have Va173 : Arv Z h174 u kb .byte N ((vs.set 2 (.int (StrChars.lo8 ch))).set 3 (.int (StrChars.hi8 ch))) (.int (0 : Int32)) := by rw [← (own_hi ch)]; exact Arv.set A173 q173 S173 M173 H173 G173 (fits_nar_byte _) W174 3 rfl (by rw [List.length_set]; exact hl)
  have Nf174 := Fr.snoc X174 Nf170 gu
  have sz174 : n0 ≤ h174.size := by rw [W174.size]; exact sz170
  have HK := (((Keep.refl h0 [u]).wr W170 (Or.inl (List.mem_of_getElem? (i := 0) rfl))).wr W174 (Or.inl (List.mem_of_getElem? (i := 0) rfl)))
  exact own_ret0 X174 hx hlk hret (hb hby own_d_jdk_52_method_4_code_53) (by rw [e174]; exact ⟨rfl, Nf174, HK, Va173⟩) (by decide) (by decide)

set_option maxRecDepth 65536 in
set_option maxHeartbeats 40000000 in
theorem own_getc1 (l : Launch) (Z : State) (a0 : Array Value) (hw : ∀ d ∈ tables_1, d.before a0 Z = true) (ws : List Jvm.Cond) (u : Addr) (kb : ClassId) (N : Int32) (vs : List Value) (x y : Int32) (h0 : Heap) (n0 : Nat) (Z0 : n0 ≤ h0.size) (SA : Sta Z h0 "java/lang/StringUTF16" "$assertionsDisabled" "Z" (.int (1 : Int32))) (SH : Sta Z h0 "java/lang/StringUTF16" "HI_BYTE_SHIFT" "I" (.int (0 : Int32))) (SL : Sta Z h0 "java/lang/StringUTF16" "LO_BYTE_SHIFT" "I" (.int (8 : Int32))) (Vu : Arv Z h0 u kb .byte N vs (.int (0 : Int32))) (hN0 : (2 : Int32) < N) (hN1 : (3 : Int32) < N) (hb0 : 2 < N.toNatClampNeg) (hb1 : 3 < N.toNatClampNeg) (g0 : vs.getD 2 (.int (0 : Int32)) = .int x) (g1 : vs.getD 3 (.int (0 : Int32)) = .int y) :
    OMet l Z (⟨"java/lang/StringUTF16", "getChar", "([BI)C"⟩ : MethodName) jdk_52_method_5_code 2 (some .char) ws ({ frames := 0, cells := 0, slots := 0, locals := 0 } : Room) #[(.ref u), (.int (1 : Int32))] h0 (fun v h L => v = some (.int (StrChars.pairCh x y)) ∧ Fr n0 L ∧ h = h0) := by
  refine OMet.body (plainFor_of_name own_pn4) ?_
  intro p e s m below meth c s₁ hx hby hml hown hnm hret hlk hZ X0 e0
  refine OGo.step (fun _ kk => castTop (show entryFrame m #[(.ref u), (.int (1 : Int32))] 2 = (mkF m 0 #[.val (.ref u), .val (.int (1 : Int32))] []) from by first | (simp [entryFrame, mkF, argsToLocals, Value.category]; done) | rfl) kk) ?_
  show OGo p e below (s₁.setTop (mkF m 0 #[.val (.ref u), .val (.int (1 : Int32))] [])) _
  obtain ⟨cu, Au, qu, Su, Mu, Hu, Gu⟩ := id Vu
  obtain ⟨T175, X175, e175, st175⟩ := getS2 X0 hx hZ hown (host := "") (Or.inl (hw _ (List.mem_of_getElem? (i := 102) rfl))) Via.refl e0 SA (g := (mkF m 0 #[.val (.ref u), .val (.int (1 : Int32))] [])) rfl (hb hby own_d_jdk_52_method_5_code_0)
  refine OGo.step st175 ?_
  show OGo p e below (T175.setTop (mkF m 3 #[.val (.ref u), .val (.int (1 : Int32))] [(.int (1 : Int32))])) _
  refine OGo.step (fun _ kk => XS.ifYes X175.here hx rfl (pc0 := 3) (pc' := 28) rfl (hb hby own_d_jdk_52_method_5_code_3) rfl ((if0 _ _).trans (feq (by decide)).2) (by decide) (by decide) kk) ?_
  show OGo p e below (T175.setTop (mkF m 28 #[.val (.ref u), .val (.int (1 : Int32))] [])) _
  refine OGo.step (fun _ kk => XS.iloadN X175.here hx rfl (hb hby own_d_jdk_52_method_5_code_28) rfl kk) ?_
  show OGo p e below (T175.setTop (mkF m 29 #[.val (.ref u), .val (.int (1 : Int32))] [(.int (1 : Int32))])) _
  refine OGo.step (fun _ kk => XS.iconst X175.here hx rfl (hb hby own_d_jdk_52_method_5_code_29) kk) ?_
  show OGo p e below (T175.setTop (mkF m 30 #[.val (.ref u), .val (.int (1 : Int32))] [(.int (1 : Int32)), (.int (1 : Int32))])) _
  refine OGo.step (fun _ kk => XS.ishl X175.here hx rfl (hb hby own_d_jdk_52_method_5_code_30) rfl kk) ?_
  show OGo p e below (T175.setTop (mkF m 31 #[.val (.ref u), .val (.int (1 : Int32))] [(.int ((1 : Int32) <<< ((1 : Int32) &&& 31)))])) _
  refine OGo.step (fun _ kk => XS.istoreN X175.here hx rfl (hb hby own_d_jdk_52_method_5_code_31) rfl (l' := #[.val (.ref u), .val (.int ((1 : Int32) <<< ((1 : Int32) &&& 31)))]) rfl kk) ?_
  show OGo p e below (T175.setTop (mkF m 32 #[.val (.ref u), .val (.int ((1 : Int32) <<< ((1 : Int32) &&& 31)))] [])) _
  show OGo p e below (T175.setTop (mkF m 32 #[.val (.ref u), .val (.int (2 : Int32))] [])) _
  refine OGo.step (fun _ kk => XS.aloadN X175.here hx rfl (hb hby own_d_jdk_52_method_5_code_32) rfl rfl kk) ?_
  show OGo p e below (T175.setTop (mkF m 33 #[.val (.ref u), .val (.int (2 : Int32))] [(.ref u)])) _
  refine OGo.step (fun _ kk => XS.iloadN X175.here hx rfl (hb hby own_d_jdk_52_method_5_code_33) rfl kk) ?_
  show OGo p e below (T175.setTop (mkF m 34 #[.val (.ref u), .val (.int (2 : Int32))] [(.int (2 : Int32)), (.ref u)])) _
  refine OGo.step (fun _ kk => XS.iinc X175.here hx rfl (hb hby own_d_jdk_52_method_5_code_34) rfl (l' := #[.val (.ref u), .val (.int ((2 : Int32) + (1 : Int32)))]) rfl kk) ?_
  show OGo p e below (T175.setTop (mkF m 37 #[.val (.ref u), .val (.int ((2 : Int32) + (1 : Int32)))] [(.int (2 : Int32)), (.ref u)])) _
  show OGo p e below (T175.setTop (mkF m 37 #[.val (.ref u), .val (.int (3 : Int32))] [(.int (2 : Int32)), (.ref u)])) _
  refine OGo.step (fun _ kk => X175.baloadBytes hx (j := (2 : Int32)) (v := (.int x)) (by rw [e175]; exact (Au).1) (State.isArrayOf_alike hZ.alike (Au).2.1) (Au).2.2 (inb_of Su ⟨by decide, hN0⟩) (by rw [← g0]; exact Hu 2 (by rw [Su]; exact hb0)) (g := (mkF m 37 #[.val (.ref u), .val (.int (3 : Int32))] [(.int (2 : Int32)), (.ref u)])) rfl rfl (hb hby own_d_jdk_52_method_5_code_37) _ kk) ?_
  show OGo p e below (T175.setTop (mkF m 38 #[.val (.ref u), .val (.int (3 : Int32))] [(.int x)])) _
  refine OGo.step (fun _ kk => XS.sipush X175.here hx rfl (hb hby own_d_jdk_52_method_5_code_38) kk) ?_
  show OGo p e below (T175.setTop (mkF m 41 #[.val (.ref u), .val (.int (3 : Int32))] [(.int (255 : Int32)), (.int x)])) _
  refine OGo.step (fun _ kk => XS.iand X175.here hx rfl (hb hby own_d_jdk_52_method_5_code_41) rfl kk) ?_
  show OGo p e below (T175.setTop (mkF m 42 #[.val (.ref u), .val (.int (3 : Int32))] [(.int (x &&& (255 : Int32)))])) _
  obtain ⟨T176, X176, e176, st176⟩ := getS2 X175 hx hZ hown (host := "") (Or.inl (hw _ (List.mem_of_getElem? (i := 103) rfl))) Via.refl e175 SH (g := (mkF m 42 #[.val (.ref u), .val (.int (3 : Int32))] [(.int (x &&& (255 : Int32)))])) rfl (hb hby own_d_jdk_52_method_5_code_42)
  refine OGo.step st176 ?_
  show OGo p e below (T176.setTop (mkF m 45 #[.val (.ref u), .val (.int (3 : Int32))] [(.int (0 : Int32)), (.int (x &&& (255 : Int32)))])) _
  refine OGo.step (fun _ kk => XS.ishl X176.here hx rfl (hb hby own_d_jdk_52_method_5_code_45) rfl kk) ?_
  show OGo p e below (T176.setTop (mkF m 46 #[.val (.ref u), .val (.int (3 : Int32))] [(.int ((x &&& (255 : Int32)) <<< ((0 : Int32) &&& 31)))])) _
  refine OGo.step (fun _ kk => XS.aloadN X176.here hx rfl (hb hby own_d_jdk_52_method_5_code_46) rfl rfl kk) ?_
  show OGo p e below (T176.setTop (mkF m 47 #[.val (.ref u), .val (.int (3 : Int32))] [(.ref u), (.int ((x &&& (255 : Int32)) <<< ((0 : Int32) &&& 31)))])) _
  refine OGo.step (fun _ kk => XS.iloadN X176.here hx rfl (hb hby own_d_jdk_52_method_5_code_47) rfl kk) ?_
  show OGo p e below (T176.setTop (mkF m 48 #[.val (.ref u), .val (.int (3 : Int32))] [(.int (3 : Int32)), (.ref u), (.int ((x &&& (255 : Int32)) <<< ((0 : Int32) &&& 31)))])) _
  refine OGo.step (fun _ kk => X176.baloadBytes hx (j := (3 : Int32)) (v := (.int y)) (by rw [e176]; exact (Au).1) (State.isArrayOf_alike hZ.alike (Au).2.1) (Au).2.2 (inb_of Su ⟨by decide, hN1⟩) (by rw [← g1]; exact Hu 3 (by rw [Su]; exact hb1)) (g := (mkF m 48 #[.val (.ref u), .val (.int (3 : Int32))] [(.int (3 : Int32)), (.ref u), (.int ((x &&& (255 : Int32)) <<< ((0 : Int32) &&& 31)))])) rfl rfl (hb hby own_d_jdk_52_method_5_code_48) _ kk) ?_
  show OGo p e below (T176.setTop (mkF m 49 #[.val (.ref u), .val (.int (3 : Int32))] [(.int y), (.int ((x &&& (255 : Int32)) <<< ((0 : Int32) &&& 31)))])) _
  refine OGo.step (fun _ kk => XS.sipush X176.here hx rfl (hb hby own_d_jdk_52_method_5_code_49) kk) ?_
  show OGo p e below (T176.setTop (mkF m 52 #[.val (.ref u), .val (.int (3 : Int32))] [(.int (255 : Int32)), (.int y), (.int ((x &&& (255 : Int32)) <<< ((0 : Int32) &&& 31)))])) _
  refine OGo.step (fun _ kk => XS.iand X176.here hx rfl (hb hby own_d_jdk_52_method_5_code_52) rfl kk) ?_
  show OGo p e below (T176.setTop (mkF m 53 #[.val (.ref u), .val (.int (3 : Int32))] [(.int (y &&& (255 : Int32))), (.int ((x &&& (255 : Int32)) <<< ((0 : Int32) &&& 31)))])) _
  obtain ⟨T177, X177, e177, st177⟩ := getS2 X176 hx hZ hown (host := "") (Or.inl (hw _ (List.mem_of_getElem? (i := 104) rfl))) Via.refl e176 SL (g := (mkF m 53 #[.val (.ref u), .val (.int (3 : Int32))] [(.int (y &&& (255 : Int32))), (.int ((x &&& (255 : Int32)) <<< ((0 : Int32) &&& 31)))])) rfl (hb hby own_d_jdk_52_method_5_code_53)
  refine OGo.step st177 ?_
  show OGo p e below (T177.setTop (mkF m 56 #[.val (.ref u), .val (.int (3 : Int32))] [(.int (8 : Int32)), (.int (y &&& (255 : Int32))), (.int ((x &&& (255 : Int32)) <<< ((0 : Int32) &&& 31)))])) _
  refine OGo.step (fun _ kk => XS.ishl X177.here hx rfl (hb hby own_d_jdk_52_method_5_code_56) rfl kk) ?_
  show OGo p e below (T177.setTop (mkF m 57 #[.val (.ref u), .val (.int (3 : Int32))] [(.int ((y &&& (255 : Int32)) <<< ((8 : Int32) &&& 31))), (.int ((x &&& (255 : Int32)) <<< ((0 : Int32) &&& 31)))])) _
  refine OGo.step (fun _ kk => XS.ior X177.here hx rfl (hb hby own_d_jdk_52_method_5_code_57) rfl kk) ?_
  show OGo p e below (T177.setTop (mkF m 58 #[.val (.ref u), .val (.int (3 : Int32))] [(.int (((x &&& (255 : Int32)) <<< ((0 : Int32) &&& 31)) ||| ((y &&& (255 : Int32)) <<< ((8 : Int32) &&& 31))))])) _
  refine OGo.step (fun _ kk => XS.i2c X177.here hx rfl (hb hby own_d_jdk_52_method_5_code_58) rfl kk) ?_
  show OGo p e below (T177.setTop (mkF m 59 #[.val (.ref u), .val (.int (3 : Int32))] [(.int ((((x &&& (255 : Int32)) <<< ((0 : Int32) &&& 31)) ||| ((y &&& (255 : Int32)) <<< ((8 : Int32) &&& 31))).toUInt32.toUInt16.toUInt32.toInt32))])) _
  exact own_retN X177 hx hlk hret (by simp) (hb hby own_d_jdk_52_method_5_code_59) ⟨congrArg (fun z => some (Value.int z)) (own_narcc _), Fr.nil n0, e177⟩ (by decide) (by decide)

set_option maxRecDepth 65536 in
set_option maxHeartbeats 40000000 in
theorem own_putc2 (l : Launch) (Z : State) (a0 : Array Value) (hw : ∀ d ∈ tables_1, d.before a0 Z = true) (ws : List Jvm.Cond) (u : Addr) (kb : ClassId) (N : Int32) (vs : List Value) (ch : Int32) (h0 : Heap) (n0 : Nat) (Z0 : n0 ≤ h0.size) (SA : Sta Z h0 "java/lang/StringUTF16" "$assertionsDisabled" "Z" (.int (1 : Int32))) (SH : Sta Z h0 "java/lang/StringUTF16" "HI_BYTE_SHIFT" "I" (.int (0 : Int32))) (SL : Sta Z h0 "java/lang/StringUTF16" "LO_BYTE_SHIFT" "I" (.int (8 : Int32))) (gu : n0 ≤ u) (Vu : Arv Z h0 u kb .byte N vs (.int (0 : Int32))) (hl : 5 < vs.length) (hN0 : (4 : Int32) < N) (hN1 : (5 : Int32) < N) :
    OMet l Z (⟨"java/lang/StringUTF16", "putChar", "([BII)V"⟩ : MethodName) jdk_52_method_4_code 3 none ws ({ frames := 0, cells := 0, slots := 0, locals := 0 } : Room) #[(.ref u), (.int (2 : Int32)), (.int ch)] h0 (fun v h L => v = none ∧ Fr n0 L ∧ Keep h0 h [u] ∧ Arv Z h u kb .byte N ((vs.set 4 (.int (StrChars.lo8 ch))).set 5 (.int (StrChars.hi8 ch))) (.int (0 : Int32))) := by
  refine OMet.body (plainFor_of_name own_pn4) ?_
  intro p e s m below meth c s₁ hx hby hml hown hnm hret hlk hZ X0 e0
  refine OGo.step (fun _ kk => castTop (show entryFrame m #[(.ref u), (.int (2 : Int32)), (.int ch)] 3 = (mkF m 0 #[.val (.ref u), .val (.int (2 : Int32)), .val (.int ch)] []) from by first | (simp [entryFrame, mkF, argsToLocals, Value.category]; done) | rfl) kk) ?_
  show OGo p e below (s₁.setTop (mkF m 0 #[.val (.ref u), .val (.int (2 : Int32)), .val (.int ch)] [])) _
  obtain ⟨T178, X178, e178, st178⟩ := getS2 X0 hx hZ hown (host := "") (Or.inl (hw _ (List.mem_of_getElem? (i := 102) rfl))) Via.refl e0 SA (g := (mkF m 0 #[.val (.ref u), .val (.int (2 : Int32)), .val (.int ch)] [])) rfl (hb hby own_d_jdk_52_method_4_code_0)
  refine OGo.step st178 ?_
  show OGo p e below (T178.setTop (mkF m 3 #[.val (.ref u), .val (.int (2 : Int32)), .val (.int ch)] [(.int (1 : Int32))])) _
  refine OGo.step (fun _ kk => XS.ifYes X178.here hx rfl (pc0 := 3) (pc' := 28) rfl (hb hby own_d_jdk_52_method_4_code_3) rfl ((if0 _ _).trans (feq (by decide)).2) (by decide) (by decide) kk) ?_
  show OGo p e below (T178.setTop (mkF m 28 #[.val (.ref u), .val (.int (2 : Int32)), .val (.int ch)] [])) _
  refine OGo.step (fun _ kk => XS.iloadN X178.here hx rfl (hb hby own_d_jdk_52_method_4_code_28) rfl kk) ?_
  show OGo p e below (T178.setTop (mkF m 29 #[.val (.ref u), .val (.int (2 : Int32)), .val (.int ch)] [(.int (2 : Int32))])) _
  refine OGo.step (fun _ kk => XS.iconst X178.here hx rfl (hb hby own_d_jdk_52_method_4_code_29) kk) ?_
  show OGo p e below (T178.setTop (mkF m 30 #[.val (.ref u), .val (.int (2 : Int32)), .val (.int ch)] [(.int (1 : Int32)), (.int (2 : Int32))])) _
  refine OGo.step (fun _ kk => XS.ishl X178.here hx rfl (hb hby own_d_jdk_52_method_4_code_30) rfl kk) ?_
  show OGo p e below (T178.setTop (mkF m 31 #[.val (.ref u), .val (.int (2 : Int32)), .val (.int ch)] [(.int ((2 : Int32) <<< ((1 : Int32) &&& 31)))])) _
  refine OGo.step (fun _ kk => XS.istoreN X178.here hx rfl (hb hby own_d_jdk_52_method_4_code_31) rfl (l' := #[.val (.ref u), .val (.int ((2 : Int32) <<< ((1 : Int32) &&& 31))), .val (.int ch)]) rfl kk) ?_
  show OGo p e below (T178.setTop (mkF m 32 #[.val (.ref u), .val (.int ((2 : Int32) <<< ((1 : Int32) &&& 31))), .val (.int ch)] [])) _
  show OGo p e below (T178.setTop (mkF m 32 #[.val (.ref u), .val (.int (4 : Int32)), .val (.int ch)] [])) _
  refine OGo.step (fun _ kk => XS.aloadN X178.here hx rfl (hb hby own_d_jdk_52_method_4_code_32) rfl rfl kk) ?_
  show OGo p e below (T178.setTop (mkF m 33 #[.val (.ref u), .val (.int (4 : Int32)), .val (.int ch)] [(.ref u)])) _
  refine OGo.step (fun _ kk => XS.iloadN X178.here hx rfl (hb hby own_d_jdk_52_method_4_code_33) rfl kk) ?_
  show OGo p e below (T178.setTop (mkF m 34 #[.val (.ref u), .val (.int (4 : Int32)), .val (.int ch)] [(.int (4 : Int32)), (.ref u)])) _
  refine OGo.step (fun _ kk => XS.iinc X178.here hx rfl (hb hby own_d_jdk_52_method_4_code_34) rfl (l' := #[.val (.ref u), .val (.int ((4 : Int32) + (1 : Int32))), .val (.int ch)]) rfl kk) ?_
  show OGo p e below (T178.setTop (mkF m 37 #[.val (.ref u), .val (.int ((4 : Int32) + (1 : Int32))), .val (.int ch)] [(.int (4 : Int32)), (.ref u)])) _
  show OGo p e below (T178.setTop (mkF m 37 #[.val (.ref u), .val (.int (5 : Int32)), .val (.int ch)] [(.int (4 : Int32)), (.ref u)])) _
  refine OGo.step (fun _ kk => XS.iloadN X178.here hx rfl (hb hby own_d_jdk_52_method_4_code_37) rfl kk) ?_
  show OGo p e below (T178.setTop (mkF m 38 #[.val (.ref u), .val (.int (5 : Int32)), .val (.int ch)] [(.int ch), (.int (4 : Int32)), (.ref u)])) _
  obtain ⟨T179, X179, e179, st179⟩ := getS2 X178 hx hZ hown (host := "") (Or.inl (hw _ (List.mem_of_getElem? (i := 103) rfl))) Via.refl e178 SH (g := (mkF m 38 #[.val (.ref u), .val (.int (5 : Int32)), .val (.int ch)] [(.int ch), (.int (4 : Int32)), (.ref u)])) rfl (hb hby own_d_jdk_52_method_4_code_38)
  refine OGo.step st179 ?_
  show OGo p e below (T179.setTop (mkF m 41 #[.val (.ref u), .val (.int (5 : Int32)), .val (.int ch)] [(.int (0 : Int32)), (.int ch), (.int (4 : Int32)), (.ref u)])) _
  refine OGo.step (fun _ kk => XS.ishr X179.here hx rfl (hb hby own_d_jdk_52_method_4_code_41) rfl kk) ?_
  show OGo p e below (T179.setTop (mkF m 42 #[.val (.ref u), .val (.int (5 : Int32)), .val (.int ch)] [(.int (ch >>> ((0 : Int32) &&& 31))), (.int (4 : Int32)), (.ref u)])) _
  refine OGo.step (fun _ kk => XS.i2b X179.here hx rfl (hb hby own_d_jdk_52_method_4_code_42) rfl kk) ?_
  show OGo p e below (T179.setTop (mkF m 43 #[.val (.ref u), .val (.int (5 : Int32)), .val (.int ch)] [(.int ((ch >>> ((0 : Int32) &&& 31)).toInt8.toInt32)), (.int (4 : Int32)), (.ref u)])) _
  obtain ⟨cA180, A180, q180, S180, M180, H180, G180⟩ := id Vu
  obtain ⟨T181, h181, X181, e181, W181, st181⟩ := stB X179 hx hZ e179 A180 (j := (4 : Int32)) (inb_of S180 ⟨by decide, hN0⟩) (g := (mkF m 43 #[.val (.ref u), .val (.int (5 : Int32)), .val (.int ch)] [(.int ((ch >>> ((0 : Int32) &&& 31)).toInt8.toInt32)), (.int (4 : Int32)), (.ref u)])) rfl rfl (hb hby own_d_jdk_52_method_4_code_43)
  refine OGo.step st181 ?_
  show OGo p e below (T181.setTop (mkF m 44 #[.val (.ref u), .val (.int (5 : Int32)), .val (.int ch)] [])) _
  have Va180 : Arv Z h181 u kb .byte N (vs.set 4 (.int (StrChars.lo8 ch))) (.int (0 : Int32)) := by rw [← (own_lo ch)]; exact Arv.set A180 q180 S180 M180 H180 G180 (fits_nar_byte _) W181 4 rfl (Nat.lt_of_succ_lt hl)
  have Nf181 := Fr.snoc X181 (Fr.nil n0) gu
  have sz181 : n0 ≤ h181.size := by rw [W181.size]; exact Z0
  refine OGo.step (fun _ kk => XS.aloadN X181.here hx rfl (hb hby own_d_jdk_52_method_4_code_44) rfl rfl kk) ?_
  show OGo p e below (T181.setTop (mkF m 45 #[.val (.ref u), .val (.int (5 : Int32)), .val (.int ch)] [(.ref u)])) _
  refine OGo.step (fun _ kk => XS.iloadN X181.here hx rfl (hb hby own_d_jdk_52_method_4_code_45) rfl kk) ?_
  show OGo p e below (T181.setTop (mkF m 46 #[.val (.ref u), .val (.int (5 : Int32)), .val (.int ch)] [(.int (5 : Int32)), (.ref u)])) _
  refine OGo.step (fun _ kk => XS.iloadN X181.here hx rfl (hb hby own_d_jdk_52_method_4_code_46) rfl kk) ?_
  show OGo p e below (T181.setTop (mkF m 47 #[.val (.ref u), .val (.int (5 : Int32)), .val (.int ch)] [(.int ch), (.int (5 : Int32)), (.ref u)])) _
  have fc182 := (SL.wr W181)
  obtain ⟨T183, X183, e183, st183⟩ := getS2 X181 hx hZ hown (host := "") (Or.inl (hw _ (List.mem_of_getElem? (i := 104) rfl))) Via.refl e181 fc182 (g := (mkF m 47 #[.val (.ref u), .val (.int (5 : Int32)), .val (.int ch)] [(.int ch), (.int (5 : Int32)), (.ref u)])) rfl (hb hby own_d_jdk_52_method_4_code_47)
  refine OGo.step st183 ?_
  show OGo p e below (T183.setTop (mkF m 50 #[.val (.ref u), .val (.int (5 : Int32)), .val (.int ch)] [(.int (8 : Int32)), (.int ch), (.int (5 : Int32)), (.ref u)])) _
  refine OGo.step (fun _ kk => XS.ishr X183.here hx rfl (hb hby own_d_jdk_52_method_4_code_50) rfl kk) ?_
  show OGo p e below (T183.setTop (mkF m 51 #[.val (.ref u), .val (.int (5 : Int32)), .val (.int ch)] [(.int (ch >>> ((8 : Int32) &&& 31))), (.int (5 : Int32)), (.ref u)])) _
  refine OGo.step (fun _ kk => XS.i2b X183.here hx rfl (hb hby own_d_jdk_52_method_4_code_51) rfl kk) ?_
  show OGo p e below (T183.setTop (mkF m 52 #[.val (.ref u), .val (.int (5 : Int32)), .val (.int ch)] [(.int ((ch >>> ((8 : Int32) &&& 31)).toInt8.toInt32)), (.int (5 : Int32)), (.ref u)])) _
  obtain ⟨cA184, A184, q184, S184, M184, H184, G184⟩ := id Va180
  obtain ⟨T185, h185, X185, e185, W185, st185⟩ := stB X183 hx hZ e183 A184 (j := (5 : Int32)) (inb_of S184 ⟨by decide, hN1⟩) (g := (mkF m 52 #[.val (.ref u), .val (.int (5 : Int32)), .val (.int ch)] [(.int ((ch >>> ((8 : Int32) &&& 31)).toInt8.toInt32)), (.int (5 : Int32)), (.ref u)])) rfl rfl (hb hby own_d_jdk_52_method_4_code_52)
  refine OGo.step st185 ?_
  show OGo p e below (T185.setTop (mkF m 53 #[.val (.ref u), .val (.int (5 : Int32)), .val (.int ch)] [])) _
  have Va184 : Arv Z h185 u kb .byte N ((vs.set 4 (.int (StrChars.lo8 ch))).set 5 (.int (StrChars.hi8 ch))) (.int (0 : Int32)) := by rw [← (own_hi ch)]; exact Arv.set A184 q184 S184 M184 H184 G184 (fits_nar_byte _) W185 5 rfl (by rw [List.length_set]; exact hl)
  have Nf185 := Fr.snoc X185 Nf181 gu
  have sz185 : n0 ≤ h185.size := by rw [W185.size]; exact sz181
  have HK := (((Keep.refl h0 [u]).wr W181 (Or.inl (List.mem_of_getElem? (i := 0) rfl))).wr W185 (Or.inl (List.mem_of_getElem? (i := 0) rfl)))
  exact own_ret0 X185 hx hlk hret (hb hby own_d_jdk_52_method_4_code_53) (by rw [e185]; exact ⟨rfl, Nf185, HK, Va184⟩) (by decide) (by decide)

set_option maxRecDepth 65536 in
set_option maxHeartbeats 40000000 in
theorem own_getc2 (l : Launch) (Z : State) (a0 : Array Value) (hw : ∀ d ∈ tables_1, d.before a0 Z = true) (ws : List Jvm.Cond) (u : Addr) (kb : ClassId) (N : Int32) (vs : List Value) (x y : Int32) (h0 : Heap) (n0 : Nat) (Z0 : n0 ≤ h0.size) (SA : Sta Z h0 "java/lang/StringUTF16" "$assertionsDisabled" "Z" (.int (1 : Int32))) (SH : Sta Z h0 "java/lang/StringUTF16" "HI_BYTE_SHIFT" "I" (.int (0 : Int32))) (SL : Sta Z h0 "java/lang/StringUTF16" "LO_BYTE_SHIFT" "I" (.int (8 : Int32))) (Vu : Arv Z h0 u kb .byte N vs (.int (0 : Int32))) (hN0 : (4 : Int32) < N) (hN1 : (5 : Int32) < N) (hb0 : 4 < N.toNatClampNeg) (hb1 : 5 < N.toNatClampNeg) (g0 : vs.getD 4 (.int (0 : Int32)) = .int x) (g1 : vs.getD 5 (.int (0 : Int32)) = .int y) :
    OMet l Z (⟨"java/lang/StringUTF16", "getChar", "([BI)C"⟩ : MethodName) jdk_52_method_5_code 2 (some .char) ws ({ frames := 0, cells := 0, slots := 0, locals := 0 } : Room) #[(.ref u), (.int (2 : Int32))] h0 (fun v h L => v = some (.int (StrChars.pairCh x y)) ∧ Fr n0 L ∧ h = h0) := by
  refine OMet.body (plainFor_of_name own_pn4) ?_
  intro p e s m below meth c s₁ hx hby hml hown hnm hret hlk hZ X0 e0
  refine OGo.step (fun _ kk => castTop (show entryFrame m #[(.ref u), (.int (2 : Int32))] 2 = (mkF m 0 #[.val (.ref u), .val (.int (2 : Int32))] []) from by first | (simp [entryFrame, mkF, argsToLocals, Value.category]; done) | rfl) kk) ?_
  show OGo p e below (s₁.setTop (mkF m 0 #[.val (.ref u), .val (.int (2 : Int32))] [])) _
  obtain ⟨cu, Au, qu, Su, Mu, Hu, Gu⟩ := id Vu
  obtain ⟨T186, X186, e186, st186⟩ := getS2 X0 hx hZ hown (host := "") (Or.inl (hw _ (List.mem_of_getElem? (i := 102) rfl))) Via.refl e0 SA (g := (mkF m 0 #[.val (.ref u), .val (.int (2 : Int32))] [])) rfl (hb hby own_d_jdk_52_method_5_code_0)
  refine OGo.step st186 ?_
  show OGo p e below (T186.setTop (mkF m 3 #[.val (.ref u), .val (.int (2 : Int32))] [(.int (1 : Int32))])) _
  refine OGo.step (fun _ kk => XS.ifYes X186.here hx rfl (pc0 := 3) (pc' := 28) rfl (hb hby own_d_jdk_52_method_5_code_3) rfl ((if0 _ _).trans (feq (by decide)).2) (by decide) (by decide) kk) ?_
  show OGo p e below (T186.setTop (mkF m 28 #[.val (.ref u), .val (.int (2 : Int32))] [])) _
  refine OGo.step (fun _ kk => XS.iloadN X186.here hx rfl (hb hby own_d_jdk_52_method_5_code_28) rfl kk) ?_
  show OGo p e below (T186.setTop (mkF m 29 #[.val (.ref u), .val (.int (2 : Int32))] [(.int (2 : Int32))])) _
  refine OGo.step (fun _ kk => XS.iconst X186.here hx rfl (hb hby own_d_jdk_52_method_5_code_29) kk) ?_
  show OGo p e below (T186.setTop (mkF m 30 #[.val (.ref u), .val (.int (2 : Int32))] [(.int (1 : Int32)), (.int (2 : Int32))])) _
  refine OGo.step (fun _ kk => XS.ishl X186.here hx rfl (hb hby own_d_jdk_52_method_5_code_30) rfl kk) ?_
  show OGo p e below (T186.setTop (mkF m 31 #[.val (.ref u), .val (.int (2 : Int32))] [(.int ((2 : Int32) <<< ((1 : Int32) &&& 31)))])) _
  refine OGo.step (fun _ kk => XS.istoreN X186.here hx rfl (hb hby own_d_jdk_52_method_5_code_31) rfl (l' := #[.val (.ref u), .val (.int ((2 : Int32) <<< ((1 : Int32) &&& 31)))]) rfl kk) ?_
  show OGo p e below (T186.setTop (mkF m 32 #[.val (.ref u), .val (.int ((2 : Int32) <<< ((1 : Int32) &&& 31)))] [])) _
  show OGo p e below (T186.setTop (mkF m 32 #[.val (.ref u), .val (.int (4 : Int32))] [])) _
  refine OGo.step (fun _ kk => XS.aloadN X186.here hx rfl (hb hby own_d_jdk_52_method_5_code_32) rfl rfl kk) ?_
  show OGo p e below (T186.setTop (mkF m 33 #[.val (.ref u), .val (.int (4 : Int32))] [(.ref u)])) _
  refine OGo.step (fun _ kk => XS.iloadN X186.here hx rfl (hb hby own_d_jdk_52_method_5_code_33) rfl kk) ?_
  show OGo p e below (T186.setTop (mkF m 34 #[.val (.ref u), .val (.int (4 : Int32))] [(.int (4 : Int32)), (.ref u)])) _
  refine OGo.step (fun _ kk => XS.iinc X186.here hx rfl (hb hby own_d_jdk_52_method_5_code_34) rfl (l' := #[.val (.ref u), .val (.int ((4 : Int32) + (1 : Int32)))]) rfl kk) ?_
  show OGo p e below (T186.setTop (mkF m 37 #[.val (.ref u), .val (.int ((4 : Int32) + (1 : Int32)))] [(.int (4 : Int32)), (.ref u)])) _
  show OGo p e below (T186.setTop (mkF m 37 #[.val (.ref u), .val (.int (5 : Int32))] [(.int (4 : Int32)), (.ref u)])) _
  refine OGo.step (fun _ kk => X186.baloadBytes hx (j := (4 : Int32)) (v := (.int x)) (by rw [e186]; exact (Au).1) (State.isArrayOf_alike hZ.alike (Au).2.1) (Au).2.2 (inb_of Su ⟨by decide, hN0⟩) (by rw [← g0]; exact Hu 4 (by rw [Su]; exact hb0)) (g := (mkF m 37 #[.val (.ref u), .val (.int (5 : Int32))] [(.int (4 : Int32)), (.ref u)])) rfl rfl (hb hby own_d_jdk_52_method_5_code_37) _ kk) ?_
  show OGo p e below (T186.setTop (mkF m 38 #[.val (.ref u), .val (.int (5 : Int32))] [(.int x)])) _
  refine OGo.step (fun _ kk => XS.sipush X186.here hx rfl (hb hby own_d_jdk_52_method_5_code_38) kk) ?_
  show OGo p e below (T186.setTop (mkF m 41 #[.val (.ref u), .val (.int (5 : Int32))] [(.int (255 : Int32)), (.int x)])) _
  refine OGo.step (fun _ kk => XS.iand X186.here hx rfl (hb hby own_d_jdk_52_method_5_code_41) rfl kk) ?_
  show OGo p e below (T186.setTop (mkF m 42 #[.val (.ref u), .val (.int (5 : Int32))] [(.int (x &&& (255 : Int32)))])) _
  obtain ⟨T187, X187, e187, st187⟩ := getS2 X186 hx hZ hown (host := "") (Or.inl (hw _ (List.mem_of_getElem? (i := 103) rfl))) Via.refl e186 SH (g := (mkF m 42 #[.val (.ref u), .val (.int (5 : Int32))] [(.int (x &&& (255 : Int32)))])) rfl (hb hby own_d_jdk_52_method_5_code_42)
  refine OGo.step st187 ?_
  show OGo p e below (T187.setTop (mkF m 45 #[.val (.ref u), .val (.int (5 : Int32))] [(.int (0 : Int32)), (.int (x &&& (255 : Int32)))])) _
  refine OGo.step (fun _ kk => XS.ishl X187.here hx rfl (hb hby own_d_jdk_52_method_5_code_45) rfl kk) ?_
  show OGo p e below (T187.setTop (mkF m 46 #[.val (.ref u), .val (.int (5 : Int32))] [(.int ((x &&& (255 : Int32)) <<< ((0 : Int32) &&& 31)))])) _
  refine OGo.step (fun _ kk => XS.aloadN X187.here hx rfl (hb hby own_d_jdk_52_method_5_code_46) rfl rfl kk) ?_
  show OGo p e below (T187.setTop (mkF m 47 #[.val (.ref u), .val (.int (5 : Int32))] [(.ref u), (.int ((x &&& (255 : Int32)) <<< ((0 : Int32) &&& 31)))])) _
  refine OGo.step (fun _ kk => XS.iloadN X187.here hx rfl (hb hby own_d_jdk_52_method_5_code_47) rfl kk) ?_
  show OGo p e below (T187.setTop (mkF m 48 #[.val (.ref u), .val (.int (5 : Int32))] [(.int (5 : Int32)), (.ref u), (.int ((x &&& (255 : Int32)) <<< ((0 : Int32) &&& 31)))])) _
  refine OGo.step (fun _ kk => X187.baloadBytes hx (j := (5 : Int32)) (v := (.int y)) (by rw [e187]; exact (Au).1) (State.isArrayOf_alike hZ.alike (Au).2.1) (Au).2.2 (inb_of Su ⟨by decide, hN1⟩) (by rw [← g1]; exact Hu 5 (by rw [Su]; exact hb1)) (g := (mkF m 48 #[.val (.ref u), .val (.int (5 : Int32))] [(.int (5 : Int32)), (.ref u), (.int ((x &&& (255 : Int32)) <<< ((0 : Int32) &&& 31)))])) rfl rfl (hb hby own_d_jdk_52_method_5_code_48) _ kk) ?_
  show OGo p e below (T187.setTop (mkF m 49 #[.val (.ref u), .val (.int (5 : Int32))] [(.int y), (.int ((x &&& (255 : Int32)) <<< ((0 : Int32) &&& 31)))])) _
  refine OGo.step (fun _ kk => XS.sipush X187.here hx rfl (hb hby own_d_jdk_52_method_5_code_49) kk) ?_
  show OGo p e below (T187.setTop (mkF m 52 #[.val (.ref u), .val (.int (5 : Int32))] [(.int (255 : Int32)), (.int y), (.int ((x &&& (255 : Int32)) <<< ((0 : Int32) &&& 31)))])) _
  refine OGo.step (fun _ kk => XS.iand X187.here hx rfl (hb hby own_d_jdk_52_method_5_code_52) rfl kk) ?_
  show OGo p e below (T187.setTop (mkF m 53 #[.val (.ref u), .val (.int (5 : Int32))] [(.int (y &&& (255 : Int32))), (.int ((x &&& (255 : Int32)) <<< ((0 : Int32) &&& 31)))])) _
  obtain ⟨T188, X188, e188, st188⟩ := getS2 X187 hx hZ hown (host := "") (Or.inl (hw _ (List.mem_of_getElem? (i := 104) rfl))) Via.refl e187 SL (g := (mkF m 53 #[.val (.ref u), .val (.int (5 : Int32))] [(.int (y &&& (255 : Int32))), (.int ((x &&& (255 : Int32)) <<< ((0 : Int32) &&& 31)))])) rfl (hb hby own_d_jdk_52_method_5_code_53)
  refine OGo.step st188 ?_
  show OGo p e below (T188.setTop (mkF m 56 #[.val (.ref u), .val (.int (5 : Int32))] [(.int (8 : Int32)), (.int (y &&& (255 : Int32))), (.int ((x &&& (255 : Int32)) <<< ((0 : Int32) &&& 31)))])) _
  refine OGo.step (fun _ kk => XS.ishl X188.here hx rfl (hb hby own_d_jdk_52_method_5_code_56) rfl kk) ?_
  show OGo p e below (T188.setTop (mkF m 57 #[.val (.ref u), .val (.int (5 : Int32))] [(.int ((y &&& (255 : Int32)) <<< ((8 : Int32) &&& 31))), (.int ((x &&& (255 : Int32)) <<< ((0 : Int32) &&& 31)))])) _
  refine OGo.step (fun _ kk => XS.ior X188.here hx rfl (hb hby own_d_jdk_52_method_5_code_57) rfl kk) ?_
  show OGo p e below (T188.setTop (mkF m 58 #[.val (.ref u), .val (.int (5 : Int32))] [(.int (((x &&& (255 : Int32)) <<< ((0 : Int32) &&& 31)) ||| ((y &&& (255 : Int32)) <<< ((8 : Int32) &&& 31))))])) _
  refine OGo.step (fun _ kk => XS.i2c X188.here hx rfl (hb hby own_d_jdk_52_method_5_code_58) rfl kk) ?_
  show OGo p e below (T188.setTop (mkF m 59 #[.val (.ref u), .val (.int (5 : Int32))] [(.int ((((x &&& (255 : Int32)) <<< ((0 : Int32) &&& 31)) ||| ((y &&& (255 : Int32)) <<< ((8 : Int32) &&& 31))).toUInt32.toUInt16.toUInt32.toInt32))])) _
  exact own_retN X188 hx hlk hret (by simp) (hb hby own_d_jdk_52_method_5_code_59) ⟨congrArg (fun z => some (Value.int z)) (own_narcc _), Fr.nil n0, e188⟩ (by decide) (by decide)

set_option maxRecDepth 65536 in
set_option maxHeartbeats 40000000 in
theorem own_nbl1 (l : Launch) (Z : State) (a0 : Array Value) (hw : ∀ d ∈ tables_1, d.before a0 Z = true) (ws : List Jvm.Cond)  (h0 : Heap) (n0 : Nat) (Z0 : n0 ≤ h0.size)  :
    OMet l Z (⟨"java/lang/StringUTF16", "newBytesLength", "(I)I"⟩ : MethodName) jdk_52_method_3_code 1 (some .int) ws ({ frames := 0, cells := 0, slots := 0, locals := 0 } : Room) #[(.int (1 : Int32))] h0 (fun v h L => v = some (.int (2 : Int32)) ∧ Fr n0 L ∧ h = h0) := by
  refine OMet.body (plainFor_of_name own_pn4) ?_
  intro p e s m below meth c s₁ hx hby hml hown hnm hret hlk hZ X0 e0
  refine OGo.step (fun _ kk => castTop (show entryFrame m #[(.int (1 : Int32))] 1 = (mkF m 0 #[.val (.int (1 : Int32))] []) from by first | (simp [entryFrame, mkF, argsToLocals, Value.category]; done) | rfl) kk) ?_
  show OGo p e below (s₁.setTop (mkF m 0 #[.val (.int (1 : Int32))] [])) _
  refine OGo.step (fun _ kk => XS.iloadN X0.here hx rfl (hb hby own_d_jdk_52_method_3_code_0) rfl kk) ?_
  show OGo p e below (s₁.setTop (mkF m 1 #[.val (.int (1 : Int32))] [(.int (1 : Int32))])) _
  refine OGo.step (fun _ kk => XS.ifYes X0.here hx rfl (pc0 := 1) (pc' := 12) rfl (hb hby own_d_jdk_52_method_3_code_1) rfl ((if0 _ _).trans (flt (by decide)).2.1) (by decide) (by decide) kk) ?_
  show OGo p e below (s₁.setTop (mkF m 12 #[.val (.int (1 : Int32))] [])) _
  refine OGo.step (fun _ kk => XS.iloadN X0.here hx rfl (hb hby own_d_jdk_52_method_3_code_12) rfl kk) ?_
  show OGo p e below (s₁.setTop (mkF m 13 #[.val (.int (1 : Int32))] [(.int (1 : Int32))])) _
  refine OGo.step (fun _ kk => X0.ldcInt hx hown (mvT hZ (hw _ (List.mem_of_getElem? (i := 117) rfl))) (g := (mkF m 13 #[.val (.int (1 : Int32))] [(.int (1 : Int32))])) rfl (hb hby own_d_jdk_52_method_3_code_13) _ kk) ?_
  show OGo p e below (s₁.setTop (mkF m 15 #[.val (.int (1 : Int32))] [(.int (1073741823 : Int32)), (.int (1 : Int32))])) _
  refine OGo.step (fun _ kk => XS.icmpYes X0.here hx rfl (pc0 := 15) (pc' := 55) rfl (hb hby own_d_jdk_52_method_3_code_15) rfl (tlt (by decide)).1 (by decide) (by decide) kk) ?_
  show OGo p e below (s₁.setTop (mkF m 55 #[.val (.int (1 : Int32))] [])) _
  refine OGo.step (fun _ kk => XS.iloadN X0.here hx rfl (hb hby own_d_jdk_52_method_3_code_55) rfl kk) ?_
  show OGo p e below (s₁.setTop (mkF m 56 #[.val (.int (1 : Int32))] [(.int (1 : Int32))])) _
  refine OGo.step (fun _ kk => XS.iconst X0.here hx rfl (hb hby own_d_jdk_52_method_3_code_56) kk) ?_
  show OGo p e below (s₁.setTop (mkF m 57 #[.val (.int (1 : Int32))] [(.int (1 : Int32)), (.int (1 : Int32))])) _
  refine OGo.step (fun _ kk => XS.ishl X0.here hx rfl (hb hby own_d_jdk_52_method_3_code_57) rfl kk) ?_
  show OGo p e below (s₁.setTop (mkF m 58 #[.val (.int (1 : Int32))] [(.int ((1 : Int32) <<< ((1 : Int32) &&& 31)))])) _
  exact own_ret X0 hx hlk hret rfl (Or.inl ⟨rfl, Or.inl rfl, _, rfl⟩) (hb hby own_d_jdk_52_method_3_code_58) ⟨rfl, Fr.nil n0, e0⟩ (by decide) (by decide)

set_option maxRecDepth 65536 in
set_option maxHeartbeats 40000000 in
theorem own_nbf1 (l : Launch) (Z : State) (a0 : Array Value) (hw : ∀ d ∈ tables_1, d.before a0 Z = true) (ws : List Jvm.Cond)  (h0 : Heap) (n0 : Nat) (Z0 : n0 ≤ h0.size)  :
    OMet l Z (⟨"java/lang/StringUTF16", "newBytesFor", "(I)[B"⟩ : MethodName) jdk_52_method_2_code 1 (some (.array .byte)) ws ({ frames := 1, cells := 1, slots := 2, locals := 12 } : Room) #[(.int (1 : Int32))] h0 (fun v h L => ∃ (u : Addr) (kb : ClassId), v = some (.ref u) ∧ Fr n0 L ∧ Ext h0 h ∧ h0.size ≤ u ∧ Arv Z h u kb .byte (2 : Int32) [(.int (0 : Int32)), (.int (0 : Int32))] (.int (0 : Int32))) := by
  refine OMet.body (plainFor_of_name own_pn4) ?_
  intro p e s m below meth c s₁ hx hby hml hown hnm hret hlk hZ X0 e0
  refine OGo.step (fun _ kk => castTop (show entryFrame m #[(.int (1 : Int32))] 1 = (mkF m 0 #[.val (.int (1 : Int32))] []) from by first | (simp [entryFrame, mkF, argsToLocals, Value.category]; done) | rfl) kk) ?_
  show OGo p e below (s₁.setTop (mkF m 0 #[.val (.int (1 : Int32))] [])) _
  refine OGo.step (fun _ kk => XS.iloadN X0.here hx rfl (hb hby own_d_jdk_52_method_2_code_0) rfl kk) ?_
  show OGo p e below (s₁.setTop (mkF m 1 #[.val (.int (1 : Int32))] [(.int (1 : Int32))])) _
  refine own_callS X0 hx hZ (y := (⟨"java/lang/StringUTF16", "newBytesLength", "(I)I"⟩ : MethodName)) hown (hw _ (List.mem_of_getElem? (i := 114) rfl)) (hw _ (List.mem_of_getElem? (i := 115) rfl)) (hw _ (List.mem_of_getElem? (i := 82) rfl)) (hw _ (List.mem_of_getElem? (i := 116) rfl)) (by decide) (W := 0) (own_nbl1 l Z a0 hw [] h0 n0 Z0) e0  (pc := 1) (Ls := #[.val (.int (1 : Int32))]) (argsL := [(.int (1 : Int32))]) (rest := []) (by rw [hml]; rfl) (lenOf own_pd11 rfl) rfl (hb hby own_d_jdk_52_method_2_code_1) (by decide) (by decide) (by decide) (by decide) ?_
  intro v189 T189 L189 X189 hQ189
  obtain ⟨rfl, N189, e189⟩ := hQ189
  show OGo p e below (T189.setTop (mkF m 4 #[.val (.int (1 : Int32))] [(.int (2 : Int32))])) _
  have Nc189 := Fr.app (Fr.nil n0) N189
  obtain ⟨T190, h190, k190, X190, e190, E190, A190, st190⟩ := newP X189 hx hZ (hw _ (List.mem_of_getElem? (i := 21) rfl)) e189 (g := (mkF m 4 #[.val (.int (1 : Int32))] [(.int (2 : Int32))])) rfl (hb hby own_d_jdk_52_method_2_code_4) rfl (by decide) (cap := 2) (by decide) (by decide) (by decide) (by decide)
  obtain ⟨u, g190⟩ : ∃ z, z = h0.size := ⟨_, rfl⟩
  rw [← g190] at A190 st190
  refine OGo.step st190 ?_
  show OGo p e below (T190.setTop (mkF m 6 #[.val (.int (1 : Int32))] [(.ref u)])) _
  have gf_u : n0 ≤ u := Nat.le_trans Z0 (Nat.le_of_eq g190.symm)
  have sz190 : n0 ≤ h190.size := Nat.le_trans Z0 E190.1
  have Va : Arv Z h190 u k190 .byte (2 : Int32) [(.int (0 : Int32)), (.int (0 : Int32))] (.int (0 : Int32)) := (Arv.new A190 (by decide)).pad (pad_rep [] (.int (0 : Int32)) 2)
  exact own_ret X190 hx hlk hret rfl (Or.inr (Or.inr (Or.inr (Or.inr ⟨rfl, rfl, rfl⟩)))) (hb hby own_d_jdk_52_method_2_code_6) (by rw [e190]; exact ⟨u, _, rfl, Nc189, E190, (Nat.le_of_eq g190.symm), Va⟩) (by decide) (by decide)

set_option maxRecDepth 65536 in
set_option maxHeartbeats 40000000 in
theorem own_toB1 (l : Launch) (Z : State) (a0 : Array Value) (hw : ∀ d ∈ tables_1, d.before a0 Z = true) (ws : List Jvm.Cond) (ca : Addr) (kc : ClassId) (c0_ : Int32) (h0 : Heap) (n0 : Nat) (Z0 : n0 ≤ h0.size) (SA : Sta Z h0 "java/lang/StringUTF16" "$assertionsDisabled" "Z" (.int (1 : Int32))) (SH : Sta Z h0 "java/lang/StringUTF16" "HI_BYTE_SHIFT" "I" (.int (0 : Int32))) (SL : Sta Z h0 "java/lang/StringUTF16" "LO_BYTE_SHIFT" "I" (.int (8 : Int32))) (Vc : Arv Z h0 ca kc .char (1 : Int32) [(.int c0_)] (.int (0 : Int32))) :
    OMet l Z (⟨"java/lang/StringUTF16", "toBytes", "([CII)[B"⟩ : MethodName) jdk_52_method_14_code 5 (some (.array .byte)) ws ({ frames := 2, cells := 1, slots := 2, locals := 24 } : Room) #[(.ref ca), (.int (0 : Int32)), (.int (1 : Int32))] h0 (fun v h L => ∃ (u : Addr) (kb : ClassId), v = some (.ref u) ∧ Fr n0 L ∧ Ext h0 h ∧ h0.size ≤ u ∧ Arv Z h u kb .byte (2 : Int32) (StrChars.Road.wideBytes [c0_]) (.int (0 : Int32))) := by
  refine OMet.body (plainFor_of_name own_pn4) ?_
  intro p e s m below meth c s₁ hx hby hml hown hnm hret hlk hZ X0 e0
  refine OGo.step (fun _ kk => castTop (show entryFrame m #[(.ref ca), (.int (0 : Int32)), (.int (1 : Int32))] 5 = (mkF m 0 #[.val (.ref ca), .val (.int (0 : Int32)), .val (.int (1 : Int32)), .unset, .unset] []) from by first | (simp [entryFrame, mkF, argsToLocals, Value.category]; done) | rfl) kk) ?_
  show OGo p e below (s₁.setTop (mkF m 0 #[.val (.ref ca), .val (.int (0 : Int32)), .val (.int (1 : Int32)), .unset, .unset] [])) _
  refine OGo.step (fun _ kk => XS.iloadN X0.here hx rfl (hb hby own_d_jdk_52_method_14_code_0) rfl kk) ?_
  show OGo p e below (s₁.setTop (mkF m 1 #[.val (.ref ca), .val (.int (0 : Int32)), .val (.int (1 : Int32)), .unset, .unset] [(.int (1 : Int32))])) _
  refine own_callS X0 hx hZ (y := (⟨"java/lang/StringUTF16", "newBytesFor", "(I)[B"⟩ : MethodName)) hown (hw _ (List.mem_of_getElem? (i := 111) rfl)) (hw _ (List.mem_of_getElem? (i := 112) rfl)) (hw _ (List.mem_of_getElem? (i := 82) rfl)) (hw _ (List.mem_of_getElem? (i := 113) rfl)) (by decide) (W := 0) (own_nbf1 l Z a0 hw [] h0 n0 Z0) e0  (pc := 1) (Ls := #[.val (.ref ca), .val (.int (0 : Int32)), .val (.int (1 : Int32)), .unset, .unset]) (argsL := [(.int (1 : Int32))]) (rest := []) (by rw [hml]; rfl) (lenOf own_pd12 rfl) rfl (hb hby own_d_jdk_52_method_14_code_1) (by decide) (by decide) (by decide) (by decide) ?_
  intro v191 T191 L191 X191 hQ191
  obtain ⟨u, kb, rfl, N191, Xe191, gu, Vu⟩ := hQ191
  show OGo p e below (T191.setTop (mkF m 4 #[.val (.ref ca), .val (.int (0 : Int32)), .val (.int (1 : Int32)), .unset, .unset] [(.ref u)])) _
  have ncu : ca ≠ u := Nat.ne_of_lt (Nat.lt_of_lt_of_le Vc.lt gu)
  have Nc191 := Fr.app (Fr.nil n0) N191
  have sz191 : n0 ≤ T191.heap.size := Nat.le_trans Z0 Xe191.1
  have gfu : n0 ≤ u := Nat.le_trans Z0 gu
  refine OGo.step (fun _ kk => XS.astoreN X191.here hx rfl (hb hby own_d_jdk_52_method_14_code_4) rfl rfl (l' := #[.val (.ref ca), .val (.int (0 : Int32)), .val (.int (1 : Int32)), .val (.ref u), .unset]) rfl kk) ?_
  show OGo p e below (T191.setTop (mkF m 5 #[.val (.ref ca), .val (.int (0 : Int32)), .val (.int (1 : Int32)), .val (.ref u), .unset] [])) _
  refine OGo.step (fun _ kk => XS.iconst X191.here hx rfl (hb hby own_d_jdk_52_method_14_code_5) kk) ?_
  show OGo p e below (T191.setTop (mkF m 6 #[.val (.ref ca), .val (.int (0 : Int32)), .val (.int (1 : Int32)), .val (.ref u), .unset] [(.int (0 : Int32))])) _
  refine OGo.step (fun _ kk => XS.istore X191.here hx rfl (hb hby own_d_jdk_52_method_14_code_6) rfl (l' := #[.val (.ref ca), .val (.int (0 : Int32)), .val (.int (1 : Int32)), .val (.ref u), .val (.int (0 : Int32))]) rfl kk) ?_
  show OGo p e below (T191.setTop (mkF m 8 #[.val (.ref ca), .val (.int (0 : Int32)), .val (.int (1 : Int32)), .val (.ref u), .val (.int (0 : Int32))] [])) _
  show OGo p e below (T191.setTop (mkF m 8 #[.val (.ref ca), .val (.int (0 : Int32)), .val (.int (1 : Int32)), .val (.ref u), .val (.int (0 : Int32))] [])) _
  refine OGo.step (fun _ kk => XS.iload X191.here hx rfl (hb hby own_d_jdk_52_method_14_code_8) rfl kk) ?_
  show OGo p e below (T191.setTop (mkF m 10 #[.val (.ref ca), .val (.int (0 : Int32)), .val (.int (1 : Int32)), .val (.ref u), .val (.int (0 : Int32))] [(.int (0 : Int32))])) _
  refine OGo.step (fun _ kk => XS.iloadN X191.here hx rfl (hb hby own_d_jdk_52_method_14_code_10) rfl kk) ?_
  show OGo p e below (T191.setTop (mkF m 11 #[.val (.ref ca), .val (.int (0 : Int32)), .val (.int (1 : Int32)), .val (.ref u), .val (.int (0 : Int32))] [(.int (1 : Int32)), (.int (0 : Int32))])) _
  refine OGo.step (fun _ kk => XS.icmpNo X191.here hx rfl (hb hby own_d_jdk_52_method_14_code_11) rfl (tlt (by decide)).2.1 kk) ?_
  show OGo p e below (T191.setTop (mkF m 14 #[.val (.ref ca), .val (.int (0 : Int32)), .val (.int (1 : Int32)), .val (.ref u), .val (.int (0 : Int32))] [])) _
  refine OGo.step (fun _ kk => XS.aloadN X191.here hx rfl (hb hby own_d_jdk_52_method_14_code_14) rfl rfl kk) ?_
  show OGo p e below (T191.setTop (mkF m 15 #[.val (.ref ca), .val (.int (0 : Int32)), .val (.int (1 : Int32)), .val (.ref u), .val (.int (0 : Int32))] [(.ref u)])) _
  refine OGo.step (fun _ kk => XS.iload X191.here hx rfl (hb hby own_d_jdk_52_method_14_code_15) rfl kk) ?_
  show OGo p e below (T191.setTop (mkF m 17 #[.val (.ref ca), .val (.int (0 : Int32)), .val (.int (1 : Int32)), .val (.ref u), .val (.int (0 : Int32))] [(.int (0 : Int32)), (.ref u)])) _
  refine OGo.step (fun _ kk => XS.aloadN X191.here hx rfl (hb hby own_d_jdk_52_method_14_code_17) rfl rfl kk) ?_
  show OGo p e below (T191.setTop (mkF m 18 #[.val (.ref ca), .val (.int (0 : Int32)), .val (.int (1 : Int32)), .val (.ref u), .val (.int (0 : Int32))] [(.ref ca), (.int (0 : Int32)), (.ref u)])) _
  refine OGo.step (fun _ kk => XS.iloadN X191.here hx rfl (hb hby own_d_jdk_52_method_14_code_18) rfl kk) ?_
  show OGo p e below (T191.setTop (mkF m 19 #[.val (.ref ca), .val (.int (0 : Int32)), .val (.int (1 : Int32)), .val (.ref u), .val (.int (0 : Int32))] [(.int (0 : Int32)), (.ref ca), (.int (0 : Int32)), (.ref u)])) _
  have fc192 := (Vc.ext Xe191)
  obtain ⟨cA193, A193, q193, S193, M193, H193, G193⟩ := id fc192
  refine OGo.step (fun _ kk => X191.caload hx (j := (0 : Int32)) (v := (.int c0_)) (A193).1 (State.isArrayOf_alike hZ.alike (A193).2.1) (A193).2.2 (inb_of S193 ⟨by decide, by decide⟩) (H193 0 (by rw [S193]; decide)) (g := (mkF m 19 #[.val (.ref ca), .val (.int (0 : Int32)), .val (.int (1 : Int32)), .val (.ref u), .val (.int (0 : Int32))] [(.int (0 : Int32)), (.ref ca), (.int (0 : Int32)), (.ref u)])) rfl rfl (hb hby own_d_jdk_52_method_14_code_19) _ kk) ?_
  show OGo p e below (T191.setTop (mkF m 20 #[.val (.ref ca), .val (.int (0 : Int32)), .val (.int (1 : Int32)), .val (.ref u), .val (.int (0 : Int32))] [(.int c0_), (.int (0 : Int32)), (.ref u)])) _
  have fx194 := SA.ext Xe191
  have fx195 := SH.ext Xe191
  have fx196 := SL.ext Xe191
  refine own_callS X191 hx hZ (y := (⟨"java/lang/StringUTF16", "putChar", "([BII)V"⟩ : MethodName)) hown (hw _ (List.mem_of_getElem? (i := 99) rfl)) (hw _ (List.mem_of_getElem? (i := 100) rfl)) (hw _ (List.mem_of_getElem? (i := 82) rfl)) (hw _ (List.mem_of_getElem? (i := 101) rfl)) (by decide) (W := 0) (own_putc0 l Z a0 hw [] u kb _ [(.int (0 : Int32)), (.int (0 : Int32))] c0_ T191.heap n0 sz191 fx194 fx195 fx196 gfu Vu (Nat.le_of_ble_eq_true rfl) (by decide) (by decide)) rfl  (pc := 20) (Ls := #[.val (.ref ca), .val (.int (0 : Int32)), .val (.int (1 : Int32)), .val (.ref u), .val (.int (0 : Int32))]) (argsL := [(.ref u), (.int (0 : Int32)), (.int c0_)]) (rest := []) (by rw [hml]; rfl) (lenOf own_pd13 rfl) rfl (hb hby own_d_jdk_52_method_14_code_20) (by decide) (by decide) (by decide) (by decide) ?_
  intro v197 T197 L197 X197 hQ197
  obtain ⟨rfl, N197, K197, Va197⟩ := hQ197
  show OGo p e below (T197.setTop (mkF m 23 #[.val (.ref ca), .val (.int (0 : Int32)), .val (.int (1 : Int32)), .val (.ref u), .val (.int (0 : Int32))] [])) _
  have Nc197 := Fr.app Nc191 N197
  have sz197 : n0 ≤ T197.heap.size := Nat.le_trans sz191 K197.1
  refine OGo.step (fun _ kk => XS.iinc X197.here hx rfl (hb hby own_d_jdk_52_method_14_code_23) rfl (l' := #[.val (.ref ca), .val (.int ((0 : Int32) + (1 : Int32))), .val (.int (1 : Int32)), .val (.ref u), .val (.int (0 : Int32))]) rfl kk) ?_
  show OGo p e below (T197.setTop (mkF m 26 #[.val (.ref ca), .val (.int ((0 : Int32) + (1 : Int32))), .val (.int (1 : Int32)), .val (.ref u), .val (.int (0 : Int32))] [])) _
  refine OGo.step (fun _ kk => XS.iinc X197.here hx rfl (hb hby own_d_jdk_52_method_14_code_26) rfl (l' := #[.val (.ref ca), .val (.int ((0 : Int32) + (1 : Int32))), .val (.int (1 : Int32)), .val (.ref u), .val (.int ((0 : Int32) + (1 : Int32)))]) rfl kk) ?_
  show OGo p e below (T197.setTop (mkF m 29 #[.val (.ref ca), .val (.int ((0 : Int32) + (1 : Int32))), .val (.int (1 : Int32)), .val (.ref u), .val (.int ((0 : Int32) + (1 : Int32)))] [])) _
  refine OGo.step (fun _ kk => XS.goto X197.here hx rfl (pc0 := 29) (pc' := 8) rfl (hb hby own_d_jdk_52_method_14_code_29) (by decide) (by decide) kk) ?_
  show OGo p e below (T197.setTop (mkF m 8 #[.val (.ref ca), .val (.int ((0 : Int32) + (1 : Int32))), .val (.int (1 : Int32)), .val (.ref u), .val (.int ((0 : Int32) + (1 : Int32)))] [])) _
  show OGo p e below (T197.setTop (mkF m 8 #[.val (.ref ca), .val (.int (1 : Int32)), .val (.int (1 : Int32)), .val (.ref u), .val (.int (1 : Int32))] [])) _
  refine OGo.step (fun _ kk => XS.iload X197.here hx rfl (hb hby own_d_jdk_52_method_14_code_8) rfl kk) ?_
  show OGo p e below (T197.setTop (mkF m 10 #[.val (.ref ca), .val (.int (1 : Int32)), .val (.int (1 : Int32)), .val (.ref u), .val (.int (1 : Int32))] [(.int (1 : Int32))])) _
  refine OGo.step (fun _ kk => XS.iloadN X197.here hx rfl (hb hby own_d_jdk_52_method_14_code_10) rfl kk) ?_
  show OGo p e below (T197.setTop (mkF m 11 #[.val (.ref ca), .val (.int (1 : Int32)), .val (.int (1 : Int32)), .val (.ref u), .val (.int (1 : Int32))] [(.int (1 : Int32)), (.int (1 : Int32))])) _
  refine OGo.step (fun _ kk => XS.icmpYes X197.here hx rfl (pc0 := 11) (pc' := 32) rfl (hb hby own_d_jdk_52_method_14_code_11) rfl (flt (by decide)).2.1 (by decide) (by decide) kk) ?_
  show OGo p e below (T197.setTop (mkF m 32 #[.val (.ref ca), .val (.int (1 : Int32)), .val (.int (1 : Int32)), .val (.ref u), .val (.int (1 : Int32))] [])) _
  refine OGo.step (fun _ kk => XS.aloadN X197.here hx rfl (hb hby own_d_jdk_52_method_14_code_32) rfl rfl kk) ?_
  show OGo p e below (T197.setTop (mkF m 33 #[.val (.ref ca), .val (.int (1 : Int32)), .val (.int (1 : Int32)), .val (.ref u), .val (.int (1 : Int32))] [(.ref u)])) _
  have xt198 := (own_ext_keep Xe191 K197 (allS gu all0))
  exact own_ret X197 hx hlk hret rfl (Or.inr (Or.inr (Or.inr (Or.inr ⟨rfl, rfl, rfl⟩)))) (hb hby own_d_jdk_52_method_14_code_33) ⟨u, kb, rfl, Nc197, xt198, gu, Va197⟩ (by decide) (by decide)

set_option maxRecDepth 65536 in
set_option maxHeartbeats 40000000 in
theorem own_cmp5_1 (l : Launch) (Z : State) (a0 : Array Value) (hw : ∀ d ∈ tables_1, d.before a0 Z = true) (ws : List Jvm.Cond) (ca ba : Addr) (kc kb : ClassId) (c0_ : Int32) (h0 : Heap) (n0 : Nat) (Z0 : n0 ≤ h0.size) (Vc : Arv Z h0 ca kc .char (1 : Int32) [(.int c0_)] (.int (0 : Int32))) (Vb : Arv Z h0 ba kb .byte (1 : Int32) [(.int (0 : Int32))] (.int (0 : Int32))) (gb : n0 ≤ ba) (ncb : ca ≠ ba) (hex : (255 : Int32) < c0_) :
    OMet l Z (⟨"java/lang/StringUTF16", "compress", "([CI[BII)I"⟩ : MethodName) jdk_52_method_21_code 7 (some .int) ws ({ frames := 0, cells := 0, slots := 0, locals := 0 } : Room) #[(.ref ca), (.int (0 : Int32)), (.ref ba), (.int (0 : Int32)), (.int (1 : Int32))] h0 (fun v h L => ∃ k : Nat, v = some (.int (Int32.ofNat k)) ∧ k < 1 ∧ (255 : Int32) < ([c0_] : List Int32).getD k 0 ∧ Fr n0 L ∧ Keep h0 h [ba]) := by
  refine OMet.body (plainFor_of_name own_pn4) ?_
  intro p e s m below meth c s₁ hx hby hml hown hnm hret hlk hZ X0 e0
  refine OGo.step (fun _ kk => castTop (show entryFrame m #[(.ref ca), (.int (0 : Int32)), (.ref ba), (.int (0 : Int32)), (.int (1 : Int32))] 7 = (mkF m 0 #[.val (.ref ca), .val (.int (0 : Int32)), .val (.ref ba), .val (.int (0 : Int32)), .val (.int (1 : Int32)), .unset, .unset] []) from by first | (simp [entryFrame, mkF, argsToLocals, Value.category]; done) | rfl) kk) ?_
  show OGo p e below (s₁.setTop (mkF m 0 #[.val (.ref ca), .val (.int (0 : Int32)), .val (.ref ba), .val (.int (0 : Int32)), .val (.int (1 : Int32)), .unset, .unset] [])) _
  refine OGo.step (fun _ kk => XS.iconst X0.here hx rfl (hb hby own_d_jdk_52_method_21_code_0) kk) ?_
  show OGo p e below (s₁.setTop (mkF m 1 #[.val (.ref ca), .val (.int (0 : Int32)), .val (.ref ba), .val (.int (0 : Int32)), .val (.int (1 : Int32)), .unset, .unset] [(.int (0 : Int32))])) _
  refine OGo.step (fun _ kk => XS.istore X0.here hx rfl (hb hby own_d_jdk_52_method_21_code_1) rfl (l' := #[.val (.ref ca), .val (.int (0 : Int32)), .val (.ref ba), .val (.int (0 : Int32)), .val (.int (1 : Int32)), .val (.int (0 : Int32)), .unset]) rfl kk) ?_
  show OGo p e below (s₁.setTop (mkF m 3 #[.val (.ref ca), .val (.int (0 : Int32)), .val (.ref ba), .val (.int (0 : Int32)), .val (.int (1 : Int32)), .val (.int (0 : Int32)), .unset] [])) _
  refine OGo.step (fun _ kk => XS.iload X0.here hx rfl (hb hby own_d_jdk_52_method_21_code_3) rfl kk) ?_
  show OGo p e below (s₁.setTop (mkF m 5 #[.val (.ref ca), .val (.int (0 : Int32)), .val (.ref ba), .val (.int (0 : Int32)), .val (.int (1 : Int32)), .val (.int (0 : Int32)), .unset] [(.int (0 : Int32))])) _
  refine OGo.step (fun _ kk => XS.iload X0.here hx rfl (hb hby own_d_jdk_52_method_21_code_5) rfl kk) ?_
  show OGo p e below (s₁.setTop (mkF m 7 #[.val (.ref ca), .val (.int (0 : Int32)), .val (.ref ba), .val (.int (0 : Int32)), .val (.int (1 : Int32)), .val (.int (0 : Int32)), .unset] [(.int (1 : Int32)), (.int (0 : Int32))])) _
  refine OGo.step (fun _ kk => XS.icmpNo X0.here hx rfl (hb hby own_d_jdk_52_method_21_code_7) rfl (tlt (by decide)).2.1 kk) ?_
  show OGo p e below (s₁.setTop (mkF m 10 #[.val (.ref ca), .val (.int (0 : Int32)), .val (.ref ba), .val (.int (0 : Int32)), .val (.int (1 : Int32)), .val (.int (0 : Int32)), .unset] [])) _
  refine OGo.step (fun _ kk => XS.aloadN X0.here hx rfl (hb hby own_d_jdk_52_method_21_code_10) rfl rfl kk) ?_
  show OGo p e below (s₁.setTop (mkF m 11 #[.val (.ref ca), .val (.int (0 : Int32)), .val (.ref ba), .val (.int (0 : Int32)), .val (.int (1 : Int32)), .val (.int (0 : Int32)), .unset] [(.ref ca)])) _
  refine OGo.step (fun _ kk => XS.iloadN X0.here hx rfl (hb hby own_d_jdk_52_method_21_code_11) rfl kk) ?_
  show OGo p e below (s₁.setTop (mkF m 12 #[.val (.ref ca), .val (.int (0 : Int32)), .val (.ref ba), .val (.int (0 : Int32)), .val (.int (1 : Int32)), .val (.int (0 : Int32)), .unset] [(.int (0 : Int32)), (.ref ca)])) _
  obtain ⟨cA199, A199, q199, S199, M199, H199, G199⟩ := id Vc
  refine OGo.step (fun _ kk => X0.caload hx (j := (0 : Int32)) (v := (.int c0_)) (by rw [e0]; exact (A199).1) (State.isArrayOf_alike hZ.alike (A199).2.1) (A199).2.2 (inb_of S199 ⟨by decide, by decide⟩) (H199 0 (by rw [S199]; decide)) (g := (mkF m 12 #[.val (.ref ca), .val (.int (0 : Int32)), .val (.ref ba), .val (.int (0 : Int32)), .val (.int (1 : Int32)), .val (.int (0 : Int32)), .unset] [(.int (0 : Int32)), (.ref ca)])) rfl rfl (hb hby own_d_jdk_52_method_21_code_12) _ kk) ?_
  show OGo p e below (s₁.setTop (mkF m 13 #[.val (.ref ca), .val (.int (0 : Int32)), .val (.ref ba), .val (.int (0 : Int32)), .val (.int (1 : Int32)), .val (.int (0 : Int32)), .unset] [(.int c0_)])) _
  refine OGo.step (fun _ kk => XS.istore X0.here hx rfl (hb hby own_d_jdk_52_method_21_code_13) rfl (l' := #[.val (.ref ca), .val (.int (0 : Int32)), .val (.ref ba), .val (.int (0 : Int32)), .val (.int (1 : Int32)), .val (.int (0 : Int32)), .val (.int c0_)]) rfl kk) ?_
  show OGo p e below (s₁.setTop (mkF m 15 #[.val (.ref ca), .val (.int (0 : Int32)), .val (.ref ba), .val (.int (0 : Int32)), .val (.int (1 : Int32)), .val (.int (0 : Int32)), .val (.int c0_)] [])) _
  refine OGo.step (fun _ kk => XS.iload X0.here hx rfl (hb hby own_d_jdk_52_method_21_code_15) rfl kk) ?_
  show OGo p e below (s₁.setTop (mkF m 17 #[.val (.ref ca), .val (.int (0 : Int32)), .val (.ref ba), .val (.int (0 : Int32)), .val (.int (1 : Int32)), .val (.int (0 : Int32)), .val (.int c0_)] [(.int c0_)])) _
  refine OGo.step (fun _ kk => XS.sipush X0.here hx rfl (hb hby own_d_jdk_52_method_21_code_17) kk) ?_
  show OGo p e below (s₁.setTop (mkF m 20 #[.val (.ref ca), .val (.int (0 : Int32)), .val (.ref ba), .val (.int (0 : Int32)), .val (.int (1 : Int32)), .val (.int (0 : Int32)), .val (.int c0_)] [(.int (255 : Int32)), (.int c0_)])) _
  by_cases hq0 : (255 : Int32) < c0_
  · refine OGo.step (fun _ kk => XS.icmpNo X0.here hx rfl (hb hby own_d_jdk_52_method_21_code_20) rfl (tlt hq0).2.2.2 kk) ?_
    show OGo p e below (s₁.setTop (mkF m 23 #[.val (.ref ca), .val (.int (0 : Int32)), .val (.ref ba), .val (.int (0 : Int32)), .val (.int (1 : Int32)), .val (.int (0 : Int32)), .val (.int c0_)] [])) _
    refine OGo.step (fun _ kk => XS.iload X0.here hx rfl (hb hby own_d_jdk_52_method_21_code_23) rfl kk) ?_
    show OGo p e below (s₁.setTop (mkF m 25 #[.val (.ref ca), .val (.int (0 : Int32)), .val (.ref ba), .val (.int (0 : Int32)), .val (.int (1 : Int32)), .val (.int (0 : Int32)), .val (.int c0_)] [(.int (0 : Int32))])) _
    have HK := (Keep.refl h0 [ba])
    exact own_ret X0 hx hlk hret rfl (Or.inl ⟨rfl, Or.inl rfl, _, rfl⟩) (hb hby own_d_jdk_52_method_21_code_25) (by rw [e0]; exact ⟨0, rfl, by decide, hq0, (Fr.nil n0), HK⟩) (by decide) (by decide)
  · skip
    refine OGo.step (fun _ kk => XS.icmpYes X0.here hx rfl (pc0 := 20) (pc' := 26) rfl (hb hby own_d_jdk_52_method_21_code_20) rfl (flt hq0).2.2.2 (by decide) (by decide) kk) ?_
    show OGo p e below (s₁.setTop (mkF m 26 #[.val (.ref ca), .val (.int (0 : Int32)), .val (.ref ba), .val (.int (0 : Int32)), .val (.int (1 : Int32)), .val (.int (0 : Int32)), .val (.int c0_)] [])) _
    refine OGo.step (fun _ kk => XS.aloadN X0.here hx rfl (hb hby own_d_jdk_52_method_21_code_26) rfl rfl kk) ?_
    show OGo p e below (s₁.setTop (mkF m 27 #[.val (.ref ca), .val (.int (0 : Int32)), .val (.ref ba), .val (.int (0 : Int32)), .val (.int (1 : Int32)), .val (.int (0 : Int32)), .val (.int c0_)] [(.ref ba)])) _
    refine OGo.step (fun _ kk => XS.iloadN X0.here hx rfl (hb hby own_d_jdk_52_method_21_code_27) rfl kk) ?_
    show OGo p e below (s₁.setTop (mkF m 28 #[.val (.ref ca), .val (.int (0 : Int32)), .val (.ref ba), .val (.int (0 : Int32)), .val (.int (1 : Int32)), .val (.int (0 : Int32)), .val (.int c0_)] [(.int (0 : Int32)), (.ref ba)])) _
    refine OGo.step (fun _ kk => XS.iload X0.here hx rfl (hb hby own_d_jdk_52_method_21_code_28) rfl kk) ?_
    show OGo p e below (s₁.setTop (mkF m 30 #[.val (.ref ca), .val (.int (0 : Int32)), .val (.ref ba), .val (.int (0 : Int32)), .val (.int (1 : Int32)), .val (.int (0 : Int32)), .val (.int c0_)] [(.int c0_), (.int (0 : Int32)), (.ref ba)])) _
    refine OGo.step (fun _ kk => XS.i2b X0.here hx rfl (hb hby own_d_jdk_52_method_21_code_30) rfl kk) ?_
    show OGo p e below (s₁.setTop (mkF m 31 #[.val (.ref ca), .val (.int (0 : Int32)), .val (.ref ba), .val (.int (0 : Int32)), .val (.int (1 : Int32)), .val (.int (0 : Int32)), .val (.int c0_)] [(.int (c0_.toInt8.toInt32)), (.int (0 : Int32)), (.ref ba)])) _
    obtain ⟨cA200, A200, q200, S200, M200, H200, G200⟩ := id Vb
    obtain ⟨T201, h201, X201, e201, W201, st201⟩ := stB X0 hx hZ e0 A200 (j := (0 : Int32)) (inb_of S200 ⟨by decide, by decide⟩) (g := (mkF m 31 #[.val (.ref ca), .val (.int (0 : Int32)), .val (.ref ba), .val (.int (0 : Int32)), .val (.int (1 : Int32)), .val (.int (0 : Int32)), .val (.int c0_)] [(.int (c0_.toInt8.toInt32)), (.int (0 : Int32)), (.ref ba)])) rfl rfl (hb hby own_d_jdk_52_method_21_code_31)
    refine OGo.step st201 ?_
    show OGo p e below (T201.setTop (mkF m 32 #[.val (.ref ca), .val (.int (0 : Int32)), .val (.ref ba), .val (.int (0 : Int32)), .val (.int (1 : Int32)), .val (.int (0 : Int32)), .val (.int c0_)] [])) _
    have Va200 : Arv Z h201 ba kb .byte (1 : Int32) [(.int (nar .byte (c0_.toInt8.toInt32)))] (.int (0 : Int32)) := Arv.set A200 q200 S200 M200 H200 G200 (fits_nar_byte _) W201 0 rfl (Nat.le_of_ble_eq_true rfl)
    have Nf201 := Fr.snoc X201 (Fr.nil n0) gb
    have sz201 : n0 ≤ h201.size := by rw [W201.size]; exact Z0
    refine OGo.step (fun _ kk => XS.iinc X201.here hx rfl (hb hby own_d_jdk_52_method_21_code_32) rfl (l' := #[.val (.ref ca), .val (.int ((0 : Int32) + (1 : Int32))), .val (.ref ba), .val (.int (0 : Int32)), .val (.int (1 : Int32)), .val (.int (0 : Int32)), .val (.int c0_)]) rfl kk) ?_
    show OGo p e below (T201.setTop (mkF m 35 #[.val (.ref ca), .val (.int ((0 : Int32) + (1 : Int32))), .val (.ref ba), .val (.int (0 : Int32)), .val (.int (1 : Int32)), .val (.int (0 : Int32)), .val (.int c0_)] [])) _
    refine OGo.step (fun _ kk => XS.iinc X201.here hx rfl (hb hby own_d_jdk_52_method_21_code_35) rfl (l' := #[.val (.ref ca), .val (.int ((0 : Int32) + (1 : Int32))), .val (.ref ba), .val (.int ((0 : Int32) + (1 : Int32))), .val (.int (1 : Int32)), .val (.int (0 : Int32)), .val (.int c0_)]) rfl kk) ?_
    show OGo p e below (T201.setTop (mkF m 38 #[.val (.ref ca), .val (.int ((0 : Int32) + (1 : Int32))), .val (.ref ba), .val (.int ((0 : Int32) + (1 : Int32))), .val (.int (1 : Int32)), .val (.int (0 : Int32)), .val (.int c0_)] [])) _
    refine OGo.step (fun _ kk => XS.iinc X201.here hx rfl (hb hby own_d_jdk_52_method_21_code_38) rfl (l' := #[.val (.ref ca), .val (.int ((0 : Int32) + (1 : Int32))), .val (.ref ba), .val (.int ((0 : Int32) + (1 : Int32))), .val (.int (1 : Int32)), .val (.int ((0 : Int32) + (1 : Int32))), .val (.int c0_)]) rfl kk) ?_
    show OGo p e below (T201.setTop (mkF m 41 #[.val (.ref ca), .val (.int ((0 : Int32) + (1 : Int32))), .val (.ref ba), .val (.int ((0 : Int32) + (1 : Int32))), .val (.int (1 : Int32)), .val (.int ((0 : Int32) + (1 : Int32))), .val (.int c0_)] [])) _
    refine OGo.step (fun _ kk => XS.goto X201.here hx rfl (pc0 := 41) (pc' := 3) rfl (hb hby own_d_jdk_52_method_21_code_41) (by decide) (by decide) kk) ?_
    show OGo p e below (T201.setTop (mkF m 3 #[.val (.ref ca), .val (.int ((0 : Int32) + (1 : Int32))), .val (.ref ba), .val (.int ((0 : Int32) + (1 : Int32))), .val (.int (1 : Int32)), .val (.int ((0 : Int32) + (1 : Int32))), .val (.int c0_)] [])) _
    show OGo p e below (T201.setTop (mkF m 3 #[.val (.ref ca), .val (.int (1 : Int32)), .val (.ref ba), .val (.int (1 : Int32)), .val (.int (1 : Int32)), .val (.int (1 : Int32)), .val (.int c0_)] [])) _
    refine OGo.step (fun _ kk => XS.iload X201.here hx rfl (hb hby own_d_jdk_52_method_21_code_3) rfl kk) ?_
    show OGo p e below (T201.setTop (mkF m 5 #[.val (.ref ca), .val (.int (1 : Int32)), .val (.ref ba), .val (.int (1 : Int32)), .val (.int (1 : Int32)), .val (.int (1 : Int32)), .val (.int c0_)] [(.int (1 : Int32))])) _
    refine OGo.step (fun _ kk => XS.iload X201.here hx rfl (hb hby own_d_jdk_52_method_21_code_5) rfl kk) ?_
    show OGo p e below (T201.setTop (mkF m 7 #[.val (.ref ca), .val (.int (1 : Int32)), .val (.ref ba), .val (.int (1 : Int32)), .val (.int (1 : Int32)), .val (.int (1 : Int32)), .val (.int c0_)] [(.int (1 : Int32)), (.int (1 : Int32))])) _
    exact False.elim (hq0 hex)

theorem own_kne1 : ∀ k : Nat, k < 1 → ¬ Int32.ofNat k = (1 : Int32) := by decide
set_option maxRecDepth 65536 in
set_option maxHeartbeats 40000000 in
theorem own_cmp3_1 (l : Launch) (Z : State) (a0 : Array Value) (hw : ∀ d ∈ tables_1, d.before a0 Z = true) (ws : List Jvm.Cond) (ca : Addr) (kc : ClassId) (c0_ : Int32) (h0 : Heap) (n0 : Nat) (Z0 : n0 ≤ h0.size) (SA : Sta Z h0 "java/lang/StringUTF16" "$assertionsDisabled" "Z" (.int (1 : Int32))) (SH : Sta Z h0 "java/lang/StringUTF16" "HI_BYTE_SHIFT" "I" (.int (0 : Int32))) (SL : Sta Z h0 "java/lang/StringUTF16" "LO_BYTE_SHIFT" "I" (.int (8 : Int32))) (Vc : Arv Z h0 ca kc .char (1 : Int32) [(.int c0_)] (.int (0 : Int32))) (hb0 : ¬ c0_ < 0 ∧ ¬ (65535 : Int32) < c0_) (hex : (255 : Int32) < c0_) :
    OMet l Z (⟨"java/lang/StringUTF16", "compress", "([CII)[B"⟩ : MethodName) jdk_52_method_16_code 6 (some (.array .byte)) ws ({ frames := 3, cells := 2, slots := 3, locals := 40 } : Room) #[(.ref ca), (.int (0 : Int32)), (.int (1 : Int32))] h0 (fun v h L => ∃ (u : Addr) (kb : ClassId), v = some (.ref u) ∧ Fr n0 L ∧ Ext h0 h ∧ h0.size ≤ u ∧ Arv Z h u kb .byte (2 : Int32) (StrChars.Road.wideBytes [c0_]) (.int (0 : Int32))) := by
  refine OMet.body (plainFor_of_name own_pn4) ?_
  intro p e s m below meth c s₁ hx hby hml hown hnm hret hlk hZ X0 e0
  refine OGo.step (fun _ kk => castTop (show entryFrame m #[(.ref ca), (.int (0 : Int32)), (.int (1 : Int32))] 6 = (mkF m 0 #[.val (.ref ca), .val (.int (0 : Int32)), .val (.int (1 : Int32)), .unset, .unset, .unset] []) from by first | (simp [entryFrame, mkF, argsToLocals, Value.category]; done) | rfl) kk) ?_
  show OGo p e below (s₁.setTop (mkF m 0 #[.val (.ref ca), .val (.int (0 : Int32)), .val (.int (1 : Int32)), .unset, .unset, .unset] [])) _
  refine OGo.step (fun _ kk => XS.iloadN X0.here hx rfl (hb hby own_d_jdk_52_method_16_code_0) rfl kk) ?_
  show OGo p e below (s₁.setTop (mkF m 1 #[.val (.ref ca), .val (.int (0 : Int32)), .val (.int (1 : Int32)), .unset, .unset, .unset] [(.int (1 : Int32))])) _
  obtain ⟨T202, h202, k202, X202, e202, E202, A202, st202⟩ := newP X0 hx hZ (hw _ (List.mem_of_getElem? (i := 21) rfl)) e0 (g := (mkF m 1 #[.val (.ref ca), .val (.int (0 : Int32)), .val (.int (1 : Int32)), .unset, .unset, .unset] [(.int (1 : Int32))])) rfl (hb hby own_d_jdk_52_method_16_code_1) rfl (by decide) (cap := 1) (by decide) (by decide) (by decide) (by decide)
  obtain ⟨ba, g202⟩ : ∃ z, z = h0.size := ⟨_, rfl⟩
  rw [← g202] at A202 st202
  refine OGo.step st202 ?_
  show OGo p e below (T202.setTop (mkF m 3 #[.val (.ref ca), .val (.int (0 : Int32)), .val (.int (1 : Int32)), .unset, .unset, .unset] [(.ref ba)])) _
  have ne_ca_ba : ca ≠ ba := Nat.ne_of_lt (Nat.lt_of_lt_of_le Vc.lt (Nat.le_of_eq g202.symm))
  have gf_ba : n0 ≤ ba := Nat.le_trans Z0 (Nat.le_of_eq g202.symm)
  have sz202 : n0 ≤ h202.size := Nat.le_trans Z0 E202.1
  have Va : Arv Z h202 ba k202 .byte (1 : Int32) [(.int (0 : Int32))] (.int (0 : Int32)) := (Arv.new A202 (by decide)).pad (pad_rep [] (.int (0 : Int32)) 1)
  refine OGo.step (fun _ kk => XS.astoreN X202.here hx rfl (hb hby own_d_jdk_52_method_16_code_3) rfl rfl (l' := #[.val (.ref ca), .val (.int (0 : Int32)), .val (.int (1 : Int32)), .val (.ref ba), .unset, .unset]) rfl kk) ?_
  show OGo p e below (T202.setTop (mkF m 4 #[.val (.ref ca), .val (.int (0 : Int32)), .val (.int (1 : Int32)), .val (.ref ba), .unset, .unset] [])) _
  refine OGo.step (fun _ kk => XS.aloadN X202.here hx rfl (hb hby own_d_jdk_52_method_16_code_4) rfl rfl kk) ?_
  show OGo p e below (T202.setTop (mkF m 5 #[.val (.ref ca), .val (.int (0 : Int32)), .val (.int (1 : Int32)), .val (.ref ba), .unset, .unset] [(.ref ca)])) _
  refine OGo.step (fun _ kk => XS.iloadN X202.here hx rfl (hb hby own_d_jdk_52_method_16_code_5) rfl kk) ?_
  show OGo p e below (T202.setTop (mkF m 6 #[.val (.ref ca), .val (.int (0 : Int32)), .val (.int (1 : Int32)), .val (.ref ba), .unset, .unset] [(.int (0 : Int32)), (.ref ca)])) _
  refine OGo.step (fun _ kk => XS.aloadN X202.here hx rfl (hb hby own_d_jdk_52_method_16_code_6) rfl rfl kk) ?_
  show OGo p e below (T202.setTop (mkF m 7 #[.val (.ref ca), .val (.int (0 : Int32)), .val (.int (1 : Int32)), .val (.ref ba), .unset, .unset] [(.ref ba), (.int (0 : Int32)), (.ref ca)])) _
  refine OGo.step (fun _ kk => XS.iconst X202.here hx rfl (hb hby own_d_jdk_52_method_16_code_7) kk) ?_
  show OGo p e below (T202.setTop (mkF m 8 #[.val (.ref ca), .val (.int (0 : Int32)), .val (.int (1 : Int32)), .val (.ref ba), .unset, .unset] [(.int (0 : Int32)), (.ref ba), (.int (0 : Int32)), (.ref ca)])) _
  refine OGo.step (fun _ kk => XS.iloadN X202.here hx rfl (hb hby own_d_jdk_52_method_16_code_8) rfl kk) ?_
  show OGo p e below (T202.setTop (mkF m 9 #[.val (.ref ca), .val (.int (0 : Int32)), .val (.int (1 : Int32)), .val (.ref ba), .unset, .unset] [(.int (1 : Int32)), (.int (0 : Int32)), (.ref ba), (.int (0 : Int32)), (.ref ca)])) _
  have fc203 := (Vc.ext E202)
  refine own_callS X202 hx hZ (y := (⟨"java/lang/StringUTF16", "compress", "([CI[BII)I"⟩ : MethodName)) hown (hw _ (List.mem_of_getElem? (i := 84) rfl)) (hw _ (List.mem_of_getElem? (i := 85) rfl)) (hw _ (List.mem_of_getElem? (i := 82) rfl)) (hw _ (List.mem_of_getElem? (i := 86) rfl)) (by decide) (W := 0) (own_cmp5_1 l Z a0 hw [] ca ba kc _ c0_ h202 n0 sz202 fc203 Va gf_ba ne_ca_ba hex) e202  (pc := 9) (Ls := #[.val (.ref ca), .val (.int (0 : Int32)), .val (.int (1 : Int32)), .val (.ref ba), .unset, .unset]) (argsL := [(.ref ca), (.int (0 : Int32)), (.ref ba), (.int (0 : Int32)), (.int (1 : Int32))]) (rest := []) (by rw [hml]; rfl) (lenOf own_pd14 rfl) rfl (hb hby own_d_jdk_52_method_16_code_9) (by decide) (by decide) (by decide) (by decide) ?_
  intro v204 T204 L204 X204 hQ204
  obtain ⟨kq_, rfl, hk, hk2, N204, K204⟩ := hQ204
  show OGo p e below (T204.setTop (mkF m 12 #[.val (.ref ca), .val (.int (0 : Int32)), .val (.int (1 : Int32)), .val (.ref ba), .unset, .unset] [(.int (Int32.ofNat kq_))])) _
  have Nc204 := Fr.app (Fr.nil n0) N204
  have sz204 : n0 ≤ T204.heap.size := Nat.le_trans sz202 K204.1
  refine OGo.step (fun _ kk => XS.istore X204.here hx rfl (hb hby own_d_jdk_52_method_16_code_12) rfl (l' := #[.val (.ref ca), .val (.int (0 : Int32)), .val (.int (1 : Int32)), .val (.ref ba), .val (.int (Int32.ofNat kq_)), .unset]) rfl kk) ?_
  show OGo p e below (T204.setTop (mkF m 14 #[.val (.ref ca), .val (.int (0 : Int32)), .val (.int (1 : Int32)), .val (.ref ba), .val (.int (Int32.ofNat kq_)), .unset] [])) _
  refine OGo.step (fun _ kk => XS.iload X204.here hx rfl (hb hby own_d_jdk_52_method_16_code_14) rfl kk) ?_
  show OGo p e below (T204.setTop (mkF m 16 #[.val (.ref ca), .val (.int (0 : Int32)), .val (.int (1 : Int32)), .val (.ref ba), .val (.int (Int32.ofNat kq_)), .unset] [(.int (Int32.ofNat kq_))])) _
  refine OGo.step (fun _ kk => XS.iloadN X204.here hx rfl (hb hby own_d_jdk_52_method_16_code_16) rfl kk) ?_
  show OGo p e below (T204.setTop (mkF m 17 #[.val (.ref ca), .val (.int (0 : Int32)), .val (.int (1 : Int32)), .val (.ref ba), .val (.int (Int32.ofNat kq_)), .unset] [(.int (1 : Int32)), (.int (Int32.ofNat kq_))])) _
  refine OGo.step (fun _ kk => XS.icmpNo X204.here hx rfl (hb hby own_d_jdk_52_method_16_code_17) rfl (feq (own_kne1 kq_ hk)).1 kk) ?_
  show OGo p e below (T204.setTop (mkF m 20 #[.val (.ref ca), .val (.int (0 : Int32)), .val (.int (1 : Int32)), .val (.ref ba), .val (.int (Int32.ofNat kq_)), .unset] [])) _
  refine OGo.step (fun _ kk => XS.aloadN X204.here hx rfl (hb hby own_d_jdk_52_method_16_code_20) rfl rfl kk) ?_
  show OGo p e below (T204.setTop (mkF m 21 #[.val (.ref ca), .val (.int (0 : Int32)), .val (.int (1 : Int32)), .val (.ref ba), .val (.int (Int32.ofNat kq_)), .unset] [(.ref ca)])) _
  refine OGo.step (fun _ kk => XS.iloadN X204.here hx rfl (hb hby own_d_jdk_52_method_16_code_21) rfl kk) ?_
  show OGo p e below (T204.setTop (mkF m 22 #[.val (.ref ca), .val (.int (0 : Int32)), .val (.int (1 : Int32)), .val (.ref ba), .val (.int (Int32.ofNat kq_)), .unset] [(.int (0 : Int32)), (.ref ca)])) _
  refine OGo.step (fun _ kk => XS.iloadN X204.here hx rfl (hb hby own_d_jdk_52_method_16_code_22) rfl kk) ?_
  show OGo p e below (T204.setTop (mkF m 23 #[.val (.ref ca), .val (.int (0 : Int32)), .val (.int (1 : Int32)), .val (.ref ba), .val (.int (Int32.ofNat kq_)), .unset] [(.int (1 : Int32)), (.int (0 : Int32)), (.ref ca)])) _
  have xt205 := (own_ext_keep E202 K204 (allS (Nat.le_of_eq g202.symm) all0))
  have fx206 := SA.ext xt205
  have fx207 := SH.ext xt205
  have fx208 := SL.ext xt205
  have fc209 := (fc203.keep K204 (ninS ne_ca_ba nin0))
  refine own_callS X204 hx hZ (y := (⟨"java/lang/StringUTF16", "toBytes", "([CII)[B"⟩ : MethodName)) hown (hw _ (List.mem_of_getElem? (i := 108) rfl)) (hw _ (List.mem_of_getElem? (i := 109) rfl)) (hw _ (List.mem_of_getElem? (i := 82) rfl)) (hw _ (List.mem_of_getElem? (i := 110) rfl)) (by decide) (W := 0) (own_toB1 l Z a0 hw [] ca kc c0_ T204.heap n0 sz204 fx206 fx207 fx208 fc209) rfl  (pc := 23) (Ls := #[.val (.ref ca), .val (.int (0 : Int32)), .val (.int (1 : Int32)), .val (.ref ba), .val (.int (Int32.ofNat kq_)), .unset]) (argsL := [(.ref ca), (.int (0 : Int32)), (.int (1 : Int32))]) (rest := []) (by rw [hml]; rfl) (lenOf own_pd15 rfl) rfl (hb hby own_d_jdk_52_method_16_code_23) (by decide) (by decide) (by decide) (by decide) ?_
  intro v210 T210 L210 X210 hQ210
  obtain ⟨u, kb, rfl, N210, Xe210, gu210, Vu⟩ := hQ210
  show OGo p e below (T210.setTop (mkF m 26 #[.val (.ref ca), .val (.int (0 : Int32)), .val (.int (1 : Int32)), .val (.ref ba), .val (.int (Int32.ofNat kq_)), .unset] [(.ref u)])) _
  have gu0 := Nat.le_trans (xt205).1 gu210
  have Nc210 := Fr.app Nc204 N210
  have sz210 : n0 ≤ T210.heap.size := Nat.le_trans sz204 Xe210.1
  refine OGo.step (fun _ kk => XS.astore X210.here hx rfl (hb hby own_d_jdk_52_method_16_code_26) rfl rfl (l' := #[.val (.ref ca), .val (.int (0 : Int32)), .val (.int (1 : Int32)), .val (.ref ba), .val (.int (Int32.ofNat kq_)), .val (.ref u)]) rfl kk) ?_
  show OGo p e below (T210.setTop (mkF m 28 #[.val (.ref ca), .val (.int (0 : Int32)), .val (.int (1 : Int32)), .val (.ref ba), .val (.int (Int32.ofNat kq_)), .val (.ref u)] [])) _
  refine OGo.step (fun _ kk => XS.aload X210.here hx rfl (hb hby own_d_jdk_52_method_16_code_28) rfl rfl kk) ?_
  show OGo p e below (T210.setTop (mkF m 30 #[.val (.ref ca), .val (.int (0 : Int32)), .val (.int (1 : Int32)), .val (.ref ba), .val (.int (Int32.ofNat kq_)), .val (.ref u)] [(.ref u)])) _
  refine OGo.step (fun _ kk => XS.iload X210.here hx rfl (hb hby own_d_jdk_52_method_16_code_30) rfl kk) ?_
  show OGo p e below (T210.setTop (mkF m 32 #[.val (.ref ca), .val (.int (0 : Int32)), .val (.int (1 : Int32)), .val (.ref ba), .val (.int (Int32.ofNat kq_)), .val (.ref u)] [(.int (Int32.ofNat kq_)), (.ref u)])) _
  obtain rfl : kq_ = 0 := by omega
  show OGo p e below (T210.setTop (mkF m 32 #[.val (.ref ca), .val (.int (0 : Int32)), .val (.int (1 : Int32)), .val (.ref ba), .val (.int (0 : Int32)), .val (.ref u)] [(.int (0 : Int32)), (.ref u)])) _
  have xt211 := (own_ext_trans xt205 Xe210)
  have fx212 := SA.ext xt211
  have fx213 := SH.ext xt211
  have fx214 := SL.ext xt211
  refine own_callS X210 hx hZ (y := (⟨"java/lang/StringUTF16", "getChar", "([BI)C"⟩ : MethodName)) hown (hw _ (List.mem_of_getElem? (i := 118) rfl)) (hw _ (List.mem_of_getElem? (i := 119) rfl)) (hw _ (List.mem_of_getElem? (i := 82) rfl)) (hw _ (List.mem_of_getElem? (i := 120) rfl)) (by decide) (W := 0) (own_getc0 l Z a0 hw [] u kb _ (StrChars.Road.wideBytes [c0_]) (StrChars.lo8 c0_) (StrChars.hi8 c0_) T210.heap n0 sz210 fx212 fx213 fx214 Vu (by decide) (by decide) (by decide) (by decide) rfl rfl) rfl  (pc := 32) (Ls := #[.val (.ref ca), .val (.int (0 : Int32)), .val (.int (1 : Int32)), .val (.ref ba), .val (.int (0 : Int32)), .val (.ref u)]) (argsL := [(.ref u), (.int (0 : Int32))]) (rest := []) (by rw [hml]; rfl) (lenOf own_pd16 rfl) rfl (hb hby own_d_jdk_52_method_16_code_32) (by decide) (by decide) (by decide) (by decide) ?_
  intro v215 T215 L215 X215 hQ215
  obtain ⟨rfl, N215, e215⟩ := hQ215
  show OGo p e below (T215.setTop (mkF m 35 #[.val (.ref ca), .val (.int (0 : Int32)), .val (.int (1 : Int32)), .val (.ref ba), .val (.int (0 : Int32)), .val (.ref u)] [(.int (StrChars.pairCh (StrChars.lo8 c0_) (StrChars.hi8 c0_)))])) _
  have Nc215 := Fr.app Nc210 N215
  rw [StrChars.pair_says hb0.1 hb0.2]
  show OGo p e below (T215.setTop (mkF m 35 #[.val (.ref ca), .val (.int (0 : Int32)), .val (.int (1 : Int32)), .val (.ref ba), .val (.int (0 : Int32)), .val (.ref u)] [(.int c0_)])) _
  refine OGo.step (fun _ kk => XS.sipush X215.here hx rfl (hb hby own_d_jdk_52_method_16_code_35) kk) ?_
  show OGo p e below (T215.setTop (mkF m 38 #[.val (.ref ca), .val (.int (0 : Int32)), .val (.int (1 : Int32)), .val (.ref ba), .val (.int (0 : Int32)), .val (.ref u)] [(.int (255 : Int32)), (.int c0_)])) _
  refine OGo.step (fun _ kk => XS.icmpYes X215.here hx rfl (pc0 := 38) (pc' := 54) rfl (hb hby own_d_jdk_52_method_16_code_38) rfl (tlt hk2).2.2.1 (by decide) (by decide) kk) ?_
  show OGo p e below (T215.setTop (mkF m 54 #[.val (.ref ca), .val (.int (0 : Int32)), .val (.int (1 : Int32)), .val (.ref ba), .val (.int (0 : Int32)), .val (.ref u)] [])) _
  refine OGo.step (fun _ kk => XS.aload X215.here hx rfl (hb hby own_d_jdk_52_method_16_code_54) rfl rfl kk) ?_
  show OGo p e below (T215.setTop (mkF m 56 #[.val (.ref ca), .val (.int (0 : Int32)), .val (.int (1 : Int32)), .val (.ref ba), .val (.int (0 : Int32)), .val (.ref u)] [(.ref u)])) _
  exact own_ret X215 hx hlk hret rfl (Or.inr (Or.inr (Or.inr (Or.inr ⟨rfl, rfl, rfl⟩)))) (hb hby own_d_jdk_52_method_16_code_56) (by rw [e215]; exact ⟨u, kb, rfl, Nc215, xt211, gu0, Vu⟩) (by decide) (by decide)

set_option maxRecDepth 65536 in
set_option maxHeartbeats 40000000 in
theorem own_codl1 (l : Launch) (Z : State) (a0 : Array Value) (hw : ∀ d ∈ tables_1, d.before a0 Z = true) (ws : List Jvm.Cond) (u : Addr) (kb : ClassId) (vs : List Value) (h0 : Heap) (n0 : Nat) (Z0 : n0 ≤ h0.size) (Vu : Arv Z h0 u kb .byte (2 : Int32) vs (.int (0 : Int32))) :
    OMet l Z (⟨"java/lang/StringUTF16", "coderFromArrayLen", "([BI)B"⟩ : MethodName) jdk_52_method_15_code 2 (some .byte) ws ({ frames := 0, cells := 0, slots := 0, locals := 0 } : Room) #[(.ref u), (.int (1 : Int32))] h0 (fun v h L => v = some (.int (1 : Int32)) ∧ Fr n0 L ∧ h = h0) := by
  refine OMet.body (plainFor_of_name own_pn4) ?_
  intro p e s m below meth c s₁ hx hby hml hown hnm hret hlk hZ X0 e0
  refine OGo.step (fun _ kk => castTop (show entryFrame m #[(.ref u), (.int (1 : Int32))] 2 = (mkF m 0 #[.val (.ref u), .val (.int (1 : Int32))] []) from by first | (simp [entryFrame, mkF, argsToLocals, Value.category]; done) | rfl) kk) ?_
  show OGo p e below (s₁.setTop (mkF m 0 #[.val (.ref u), .val (.int (1 : Int32))] [])) _
  obtain ⟨cu, Au, qu, Su, Mu, Hu, Gu⟩ := id Vu
  refine OGo.step (fun _ kk => XS.iloadN X0.here hx rfl (hb hby own_d_jdk_52_method_15_code_0) rfl kk) ?_
  show OGo p e below (s₁.setTop (mkF m 1 #[.val (.ref u), .val (.int (1 : Int32))] [(.int (1 : Int32))])) _
  refine OGo.step (fun _ kk => XS.aloadN X0.here hx rfl (hb hby own_d_jdk_52_method_15_code_1) rfl rfl kk) ?_
  show OGo p e below (s₁.setTop (mkF m 2 #[.val (.ref u), .val (.int (1 : Int32))] [(.ref u), (.int (1 : Int32))])) _
  refine OGo.step (fun _ kk => X0.arraylength hx (by rw [e0]; exact (Au).1) (State.isArrayOf_alike hZ.alike (Au).2.1) (g := (mkF m 2 #[.val (.ref u), .val (.int (1 : Int32))] [(.ref u), (.int (1 : Int32))])) rfl rfl (hb hby own_d_jdk_52_method_15_code_2) _ kk) ?_
  rw [len_of Su Mu]
  show OGo p e below (s₁.setTop (mkF m 3 #[.val (.ref u), .val (.int (1 : Int32))] [(.int (2 : Int32)), (.int (1 : Int32))])) _
  refine OGo.step (fun _ kk => XS.isub X0.here hx rfl (hb hby own_d_jdk_52_method_15_code_3) rfl kk) ?_
  show OGo p e below (s₁.setTop (mkF m 4 #[.val (.ref u), .val (.int (1 : Int32))] [(.int ((1 : Int32) - (2 : Int32)))])) _
  refine OGo.step (fun _ kk => XS.bipush X0.here hx rfl (hb hby own_d_jdk_52_method_15_code_4) kk) ?_
  show OGo p e below (s₁.setTop (mkF m 6 #[.val (.ref u), .val (.int (1 : Int32))] [(.int (31 : Int32)), (.int ((1 : Int32) - (2 : Int32)))])) _
  refine OGo.step (fun _ kk => XS.iushr X0.here hx rfl (hb hby own_d_jdk_52_method_15_code_6) rfl kk) ?_
  show OGo p e below (s₁.setTop (mkF m 7 #[.val (.ref u), .val (.int (1 : Int32))] [(.int ((((1 : Int32) - (2 : Int32)).toUInt32 >>> ((31 : Int32) &&& 31).toUInt32).toInt32))])) _
  refine OGo.step (fun _ kk => XS.i2b X0.here hx rfl (hb hby own_d_jdk_52_method_15_code_7) rfl kk) ?_
  show OGo p e below (s₁.setTop (mkF m 8 #[.val (.ref u), .val (.int (1 : Int32))] [(.int (((((1 : Int32) - (2 : Int32)).toUInt32 >>> ((31 : Int32) &&& 31).toUInt32).toInt32).toInt8.toInt32))])) _
  exact own_retN X0 hx hlk hret (by simp) (hb hby own_d_jdk_52_method_15_code_8) ⟨rfl, Fr.nil n0, e0⟩ (by decide) (by decide)

theorem own_ex1 {c0_ : Int32} (hex : (255 : Int32) < c0_) : ∃ c ∈ ([c0_] : List Int32), (255 : Int32) < c := ⟨_, List.mem_of_getElem? (i := 0) rfl, hex⟩
set_option maxRecDepth 65536 in
set_option maxHeartbeats 40000000 in
theorem own_new4U1 (l : Launch) (Z : State) (a0 : Array Value) (hw : ∀ d ∈ tables_1, d.before a0 Z = true) (ws : List Jvm.Cond) (a ca : Addr) (kc : ClassId) (c0_ : Int32) (zc : Int32) (h0 : Heap) (n0 : Nat) (Z0 : n0 ≤ h0.size) (SC : Sta Z h0 "java/lang/String" "COMPACT_STRINGS" "Z" (.int zc)) (hzc : ¬ zc = 0) (SA : Sta Z h0 "java/lang/StringUTF16" "$assertionsDisabled" "Z" (.int (1 : Int32))) (SH : Sta Z h0 "java/lang/StringUTF16" "HI_BYTE_SHIFT" "I" (.int (0 : Int32))) (SL : Sta Z h0 "java/lang/StringUTF16" "LO_BYTE_SHIFT" "I" (.int (8 : Int32))) (E1 : Exa Z h0 a "java/lang/String") (Fv : Fld Z h0 a "java/lang/String" "value" "[B" .null) (Fc : Fld Z h0 a "java/lang/String" "coder" "B" (.int (0 : Int32))) (ga : n0 ≤ a) (Vc : Arv Z h0 ca kc .char (1 : Int32) [(.int c0_)] (.int (0 : Int32))) (hb0 : ¬ c0_ < 0 ∧ ¬ (65535 : Int32) < c0_) (hex : (255 : Int32) < c0_) :
    OMet l Z (⟨"java/lang/String", "<init>", "([CIILjava/lang/Void;)V"⟩ : MethodName) jdk_42_method_149_code 6 none ws ({ frames := 4, cells := 2, slots := 3, locals := 57 } : Room) #[(.ref a), (.ref ca), (.int (0 : Int32)), (.int (1 : Int32)), .null] h0 (fun v h L => v = none ∧ Fr n0 L ∧ Keep h0 h [a] ∧ OStr Z h a [c0_]) := by
  refine OMet.body (plainFor_of_name own_pn3) ?_
  intro p e s m below meth c s₁ hx hby hml hown hnm hret hlk hZ X0 e0
  refine OGo.step (fun _ kk => castTop (show entryFrame m #[(.ref a), (.ref ca), (.int (0 : Int32)), (.int (1 : Int32)), .null] 6 = (mkF m 0 #[.val (.ref a), .val (.ref ca), .val (.int (0 : Int32)), .val (.int (1 : Int32)), .val .null, .unset] []) from by first | (simp [entryFrame, mkF, argsToLocals, Value.category]; done) | rfl) kk) ?_
  show OGo p e below (s₁.setTop (mkF m 0 #[.val (.ref a), .val (.ref ca), .val (.int (0 : Int32)), .val (.int (1 : Int32)), .val .null, .unset] [])) _
  refine OGo.step (fun _ kk => XS.aloadN X0.here hx rfl (hb hby own_d_jdk_42_method_149_code_0) rfl rfl kk) ?_
  show OGo p e below (s₁.setTop (mkF m 1 #[.val (.ref a), .val (.ref ca), .val (.int (0 : Int32)), .val (.int (1 : Int32)), .val .null, .unset] [(.ref a)])) _
  obtain ⟨T216, X216, e216, st216⟩ := initO X0 hx hZ hown (hw _ (List.mem_of_getElem? (i := 17) rfl)) (hw _ (List.mem_of_getElem? (i := 18) rfl)) (hw _ (List.mem_of_getElem? (i := 19) rfl)) e0 (g := (mkF m 1 #[.val (.ref a), .val (.ref ca), .val (.int (0 : Int32)), .val (.int (1 : Int32)), .val .null, .unset] [(.ref a)])) rfl (by rw [hml]; rfl) rfl (hb hby own_d_jdk_42_method_149_code_1) (by decide) (W := 0) (by show 2 * 0 + _ ≤ _; exact Nat.le_of_eq rfl) (by decide)
  refine OGo.step st216 ?_
  show OGo p e below (T216.setTop (mkF m 4 #[.val (.ref a), .val (.ref ca), .val (.int (0 : Int32)), .val (.int (1 : Int32)), .val .null, .unset] [])) _
  refine OGo.step (fun _ kk => XS.iloadN X216.here hx rfl (hb hby own_d_jdk_42_method_149_code_4) rfl kk) ?_
  show OGo p e below (T216.setTop (mkF m 5 #[.val (.ref a), .val (.ref ca), .val (.int (0 : Int32)), .val (.int (1 : Int32)), .val .null, .unset] [(.int (1 : Int32))])) _
  refine OGo.step (fun _ kk => XS.ifYes X216.here hx rfl (pc0 := 5) (pc' := 27) rfl (hb hby own_d_jdk_42_method_149_code_5) rfl ((if0 _ _).trans (feq (by decide)).2) (by decide) (by decide) kk) ?_
  show OGo p e below (T216.setTop (mkF m 27 #[.val (.ref a), .val (.ref ca), .val (.int (0 : Int32)), .val (.int (1 : Int32)), .val .null, .unset] [])) _
  obtain ⟨T217, X217, e217, st217⟩ := getS2 X216 hx hZ hown (host := "") (Or.inl (hw _ (List.mem_of_getElem? (i := 60) rfl))) Via.refl e216 SC (g := (mkF m 27 #[.val (.ref a), .val (.ref ca), .val (.int (0 : Int32)), .val (.int (1 : Int32)), .val .null, .unset] [])) rfl (hb hby own_d_jdk_42_method_149_code_27)
  refine OGo.step st217 ?_
  show OGo p e below (T217.setTop (mkF m 30 #[.val (.ref a), .val (.ref ca), .val (.int (0 : Int32)), .val (.int (1 : Int32)), .val .null, .unset] [(.int zc)])) _
  refine OGo.step (fun _ kk => XS.ifNo X217.here hx rfl (hb hby own_d_jdk_42_method_149_code_30) rfl ((if0 _ _).trans (feq hzc).1) kk) ?_
  show OGo p e below (T217.setTop (mkF m 33 #[.val (.ref a), .val (.ref ca), .val (.int (0 : Int32)), .val (.int (1 : Int32)), .val .null, .unset] [])) _
  refine OGo.step (fun _ kk => XS.aloadN X217.here hx rfl (hb hby own_d_jdk_42_method_149_code_33) rfl rfl kk) ?_
  show OGo p e below (T217.setTop (mkF m 34 #[.val (.ref a), .val (.ref ca), .val (.int (0 : Int32)), .val (.int (1 : Int32)), .val .null, .unset] [(.ref ca)])) _
  refine OGo.step (fun _ kk => XS.iloadN X217.here hx rfl (hb hby own_d_jdk_42_method_149_code_34) rfl kk) ?_
  show OGo p e below (T217.setTop (mkF m 35 #[.val (.ref a), .val (.ref ca), .val (.int (0 : Int32)), .val (.int (1 : Int32)), .val .null, .unset] [(.int (0 : Int32)), (.ref ca)])) _
  refine OGo.step (fun _ kk => XS.iloadN X217.here hx rfl (hb hby own_d_jdk_42_method_149_code_35) rfl kk) ?_
  show OGo p e below (T217.setTop (mkF m 36 #[.val (.ref a), .val (.ref ca), .val (.int (0 : Int32)), .val (.int (1 : Int32)), .val .null, .unset] [(.int (1 : Int32)), (.int (0 : Int32)), (.ref ca)])) _
  refine own_callS X217 hx hZ (y := (⟨"java/lang/StringUTF16", "compress", "([CII)[B"⟩ : MethodName)) hown (hw _ (List.mem_of_getElem? (i := 80) rfl)) (hw _ (List.mem_of_getElem? (i := 81) rfl)) (hw _ (List.mem_of_getElem? (i := 82) rfl)) (hw _ (List.mem_of_getElem? (i := 83) rfl)) (by decide) (W := 0) (own_cmp3_1 l Z a0 hw [] ca kc c0_ h0 n0 Z0 SA SH SL Vc hb0 hex) e217  (pc := 36) (Ls := #[.val (.ref a), .val (.ref ca), .val (.int (0 : Int32)), .val (.int (1 : Int32)), .val .null, .unset]) (argsL := [(.ref ca), (.int (0 : Int32)), (.int (1 : Int32))]) (rest := []) (by rw [hml]; rfl) (lenOf own_pd15 rfl) rfl (hb hby own_d_jdk_42_method_149_code_36) (by decide) (by decide) (by decide) (by decide) ?_
  intro v218 T218 L218 X218 hQ218
  obtain ⟨u, kb, rfl, N218, Xe218, gu, Vu⟩ := hQ218
  show OGo p e below (T218.setTop (mkF m 39 #[.val (.ref a), .val (.ref ca), .val (.int (0 : Int32)), .val (.int (1 : Int32)), .val .null, .unset] [(.ref u)])) _
  have nau : a ≠ u := Nat.ne_of_lt (Nat.lt_of_lt_of_le E1.lt gu)
  have Nc218 := Fr.app (Fr.nil n0) N218
  have sz218 : n0 ≤ T218.heap.size := Nat.le_trans Z0 Xe218.1
  refine OGo.step (fun _ kk => XS.astore X218.here hx rfl (hb hby own_d_jdk_42_method_149_code_39) rfl rfl (l' := #[.val (.ref a), .val (.ref ca), .val (.int (0 : Int32)), .val (.int (1 : Int32)), .val .null, .val (.ref u)]) rfl kk) ?_
  show OGo p e below (T218.setTop (mkF m 41 #[.val (.ref a), .val (.ref ca), .val (.int (0 : Int32)), .val (.int (1 : Int32)), .val .null, .val (.ref u)] [])) _
  refine OGo.step (fun _ kk => XS.aloadN X218.here hx rfl (hb hby own_d_jdk_42_method_149_code_41) rfl rfl kk) ?_
  show OGo p e below (T218.setTop (mkF m 42 #[.val (.ref a), .val (.ref ca), .val (.int (0 : Int32)), .val (.int (1 : Int32)), .val .null, .val (.ref u)] [(.ref a)])) _
  refine OGo.step (fun _ kk => XS.aload X218.here hx rfl (hb hby own_d_jdk_42_method_149_code_42) rfl rfl kk) ?_
  show OGo p e below (T218.setTop (mkF m 44 #[.val (.ref a), .val (.ref ca), .val (.int (0 : Int32)), .val (.int (1 : Int32)), .val .null, .val (.ref u)] [(.ref u), (.ref a)])) _
  refine OGo.step (fun _ kk => XS.iloadN X218.here hx rfl (hb hby own_d_jdk_42_method_149_code_44) rfl kk) ?_
  show OGo p e below (T218.setTop (mkF m 45 #[.val (.ref a), .val (.ref ca), .val (.int (0 : Int32)), .val (.int (1 : Int32)), .val .null, .val (.ref u)] [(.int (1 : Int32)), (.ref u), (.ref a)])) _
  refine own_callS X218 hx hZ (y := (⟨"java/lang/StringUTF16", "coderFromArrayLen", "([BI)B"⟩ : MethodName)) hown (hw _ (List.mem_of_getElem? (i := 87) rfl)) (hw _ (List.mem_of_getElem? (i := 88) rfl)) (hw _ (List.mem_of_getElem? (i := 82) rfl)) (hw _ (List.mem_of_getElem? (i := 89) rfl)) (by decide) (W := 1) (own_codl1 l Z a0 hw [] u kb _ T218.heap n0 sz218 Vu) rfl  (pc := 45) (Ls := #[.val (.ref a), .val (.ref ca), .val (.int (0 : Int32)), .val (.int (1 : Int32)), .val .null, .val (.ref u)]) (argsL := [(.ref u), (.int (1 : Int32))]) (rest := [(.ref a)]) (by rw [hml]; rfl) (lenOf own_pd17 rfl) rfl (hb hby own_d_jdk_42_method_149_code_45) (by decide) (by decide) (by decide) (by decide) ?_
  intro v219 T219 L219 X219 hQ219
  obtain ⟨rfl, N219, e219⟩ := hQ219
  show OGo p e below (T219.setTop (mkF m 48 #[.val (.ref a), .val (.ref ca), .val (.int (0 : Int32)), .val (.int (1 : Int32)), .val .null, .val (.ref u)] [(.int (1 : Int32)), (.ref a)])) _
  have Nc219 := Fr.app Nc218 N219
  have fc220 := (Fc.ext Xe218)
  have fc221 := (E1.ext Xe218)
  obtain ⟨T222, h222, X222, e222, W222, st222⟩ := putFN X219 hx hZ hown (hw _ (List.mem_of_getElem? (i := 27) rfl)) Via.refl e219 fc220 fc221 (Or.inr ⟨(hw _ (List.mem_of_getElem? (i := 23) rfl)), rfl, hnm⟩) (hw _ (List.mem_of_getElem? (i := 7) rfl)) (ty := .byte) (v' := (.int (1 : Int32))) (by decide) rfl rfl (g := (mkF m 48 #[.val (.ref a), .val (.ref ca), .val (.int (0 : Int32)), .val (.int (1 : Int32)), .val .null, .val (.ref u)] [(.int (1 : Int32)), (.ref a)])) rfl rfl (hb hby own_d_jdk_42_method_149_code_48)
  refine OGo.step st222 ?_
  show OGo p e below (T222.setTop (mkF m 51 #[.val (.ref a), .val (.ref ca), .val (.int (0 : Int32)), .val (.int (1 : Int32)), .val .null, .val (.ref u)] [])) _
  have Fw222 := fc220.same W222
  have Nf222 := Fr.snoc X222 Nc219 ga
  have sz222 : n0 ≤ h222.size := by rw [W222.size]; exact sz218
  refine OGo.step (fun _ kk => XS.aloadN X222.here hx rfl (hb hby own_d_jdk_42_method_149_code_51) rfl rfl kk) ?_
  show OGo p e below (T222.setTop (mkF m 52 #[.val (.ref a), .val (.ref ca), .val (.int (0 : Int32)), .val (.int (1 : Int32)), .val .null, .val (.ref u)] [(.ref a)])) _
  refine OGo.step (fun _ kk => XS.aload X222.here hx rfl (hb hby own_d_jdk_42_method_149_code_52) rfl rfl kk) ?_
  show OGo p e below (T222.setTop (mkF m 54 #[.val (.ref a), .val (.ref ca), .val (.int (0 : Int32)), .val (.int (1 : Int32)), .val .null, .val (.ref u)] [(.ref u), (.ref a)])) _
  have fc223 := ((Fv.ext Xe218).other W222 (Or.inr (slot_ne (Or.inr (hw _ (List.mem_of_getElem? (i := 22) rfl))) (Or.inr (hw _ (List.mem_of_getElem? (i := 23) rfl))) (by decide) (t := (.array .byte)) (t' := .byte) (by decide) (by decide))))
  have fc224 := (fc221.wr W222)
  obtain ⟨T225, h225, X225, e225, W225, st225⟩ := putF X222 hx hZ hown (host := "") (Or.inl (hw _ (List.mem_of_getElem? (i := 26) rfl))) Via.refl e222 fc223 fc224 (Or.inr ⟨(hw _ (List.mem_of_getElem? (i := 22) rfl)), rfl, hnm⟩) (hw _ (List.mem_of_getElem? (i := 7) rfl)) (ty := (.array .byte)) (by decide) rfl rfl (g := (mkF m 54 #[.val (.ref a), .val (.ref ca), .val (.int (0 : Int32)), .val (.int (1 : Int32)), .val .null, .val (.ref u)] [(.ref u), (.ref a)])) rfl rfl (hb hby own_d_jdk_42_method_149_code_54)
  refine OGo.step st225 ?_
  show OGo p e below (T225.setTop (mkF m 57 #[.val (.ref a), .val (.ref ca), .val (.int (0 : Int32)), .val (.int (1 : Int32)), .val .null, .val (.ref u)] [])) _
  have Fw225 := fc223.same W225
  have Nf225 := Fr.snoc X225 Nf222 ga
  have sz225 : n0 ≤ h225.size := by rw [W225.size]; exact sz222
  have fc226 := (fc224.wr W225)
  have fc227 := (Fw222.other W225 (Or.inr (slot_ne (Or.inr (hw _ (List.mem_of_getElem? (i := 23) rfl))) (Or.inr (hw _ (List.mem_of_getElem? (i := 22) rfl))) (by decide) (t := .byte) (t' := (.array .byte)) (by decide) (by decide))))
  have fc228 := ((Vu.other W222 (Ne.symm nau)).other W225 (Ne.symm nau))
  have HO : OStr Z h225 a [c0_] := ⟨u, kb, 1, (2 : Int32), _, fc226, Fw225, fc227, fc228, Or.inr ⟨rfl, rfl, rfl, own_ex1 hex⟩, (own_allS hb0 own_all0), Nat.le_of_ble_eq_true rfl⟩
  have HK := ((((Keep.refl h0 [a]).ext Xe218).wr W222 (Or.inl (List.mem_of_getElem? (i := 0) rfl))).wr W225 (Or.inl (List.mem_of_getElem? (i := 0) rfl)))
  exact own_ret0 X225 hx hlk hret (hb hby own_d_jdk_42_method_149_code_57) (by rw [e225]; exact ⟨rfl, Nf225, HK, HO⟩) (by decide) (by decide)

set_option maxRecDepth 65536 in
set_option maxHeartbeats 40000000 in
theorem own_new1U1 (l : Launch) (Z : State) (a0 : Array Value) (hw : ∀ d ∈ tables_1, d.before a0 Z = true) (ws : List Jvm.Cond) (a ca : Addr) (kc : ClassId) (c0_ : Int32) (zc : Int32) (h0 : Heap) (n0 : Nat) (Z0 : n0 ≤ h0.size) (SC : Sta Z h0 "java/lang/String" "COMPACT_STRINGS" "Z" (.int zc)) (hzc : ¬ zc = 0) (SA : Sta Z h0 "java/lang/StringUTF16" "$assertionsDisabled" "Z" (.int (1 : Int32))) (SH : Sta Z h0 "java/lang/StringUTF16" "HI_BYTE_SHIFT" "I" (.int (0 : Int32))) (SL : Sta Z h0 "java/lang/StringUTF16" "LO_BYTE_SHIFT" "I" (.int (8 : Int32))) (E1 : Exa Z h0 a "java/lang/String") (Fv : Fld Z h0 a "java/lang/String" "value" "[B" .null) (Fc : Fld Z h0 a "java/lang/String" "coder" "B" (.int (0 : Int32))) (ga : n0 ≤ a) (Vc : Arv Z h0 ca kc .char (1 : Int32) [(.int c0_)] (.int (0 : Int32))) (hb0 : ¬ c0_ < 0 ∧ ¬ (65535 : Int32) < c0_) (hex : (255 : Int32) < c0_) :
    OMet l Z (⟨"java/lang/String", "<init>", "([C)V"⟩ : MethodName) jdk_42_method_3_code 2 none ws ({ frames := 5, cells := 2, slots := 3, locals := 74 } : Room) #[(.ref a), (.ref ca)] h0 (fun v h L => v = none ∧ Fr n0 L ∧ Keep h0 h [a] ∧ OStr Z h a [c0_]) := by
  refine OMet.body (plainFor_of_name own_pn3) ?_
  intro p e s m below meth c s₁ hx hby hml hown hnm hret hlk hZ X0 e0
  refine OGo.step (fun _ kk => castTop (show entryFrame m #[(.ref a), (.ref ca)] 2 = (mkF m 0 #[.val (.ref a), .val (.ref ca)] []) from by first | (simp [entryFrame, mkF, argsToLocals, Value.category]; done) | rfl) kk) ?_
  show OGo p e below (s₁.setTop (mkF m 0 #[.val (.ref a), .val (.ref ca)] [])) _
  obtain ⟨cb, Ab, qb, Sb, Mb, Hb, Gb⟩ := id Vc
  refine OGo.step (fun _ kk => XS.aloadN X0.here hx rfl (hb hby own_d_jdk_42_method_3_code_0) rfl rfl kk) ?_
  show OGo p e below (s₁.setTop (mkF m 1 #[.val (.ref a), .val (.ref ca)] [(.ref a)])) _
  refine OGo.step (fun _ kk => XS.aloadN X0.here hx rfl (hb hby own_d_jdk_42_method_3_code_1) rfl rfl kk) ?_
  show OGo p e below (s₁.setTop (mkF m 2 #[.val (.ref a), .val (.ref ca)] [(.ref ca), (.ref a)])) _
  refine OGo.step (fun _ kk => XS.iconst X0.here hx rfl (hb hby own_d_jdk_42_method_3_code_2) kk) ?_
  show OGo p e below (s₁.setTop (mkF m 3 #[.val (.ref a), .val (.ref ca)] [(.int (0 : Int32)), (.ref ca), (.ref a)])) _
  refine OGo.step (fun _ kk => XS.aloadN X0.here hx rfl (hb hby own_d_jdk_42_method_3_code_3) rfl rfl kk) ?_
  show OGo p e below (s₁.setTop (mkF m 4 #[.val (.ref a), .val (.ref ca)] [(.ref ca), (.int (0 : Int32)), (.ref ca), (.ref a)])) _
  refine OGo.step (fun _ kk => X0.arraylength hx (by rw [e0]; exact (Ab).1) (State.isArrayOf_alike hZ.alike (Ab).2.1) (g := (mkF m 4 #[.val (.ref a), .val (.ref ca)] [(.ref ca), (.int (0 : Int32)), (.ref ca), (.ref a)])) rfl rfl (hb hby own_d_jdk_42_method_3_code_4) _ kk) ?_
  rw [len_of Sb Mb]
  show OGo p e below (s₁.setTop (mkF m 5 #[.val (.ref a), .val (.ref ca)] [(.int (1 : Int32)), (.int (0 : Int32)), (.ref ca), (.ref a)])) _
  refine OGo.step (fun _ kk => XS.aconstNull X0.here hx rfl (hb hby own_d_jdk_42_method_3_code_5) kk) ?_
  show OGo p e below (s₁.setTop (mkF m 6 #[.val (.ref a), .val (.ref ca)] [.null, (.int (1 : Int32)), (.int (0 : Int32)), (.ref ca), (.ref a)])) _
  refine own_special X0 hx hZ (y := (⟨"java/lang/String", "<init>", "([CIILjava/lang/Void;)V"⟩ : MethodName)) rfl hown (hw _ (List.mem_of_getElem? (i := 13) rfl)) (hw _ (List.mem_of_getElem? (i := 14) rfl)) (hw _ (List.mem_of_getElem? (i := 16) rfl)) (hw _ (List.mem_of_getElem? (i := 8) rfl)) (by decide) (a := a) (W := 0) (own_new4U1 l Z a0 hw [] a ca kc c0_ zc h0 n0 Z0 SC hzc SA SH SL E1 Fv Fc ga Vc hb0 hex) e0  (pc := 6) (Ls := #[.val (.ref a), .val (.ref ca)]) (argsL := [(.ref ca), (.int (0 : Int32)), (.int (1 : Int32)), .null]) (rest := []) (by rw [hml]; rfl) (lenOf own_pd10 rfl) rfl (hb hby own_d_jdk_42_method_3_code_6) (by decide) (by decide) (by decide) (by decide) ?_
  intro v229 T229 L229 X229 hQ229
  obtain ⟨rfl, N229, K229, O229⟩ := hQ229
  show OGo p e below (T229.setTop (mkF m 9 #[.val (.ref a), .val (.ref ca)] [])) _
  exact own_ret0 X229 hx hlk hret (hb hby own_d_jdk_42_method_3_code_9) ⟨rfl, Fr.app (Fr.nil n0) N229, K229, O229⟩ (by decide) (by decide)

set_option maxRecDepth 65536 in
set_option maxHeartbeats 40000000 in
theorem own_nbl2 (l : Launch) (Z : State) (a0 : Array Value) (hw : ∀ d ∈ tables_1, d.before a0 Z = true) (ws : List Jvm.Cond)  (h0 : Heap) (n0 : Nat) (Z0 : n0 ≤ h0.size)  :
    OMet l Z (⟨"java/lang/StringUTF16", "newBytesLength", "(I)I"⟩ : MethodName) jdk_52_method_3_code 1 (some .int) ws ({ frames := 0, cells := 0, slots := 0, locals := 0 } : Room) #[(.int (2 : Int32))] h0 (fun v h L => v = some (.int (4 : Int32)) ∧ Fr n0 L ∧ h = h0) := by
  refine OMet.body (plainFor_of_name own_pn4) ?_
  intro p e s m below meth c s₁ hx hby hml hown hnm hret hlk hZ X0 e0
  refine OGo.step (fun _ kk => castTop (show entryFrame m #[(.int (2 : Int32))] 1 = (mkF m 0 #[.val (.int (2 : Int32))] []) from by first | (simp [entryFrame, mkF, argsToLocals, Value.category]; done) | rfl) kk) ?_
  show OGo p e below (s₁.setTop (mkF m 0 #[.val (.int (2 : Int32))] [])) _
  refine OGo.step (fun _ kk => XS.iloadN X0.here hx rfl (hb hby own_d_jdk_52_method_3_code_0) rfl kk) ?_
  show OGo p e below (s₁.setTop (mkF m 1 #[.val (.int (2 : Int32))] [(.int (2 : Int32))])) _
  refine OGo.step (fun _ kk => XS.ifYes X0.here hx rfl (pc0 := 1) (pc' := 12) rfl (hb hby own_d_jdk_52_method_3_code_1) rfl ((if0 _ _).trans (flt (by decide)).2.1) (by decide) (by decide) kk) ?_
  show OGo p e below (s₁.setTop (mkF m 12 #[.val (.int (2 : Int32))] [])) _
  refine OGo.step (fun _ kk => XS.iloadN X0.here hx rfl (hb hby own_d_jdk_52_method_3_code_12) rfl kk) ?_
  show OGo p e below (s₁.setTop (mkF m 13 #[.val (.int (2 : Int32))] [(.int (2 : Int32))])) _
  refine OGo.step (fun _ kk => X0.ldcInt hx hown (mvT hZ (hw _ (List.mem_of_getElem? (i := 117) rfl))) (g := (mkF m 13 #[.val (.int (2 : Int32))] [(.int (2 : Int32))])) rfl (hb hby own_d_jdk_52_method_3_code_13) _ kk) ?_
  show OGo p e below (s₁.setTop (mkF m 15 #[.val (.int (2 : Int32))] [(.int (1073741823 : Int32)), (.int (2 : Int32))])) _
  refine OGo.step (fun _ kk => XS.icmpYes X0.here hx rfl (pc0 := 15) (pc' := 55) rfl (hb hby own_d_jdk_52_method_3_code_15) rfl (tlt (by decide)).1 (by decide) (by decide) kk) ?_
  show OGo p e below (s₁.setTop (mkF m 55 #[.val (.int (2 : Int32))] [])) _
  refine OGo.step (fun _ kk => XS.iloadN X0.here hx rfl (hb hby own_d_jdk_52_method_3_code_55) rfl kk) ?_
  show OGo p e below (s₁.setTop (mkF m 56 #[.val (.int (2 : Int32))] [(.int (2 : Int32))])) _
  refine OGo.step (fun _ kk => XS.iconst X0.here hx rfl (hb hby own_d_jdk_52_method_3_code_56) kk) ?_
  show OGo p e below (s₁.setTop (mkF m 57 #[.val (.int (2 : Int32))] [(.int (1 : Int32)), (.int (2 : Int32))])) _
  refine OGo.step (fun _ kk => XS.ishl X0.here hx rfl (hb hby own_d_jdk_52_method_3_code_57) rfl kk) ?_
  show OGo p e below (s₁.setTop (mkF m 58 #[.val (.int (2 : Int32))] [(.int ((2 : Int32) <<< ((1 : Int32) &&& 31)))])) _
  exact own_ret X0 hx hlk hret rfl (Or.inl ⟨rfl, Or.inl rfl, _, rfl⟩) (hb hby own_d_jdk_52_method_3_code_58) ⟨rfl, Fr.nil n0, e0⟩ (by decide) (by decide)

set_option maxRecDepth 65536 in
set_option maxHeartbeats 40000000 in
theorem own_nbf2 (l : Launch) (Z : State) (a0 : Array Value) (hw : ∀ d ∈ tables_1, d.before a0 Z = true) (ws : List Jvm.Cond)  (h0 : Heap) (n0 : Nat) (Z0 : n0 ≤ h0.size)  :
    OMet l Z (⟨"java/lang/StringUTF16", "newBytesFor", "(I)[B"⟩ : MethodName) jdk_52_method_2_code 1 (some (.array .byte)) ws ({ frames := 1, cells := 1, slots := 4, locals := 12 } : Room) #[(.int (2 : Int32))] h0 (fun v h L => ∃ (u : Addr) (kb : ClassId), v = some (.ref u) ∧ Fr n0 L ∧ Ext h0 h ∧ h0.size ≤ u ∧ Arv Z h u kb .byte (4 : Int32) [(.int (0 : Int32)), (.int (0 : Int32)), (.int (0 : Int32)), (.int (0 : Int32))] (.int (0 : Int32))) := by
  refine OMet.body (plainFor_of_name own_pn4) ?_
  intro p e s m below meth c s₁ hx hby hml hown hnm hret hlk hZ X0 e0
  refine OGo.step (fun _ kk => castTop (show entryFrame m #[(.int (2 : Int32))] 1 = (mkF m 0 #[.val (.int (2 : Int32))] []) from by first | (simp [entryFrame, mkF, argsToLocals, Value.category]; done) | rfl) kk) ?_
  show OGo p e below (s₁.setTop (mkF m 0 #[.val (.int (2 : Int32))] [])) _
  refine OGo.step (fun _ kk => XS.iloadN X0.here hx rfl (hb hby own_d_jdk_52_method_2_code_0) rfl kk) ?_
  show OGo p e below (s₁.setTop (mkF m 1 #[.val (.int (2 : Int32))] [(.int (2 : Int32))])) _
  refine own_callS X0 hx hZ (y := (⟨"java/lang/StringUTF16", "newBytesLength", "(I)I"⟩ : MethodName)) hown (hw _ (List.mem_of_getElem? (i := 114) rfl)) (hw _ (List.mem_of_getElem? (i := 115) rfl)) (hw _ (List.mem_of_getElem? (i := 82) rfl)) (hw _ (List.mem_of_getElem? (i := 116) rfl)) (by decide) (W := 0) (own_nbl2 l Z a0 hw [] h0 n0 Z0) e0  (pc := 1) (Ls := #[.val (.int (2 : Int32))]) (argsL := [(.int (2 : Int32))]) (rest := []) (by rw [hml]; rfl) (lenOf own_pd11 rfl) rfl (hb hby own_d_jdk_52_method_2_code_1) (by decide) (by decide) (by decide) (by decide) ?_
  intro v230 T230 L230 X230 hQ230
  obtain ⟨rfl, N230, e230⟩ := hQ230
  show OGo p e below (T230.setTop (mkF m 4 #[.val (.int (2 : Int32))] [(.int (4 : Int32))])) _
  have Nc230 := Fr.app (Fr.nil n0) N230
  obtain ⟨T231, h231, k231, X231, e231, E231, A231, st231⟩ := newP X230 hx hZ (hw _ (List.mem_of_getElem? (i := 21) rfl)) e230 (g := (mkF m 4 #[.val (.int (2 : Int32))] [(.int (4 : Int32))])) rfl (hb hby own_d_jdk_52_method_2_code_4) rfl (by decide) (cap := 4) (by decide) (by decide) (by decide) (by decide)
  obtain ⟨u, g231⟩ : ∃ z, z = h0.size := ⟨_, rfl⟩
  rw [← g231] at A231 st231
  refine OGo.step st231 ?_
  show OGo p e below (T231.setTop (mkF m 6 #[.val (.int (2 : Int32))] [(.ref u)])) _
  have gf_u : n0 ≤ u := Nat.le_trans Z0 (Nat.le_of_eq g231.symm)
  have sz231 : n0 ≤ h231.size := Nat.le_trans Z0 E231.1
  have Va : Arv Z h231 u k231 .byte (4 : Int32) [(.int (0 : Int32)), (.int (0 : Int32)), (.int (0 : Int32)), (.int (0 : Int32))] (.int (0 : Int32)) := (Arv.new A231 (by decide)).pad (pad_rep [] (.int (0 : Int32)) 4)
  exact own_ret X231 hx hlk hret rfl (Or.inr (Or.inr (Or.inr (Or.inr ⟨rfl, rfl, rfl⟩)))) (hb hby own_d_jdk_52_method_2_code_6) (by rw [e231]; exact ⟨u, _, rfl, Nc230, E231, (Nat.le_of_eq g231.symm), Va⟩) (by decide) (by decide)

set_option maxRecDepth 65536 in
set_option maxHeartbeats 40000000 in
theorem own_toB2 (l : Launch) (Z : State) (a0 : Array Value) (hw : ∀ d ∈ tables_1, d.before a0 Z = true) (ws : List Jvm.Cond) (ca : Addr) (kc : ClassId) (c0_ c1_ : Int32) (h0 : Heap) (n0 : Nat) (Z0 : n0 ≤ h0.size) (SA : Sta Z h0 "java/lang/StringUTF16" "$assertionsDisabled" "Z" (.int (1 : Int32))) (SH : Sta Z h0 "java/lang/StringUTF16" "HI_BYTE_SHIFT" "I" (.int (0 : Int32))) (SL : Sta Z h0 "java/lang/StringUTF16" "LO_BYTE_SHIFT" "I" (.int (8 : Int32))) (Vc : Arv Z h0 ca kc .char (2 : Int32) [(.int c0_), (.int c1_)] (.int (0 : Int32))) :
    OMet l Z (⟨"java/lang/StringUTF16", "toBytes", "([CII)[B"⟩ : MethodName) jdk_52_method_14_code 5 (some (.array .byte)) ws ({ frames := 2, cells := 1, slots := 4, locals := 24 } : Room) #[(.ref ca), (.int (0 : Int32)), (.int (2 : Int32))] h0 (fun v h L => ∃ (u : Addr) (kb : ClassId), v = some (.ref u) ∧ Fr n0 L ∧ Ext h0 h ∧ h0.size ≤ u ∧ Arv Z h u kb .byte (4 : Int32) (StrChars.Road.wideBytes [c0_, c1_]) (.int (0 : Int32))) := by
  refine OMet.body (plainFor_of_name own_pn4) ?_
  intro p e s m below meth c s₁ hx hby hml hown hnm hret hlk hZ X0 e0
  refine OGo.step (fun _ kk => castTop (show entryFrame m #[(.ref ca), (.int (0 : Int32)), (.int (2 : Int32))] 5 = (mkF m 0 #[.val (.ref ca), .val (.int (0 : Int32)), .val (.int (2 : Int32)), .unset, .unset] []) from by first | (simp [entryFrame, mkF, argsToLocals, Value.category]; done) | rfl) kk) ?_
  show OGo p e below (s₁.setTop (mkF m 0 #[.val (.ref ca), .val (.int (0 : Int32)), .val (.int (2 : Int32)), .unset, .unset] [])) _
  refine OGo.step (fun _ kk => XS.iloadN X0.here hx rfl (hb hby own_d_jdk_52_method_14_code_0) rfl kk) ?_
  show OGo p e below (s₁.setTop (mkF m 1 #[.val (.ref ca), .val (.int (0 : Int32)), .val (.int (2 : Int32)), .unset, .unset] [(.int (2 : Int32))])) _
  refine own_callS X0 hx hZ (y := (⟨"java/lang/StringUTF16", "newBytesFor", "(I)[B"⟩ : MethodName)) hown (hw _ (List.mem_of_getElem? (i := 111) rfl)) (hw _ (List.mem_of_getElem? (i := 112) rfl)) (hw _ (List.mem_of_getElem? (i := 82) rfl)) (hw _ (List.mem_of_getElem? (i := 113) rfl)) (by decide) (W := 0) (own_nbf2 l Z a0 hw [] h0 n0 Z0) e0  (pc := 1) (Ls := #[.val (.ref ca), .val (.int (0 : Int32)), .val (.int (2 : Int32)), .unset, .unset]) (argsL := [(.int (2 : Int32))]) (rest := []) (by rw [hml]; rfl) (lenOf own_pd12 rfl) rfl (hb hby own_d_jdk_52_method_14_code_1) (by decide) (by decide) (by decide) (by decide) ?_
  intro v232 T232 L232 X232 hQ232
  obtain ⟨u, kb, rfl, N232, Xe232, gu, Vu⟩ := hQ232
  show OGo p e below (T232.setTop (mkF m 4 #[.val (.ref ca), .val (.int (0 : Int32)), .val (.int (2 : Int32)), .unset, .unset] [(.ref u)])) _
  have ncu : ca ≠ u := Nat.ne_of_lt (Nat.lt_of_lt_of_le Vc.lt gu)
  have Nc232 := Fr.app (Fr.nil n0) N232
  have sz232 : n0 ≤ T232.heap.size := Nat.le_trans Z0 Xe232.1
  have gfu : n0 ≤ u := Nat.le_trans Z0 gu
  refine OGo.step (fun _ kk => XS.astoreN X232.here hx rfl (hb hby own_d_jdk_52_method_14_code_4) rfl rfl (l' := #[.val (.ref ca), .val (.int (0 : Int32)), .val (.int (2 : Int32)), .val (.ref u), .unset]) rfl kk) ?_
  show OGo p e below (T232.setTop (mkF m 5 #[.val (.ref ca), .val (.int (0 : Int32)), .val (.int (2 : Int32)), .val (.ref u), .unset] [])) _
  refine OGo.step (fun _ kk => XS.iconst X232.here hx rfl (hb hby own_d_jdk_52_method_14_code_5) kk) ?_
  show OGo p e below (T232.setTop (mkF m 6 #[.val (.ref ca), .val (.int (0 : Int32)), .val (.int (2 : Int32)), .val (.ref u), .unset] [(.int (0 : Int32))])) _
  refine OGo.step (fun _ kk => XS.istore X232.here hx rfl (hb hby own_d_jdk_52_method_14_code_6) rfl (l' := #[.val (.ref ca), .val (.int (0 : Int32)), .val (.int (2 : Int32)), .val (.ref u), .val (.int (0 : Int32))]) rfl kk) ?_
  show OGo p e below (T232.setTop (mkF m 8 #[.val (.ref ca), .val (.int (0 : Int32)), .val (.int (2 : Int32)), .val (.ref u), .val (.int (0 : Int32))] [])) _
  show OGo p e below (T232.setTop (mkF m 8 #[.val (.ref ca), .val (.int (0 : Int32)), .val (.int (2 : Int32)), .val (.ref u), .val (.int (0 : Int32))] [])) _
  refine OGo.step (fun _ kk => XS.iload X232.here hx rfl (hb hby own_d_jdk_52_method_14_code_8) rfl kk) ?_
  show OGo p e below (T232.setTop (mkF m 10 #[.val (.ref ca), .val (.int (0 : Int32)), .val (.int (2 : Int32)), .val (.ref u), .val (.int (0 : Int32))] [(.int (0 : Int32))])) _
  refine OGo.step (fun _ kk => XS.iloadN X232.here hx rfl (hb hby own_d_jdk_52_method_14_code_10) rfl kk) ?_
  show OGo p e below (T232.setTop (mkF m 11 #[.val (.ref ca), .val (.int (0 : Int32)), .val (.int (2 : Int32)), .val (.ref u), .val (.int (0 : Int32))] [(.int (2 : Int32)), (.int (0 : Int32))])) _
  refine OGo.step (fun _ kk => XS.icmpNo X232.here hx rfl (hb hby own_d_jdk_52_method_14_code_11) rfl (tlt (by decide)).2.1 kk) ?_
  show OGo p e below (T232.setTop (mkF m 14 #[.val (.ref ca), .val (.int (0 : Int32)), .val (.int (2 : Int32)), .val (.ref u), .val (.int (0 : Int32))] [])) _
  refine OGo.step (fun _ kk => XS.aloadN X232.here hx rfl (hb hby own_d_jdk_52_method_14_code_14) rfl rfl kk) ?_
  show OGo p e below (T232.setTop (mkF m 15 #[.val (.ref ca), .val (.int (0 : Int32)), .val (.int (2 : Int32)), .val (.ref u), .val (.int (0 : Int32))] [(.ref u)])) _
  refine OGo.step (fun _ kk => XS.iload X232.here hx rfl (hb hby own_d_jdk_52_method_14_code_15) rfl kk) ?_
  show OGo p e below (T232.setTop (mkF m 17 #[.val (.ref ca), .val (.int (0 : Int32)), .val (.int (2 : Int32)), .val (.ref u), .val (.int (0 : Int32))] [(.int (0 : Int32)), (.ref u)])) _
  refine OGo.step (fun _ kk => XS.aloadN X232.here hx rfl (hb hby own_d_jdk_52_method_14_code_17) rfl rfl kk) ?_
  show OGo p e below (T232.setTop (mkF m 18 #[.val (.ref ca), .val (.int (0 : Int32)), .val (.int (2 : Int32)), .val (.ref u), .val (.int (0 : Int32))] [(.ref ca), (.int (0 : Int32)), (.ref u)])) _
  refine OGo.step (fun _ kk => XS.iloadN X232.here hx rfl (hb hby own_d_jdk_52_method_14_code_18) rfl kk) ?_
  show OGo p e below (T232.setTop (mkF m 19 #[.val (.ref ca), .val (.int (0 : Int32)), .val (.int (2 : Int32)), .val (.ref u), .val (.int (0 : Int32))] [(.int (0 : Int32)), (.ref ca), (.int (0 : Int32)), (.ref u)])) _
  have fc233 := (Vc.ext Xe232)
  obtain ⟨cA234, A234, q234, S234, M234, H234, G234⟩ := id fc233
  refine OGo.step (fun _ kk => X232.caload hx (j := (0 : Int32)) (v := (.int c0_)) (A234).1 (State.isArrayOf_alike hZ.alike (A234).2.1) (A234).2.2 (inb_of S234 ⟨by decide, by decide⟩) (H234 0 (by rw [S234]; decide)) (g := (mkF m 19 #[.val (.ref ca), .val (.int (0 : Int32)), .val (.int (2 : Int32)), .val (.ref u), .val (.int (0 : Int32))] [(.int (0 : Int32)), (.ref ca), (.int (0 : Int32)), (.ref u)])) rfl rfl (hb hby own_d_jdk_52_method_14_code_19) _ kk) ?_
  show OGo p e below (T232.setTop (mkF m 20 #[.val (.ref ca), .val (.int (0 : Int32)), .val (.int (2 : Int32)), .val (.ref u), .val (.int (0 : Int32))] [(.int c0_), (.int (0 : Int32)), (.ref u)])) _
  have fx235 := SA.ext Xe232
  have fx236 := SH.ext Xe232
  have fx237 := SL.ext Xe232
  refine own_callS X232 hx hZ (y := (⟨"java/lang/StringUTF16", "putChar", "([BII)V"⟩ : MethodName)) hown (hw _ (List.mem_of_getElem? (i := 99) rfl)) (hw _ (List.mem_of_getElem? (i := 100) rfl)) (hw _ (List.mem_of_getElem? (i := 82) rfl)) (hw _ (List.mem_of_getElem? (i := 101) rfl)) (by decide) (W := 0) (own_putc0 l Z a0 hw [] u kb _ [(.int (0 : Int32)), (.int (0 : Int32)), (.int (0 : Int32)), (.int (0 : Int32))] c0_ T232.heap n0 sz232 fx235 fx236 fx237 gfu Vu (Nat.le_of_ble_eq_true rfl) (by decide) (by decide)) rfl  (pc := 20) (Ls := #[.val (.ref ca), .val (.int (0 : Int32)), .val (.int (2 : Int32)), .val (.ref u), .val (.int (0 : Int32))]) (argsL := [(.ref u), (.int (0 : Int32)), (.int c0_)]) (rest := []) (by rw [hml]; rfl) (lenOf own_pd13 rfl) rfl (hb hby own_d_jdk_52_method_14_code_20) (by decide) (by decide) (by decide) (by decide) ?_
  intro v238 T238 L238 X238 hQ238
  obtain ⟨rfl, N238, K238, Va238⟩ := hQ238
  show OGo p e below (T238.setTop (mkF m 23 #[.val (.ref ca), .val (.int (0 : Int32)), .val (.int (2 : Int32)), .val (.ref u), .val (.int (0 : Int32))] [])) _
  have Nc238 := Fr.app Nc232 N238
  have sz238 : n0 ≤ T238.heap.size := Nat.le_trans sz232 K238.1
  refine OGo.step (fun _ kk => XS.iinc X238.here hx rfl (hb hby own_d_jdk_52_method_14_code_23) rfl (l' := #[.val (.ref ca), .val (.int ((0 : Int32) + (1 : Int32))), .val (.int (2 : Int32)), .val (.ref u), .val (.int (0 : Int32))]) rfl kk) ?_
  show OGo p e below (T238.setTop (mkF m 26 #[.val (.ref ca), .val (.int ((0 : Int32) + (1 : Int32))), .val (.int (2 : Int32)), .val (.ref u), .val (.int (0 : Int32))] [])) _
  refine OGo.step (fun _ kk => XS.iinc X238.here hx rfl (hb hby own_d_jdk_52_method_14_code_26) rfl (l' := #[.val (.ref ca), .val (.int ((0 : Int32) + (1 : Int32))), .val (.int (2 : Int32)), .val (.ref u), .val (.int ((0 : Int32) + (1 : Int32)))]) rfl kk) ?_
  show OGo p e below (T238.setTop (mkF m 29 #[.val (.ref ca), .val (.int ((0 : Int32) + (1 : Int32))), .val (.int (2 : Int32)), .val (.ref u), .val (.int ((0 : Int32) + (1 : Int32)))] [])) _
  refine OGo.step (fun _ kk => XS.goto X238.here hx rfl (pc0 := 29) (pc' := 8) rfl (hb hby own_d_jdk_52_method_14_code_29) (by decide) (by decide) kk) ?_
  show OGo p e below (T238.setTop (mkF m 8 #[.val (.ref ca), .val (.int ((0 : Int32) + (1 : Int32))), .val (.int (2 : Int32)), .val (.ref u), .val (.int ((0 : Int32) + (1 : Int32)))] [])) _
  show OGo p e below (T238.setTop (mkF m 8 #[.val (.ref ca), .val (.int (1 : Int32)), .val (.int (2 : Int32)), .val (.ref u), .val (.int (1 : Int32))] [])) _
  refine OGo.step (fun _ kk => XS.iload X238.here hx rfl (hb hby own_d_jdk_52_method_14_code_8) rfl kk) ?_
  show OGo p e below (T238.setTop (mkF m 10 #[.val (.ref ca), .val (.int (1 : Int32)), .val (.int (2 : Int32)), .val (.ref u), .val (.int (1 : Int32))] [(.int (1 : Int32))])) _
  refine OGo.step (fun _ kk => XS.iloadN X238.here hx rfl (hb hby own_d_jdk_52_method_14_code_10) rfl kk) ?_
  show OGo p e below (T238.setTop (mkF m 11 #[.val (.ref ca), .val (.int (1 : Int32)), .val (.int (2 : Int32)), .val (.ref u), .val (.int (1 : Int32))] [(.int (2 : Int32)), (.int (1 : Int32))])) _
  refine OGo.step (fun _ kk => XS.icmpNo X238.here hx rfl (hb hby own_d_jdk_52_method_14_code_11) rfl (tlt (by decide)).2.1 kk) ?_
  show OGo p e below (T238.setTop (mkF m 14 #[.val (.ref ca), .val (.int (1 : Int32)), .val (.int (2 : Int32)), .val (.ref u), .val (.int (1 : Int32))] [])) _
  refine OGo.step (fun _ kk => XS.aloadN X238.here hx rfl (hb hby own_d_jdk_52_method_14_code_14) rfl rfl kk) ?_
  show OGo p e below (T238.setTop (mkF m 15 #[.val (.ref ca), .val (.int (1 : Int32)), .val (.int (2 : Int32)), .val (.ref u), .val (.int (1 : Int32))] [(.ref u)])) _
  refine OGo.step (fun _ kk => XS.iload X238.here hx rfl (hb hby own_d_jdk_52_method_14_code_15) rfl kk) ?_
  show OGo p e below (T238.setTop (mkF m 17 #[.val (.ref ca), .val (.int (1 : Int32)), .val (.int (2 : Int32)), .val (.ref u), .val (.int (1 : Int32))] [(.int (1 : Int32)), (.ref u)])) _
  refine OGo.step (fun _ kk => XS.aloadN X238.here hx rfl (hb hby own_d_jdk_52_method_14_code_17) rfl rfl kk) ?_
  show OGo p e below (T238.setTop (mkF m 18 #[.val (.ref ca), .val (.int (1 : Int32)), .val (.int (2 : Int32)), .val (.ref u), .val (.int (1 : Int32))] [(.ref ca), (.int (1 : Int32)), (.ref u)])) _
  refine OGo.step (fun _ kk => XS.iloadN X238.here hx rfl (hb hby own_d_jdk_52_method_14_code_18) rfl kk) ?_
  show OGo p e below (T238.setTop (mkF m 19 #[.val (.ref ca), .val (.int (1 : Int32)), .val (.int (2 : Int32)), .val (.ref u), .val (.int (1 : Int32))] [(.int (1 : Int32)), (.ref ca), (.int (1 : Int32)), (.ref u)])) _
  have fc239 := (fc233.keep K238 (ninS ncu nin0))
  obtain ⟨cA240, A240, q240, S240, M240, H240, G240⟩ := id fc239
  refine OGo.step (fun _ kk => X238.caload hx (j := (1 : Int32)) (v := (.int c1_)) (A240).1 (State.isArrayOf_alike hZ.alike (A240).2.1) (A240).2.2 (inb_of S240 ⟨by decide, by decide⟩) (H240 1 (by rw [S240]; decide)) (g := (mkF m 19 #[.val (.ref ca), .val (.int (1 : Int32)), .val (.int (2 : Int32)), .val (.ref u), .val (.int (1 : Int32))] [(.int (1 : Int32)), (.ref ca), (.int (1 : Int32)), (.ref u)])) rfl rfl (hb hby own_d_jdk_52_method_14_code_19) _ kk) ?_
  show OGo p e below (T238.setTop (mkF m 20 #[.val (.ref ca), .val (.int (1 : Int32)), .val (.int (2 : Int32)), .val (.ref u), .val (.int (1 : Int32))] [(.int c1_), (.int (1 : Int32)), (.ref u)])) _
  have xt241 := (own_ext_keep Xe232 K238 (allS gu all0))
  have fx242 := SA.ext xt241
  have fx243 := SH.ext xt241
  have fx244 := SL.ext xt241
  refine own_callS X238 hx hZ (y := (⟨"java/lang/StringUTF16", "putChar", "([BII)V"⟩ : MethodName)) hown (hw _ (List.mem_of_getElem? (i := 99) rfl)) (hw _ (List.mem_of_getElem? (i := 100) rfl)) (hw _ (List.mem_of_getElem? (i := 82) rfl)) (hw _ (List.mem_of_getElem? (i := 101) rfl)) (by decide) (W := 0) (own_putc1 l Z a0 hw [] u kb _ (([(.int (0 : Int32)), (.int (0 : Int32)), (.int (0 : Int32)), (.int (0 : Int32))].set 0 (.int (StrChars.lo8 c0_))).set 1 (.int (StrChars.hi8 c0_))) c1_ T238.heap n0 sz238 fx242 fx243 fx244 gfu Va238 (Nat.le_of_ble_eq_true rfl) (by decide) (by decide)) rfl  (pc := 20) (Ls := #[.val (.ref ca), .val (.int (1 : Int32)), .val (.int (2 : Int32)), .val (.ref u), .val (.int (1 : Int32))]) (argsL := [(.ref u), (.int (1 : Int32)), (.int c1_)]) (rest := []) (by rw [hml]; rfl) (lenOf own_pd13 rfl) rfl (hb hby own_d_jdk_52_method_14_code_20) (by decide) (by decide) (by decide) (by decide) ?_
  intro v245 T245 L245 X245 hQ245
  obtain ⟨rfl, N245, K245, Va245⟩ := hQ245
  show OGo p e below (T245.setTop (mkF m 23 #[.val (.ref ca), .val (.int (1 : Int32)), .val (.int (2 : Int32)), .val (.ref u), .val (.int (1 : Int32))] [])) _
  have Nc245 := Fr.app Nc238 N245
  have sz245 : n0 ≤ T245.heap.size := Nat.le_trans sz238 K245.1
  refine OGo.step (fun _ kk => XS.iinc X245.here hx rfl (hb hby own_d_jdk_52_method_14_code_23) rfl (l' := #[.val (.ref ca), .val (.int ((1 : Int32) + (1 : Int32))), .val (.int (2 : Int32)), .val (.ref u), .val (.int (1 : Int32))]) rfl kk) ?_
  show OGo p e below (T245.setTop (mkF m 26 #[.val (.ref ca), .val (.int ((1 : Int32) + (1 : Int32))), .val (.int (2 : Int32)), .val (.ref u), .val (.int (1 : Int32))] [])) _
  refine OGo.step (fun _ kk => XS.iinc X245.here hx rfl (hb hby own_d_jdk_52_method_14_code_26) rfl (l' := #[.val (.ref ca), .val (.int ((1 : Int32) + (1 : Int32))), .val (.int (2 : Int32)), .val (.ref u), .val (.int ((1 : Int32) + (1 : Int32)))]) rfl kk) ?_
  show OGo p e below (T245.setTop (mkF m 29 #[.val (.ref ca), .val (.int ((1 : Int32) + (1 : Int32))), .val (.int (2 : Int32)), .val (.ref u), .val (.int ((1 : Int32) + (1 : Int32)))] [])) _
  refine OGo.step (fun _ kk => XS.goto X245.here hx rfl (pc0 := 29) (pc' := 8) rfl (hb hby own_d_jdk_52_method_14_code_29) (by decide) (by decide) kk) ?_
  show OGo p e below (T245.setTop (mkF m 8 #[.val (.ref ca), .val (.int ((1 : Int32) + (1 : Int32))), .val (.int (2 : Int32)), .val (.ref u), .val (.int ((1 : Int32) + (1 : Int32)))] [])) _
  show OGo p e below (T245.setTop (mkF m 8 #[.val (.ref ca), .val (.int (2 : Int32)), .val (.int (2 : Int32)), .val (.ref u), .val (.int (2 : Int32))] [])) _
  refine OGo.step (fun _ kk => XS.iload X245.here hx rfl (hb hby own_d_jdk_52_method_14_code_8) rfl kk) ?_
  show OGo p e below (T245.setTop (mkF m 10 #[.val (.ref ca), .val (.int (2 : Int32)), .val (.int (2 : Int32)), .val (.ref u), .val (.int (2 : Int32))] [(.int (2 : Int32))])) _
  refine OGo.step (fun _ kk => XS.iloadN X245.here hx rfl (hb hby own_d_jdk_52_method_14_code_10) rfl kk) ?_
  show OGo p e below (T245.setTop (mkF m 11 #[.val (.ref ca), .val (.int (2 : Int32)), .val (.int (2 : Int32)), .val (.ref u), .val (.int (2 : Int32))] [(.int (2 : Int32)), (.int (2 : Int32))])) _
  refine OGo.step (fun _ kk => XS.icmpYes X245.here hx rfl (pc0 := 11) (pc' := 32) rfl (hb hby own_d_jdk_52_method_14_code_11) rfl (flt (by decide)).2.1 (by decide) (by decide) kk) ?_
  show OGo p e below (T245.setTop (mkF m 32 #[.val (.ref ca), .val (.int (2 : Int32)), .val (.int (2 : Int32)), .val (.ref u), .val (.int (2 : Int32))] [])) _
  refine OGo.step (fun _ kk => XS.aloadN X245.here hx rfl (hb hby own_d_jdk_52_method_14_code_32) rfl rfl kk) ?_
  show OGo p e below (T245.setTop (mkF m 33 #[.val (.ref ca), .val (.int (2 : Int32)), .val (.int (2 : Int32)), .val (.ref u), .val (.int (2 : Int32))] [(.ref u)])) _
  have xt246 := (own_ext_keep xt241 K245 (allS gu all0))
  exact own_ret X245 hx hlk hret rfl (Or.inr (Or.inr (Or.inr (Or.inr ⟨rfl, rfl, rfl⟩)))) (hb hby own_d_jdk_52_method_14_code_33) ⟨u, kb, rfl, Nc245, xt246, gu, Va245⟩ (by decide) (by decide)

set_option maxRecDepth 65536 in
set_option maxHeartbeats 40000000 in
theorem own_cmp5_2 (l : Launch) (Z : State) (a0 : Array Value) (hw : ∀ d ∈ tables_1, d.before a0 Z = true) (ws : List Jvm.Cond) (ca ba : Addr) (kc kb : ClassId) (c0_ c1_ : Int32) (h0 : Heap) (n0 : Nat) (Z0 : n0 ≤ h0.size) (Vc : Arv Z h0 ca kc .char (2 : Int32) [(.int c0_), (.int c1_)] (.int (0 : Int32))) (Vb : Arv Z h0 ba kb .byte (2 : Int32) [(.int (0 : Int32)), (.int (0 : Int32))] (.int (0 : Int32))) (gb : n0 ≤ ba) (ncb : ca ≠ ba) (hex : (255 : Int32) < c0_ ∨ (255 : Int32) < c1_) :
    OMet l Z (⟨"java/lang/StringUTF16", "compress", "([CI[BII)I"⟩ : MethodName) jdk_52_method_21_code 7 (some .int) ws ({ frames := 0, cells := 0, slots := 0, locals := 0 } : Room) #[(.ref ca), (.int (0 : Int32)), (.ref ba), (.int (0 : Int32)), (.int (2 : Int32))] h0 (fun v h L => ∃ k : Nat, v = some (.int (Int32.ofNat k)) ∧ k < 2 ∧ (255 : Int32) < ([c0_, c1_] : List Int32).getD k 0 ∧ Fr n0 L ∧ Keep h0 h [ba]) := by
  refine OMet.body (plainFor_of_name own_pn4) ?_
  intro p e s m below meth c s₁ hx hby hml hown hnm hret hlk hZ X0 e0
  refine OGo.step (fun _ kk => castTop (show entryFrame m #[(.ref ca), (.int (0 : Int32)), (.ref ba), (.int (0 : Int32)), (.int (2 : Int32))] 7 = (mkF m 0 #[.val (.ref ca), .val (.int (0 : Int32)), .val (.ref ba), .val (.int (0 : Int32)), .val (.int (2 : Int32)), .unset, .unset] []) from by first | (simp [entryFrame, mkF, argsToLocals, Value.category]; done) | rfl) kk) ?_
  show OGo p e below (s₁.setTop (mkF m 0 #[.val (.ref ca), .val (.int (0 : Int32)), .val (.ref ba), .val (.int (0 : Int32)), .val (.int (2 : Int32)), .unset, .unset] [])) _
  refine OGo.step (fun _ kk => XS.iconst X0.here hx rfl (hb hby own_d_jdk_52_method_21_code_0) kk) ?_
  show OGo p e below (s₁.setTop (mkF m 1 #[.val (.ref ca), .val (.int (0 : Int32)), .val (.ref ba), .val (.int (0 : Int32)), .val (.int (2 : Int32)), .unset, .unset] [(.int (0 : Int32))])) _
  refine OGo.step (fun _ kk => XS.istore X0.here hx rfl (hb hby own_d_jdk_52_method_21_code_1) rfl (l' := #[.val (.ref ca), .val (.int (0 : Int32)), .val (.ref ba), .val (.int (0 : Int32)), .val (.int (2 : Int32)), .val (.int (0 : Int32)), .unset]) rfl kk) ?_
  show OGo p e below (s₁.setTop (mkF m 3 #[.val (.ref ca), .val (.int (0 : Int32)), .val (.ref ba), .val (.int (0 : Int32)), .val (.int (2 : Int32)), .val (.int (0 : Int32)), .unset] [])) _
  refine OGo.step (fun _ kk => XS.iload X0.here hx rfl (hb hby own_d_jdk_52_method_21_code_3) rfl kk) ?_
  show OGo p e below (s₁.setTop (mkF m 5 #[.val (.ref ca), .val (.int (0 : Int32)), .val (.ref ba), .val (.int (0 : Int32)), .val (.int (2 : Int32)), .val (.int (0 : Int32)), .unset] [(.int (0 : Int32))])) _
  refine OGo.step (fun _ kk => XS.iload X0.here hx rfl (hb hby own_d_jdk_52_method_21_code_5) rfl kk) ?_
  show OGo p e below (s₁.setTop (mkF m 7 #[.val (.ref ca), .val (.int (0 : Int32)), .val (.ref ba), .val (.int (0 : Int32)), .val (.int (2 : Int32)), .val (.int (0 : Int32)), .unset] [(.int (2 : Int32)), (.int (0 : Int32))])) _
  refine OGo.step (fun _ kk => XS.icmpNo X0.here hx rfl (hb hby own_d_jdk_52_method_21_code_7) rfl (tlt (by decide)).2.1 kk) ?_
  show OGo p e below (s₁.setTop (mkF m 10 #[.val (.ref ca), .val (.int (0 : Int32)), .val (.ref ba), .val (.int (0 : Int32)), .val (.int (2 : Int32)), .val (.int (0 : Int32)), .unset] [])) _
  refine OGo.step (fun _ kk => XS.aloadN X0.here hx rfl (hb hby own_d_jdk_52_method_21_code_10) rfl rfl kk) ?_
  show OGo p e below (s₁.setTop (mkF m 11 #[.val (.ref ca), .val (.int (0 : Int32)), .val (.ref ba), .val (.int (0 : Int32)), .val (.int (2 : Int32)), .val (.int (0 : Int32)), .unset] [(.ref ca)])) _
  refine OGo.step (fun _ kk => XS.iloadN X0.here hx rfl (hb hby own_d_jdk_52_method_21_code_11) rfl kk) ?_
  show OGo p e below (s₁.setTop (mkF m 12 #[.val (.ref ca), .val (.int (0 : Int32)), .val (.ref ba), .val (.int (0 : Int32)), .val (.int (2 : Int32)), .val (.int (0 : Int32)), .unset] [(.int (0 : Int32)), (.ref ca)])) _
  obtain ⟨cA247, A247, q247, S247, M247, H247, G247⟩ := id Vc
  refine OGo.step (fun _ kk => X0.caload hx (j := (0 : Int32)) (v := (.int c0_)) (by rw [e0]; exact (A247).1) (State.isArrayOf_alike hZ.alike (A247).2.1) (A247).2.2 (inb_of S247 ⟨by decide, by decide⟩) (H247 0 (by rw [S247]; decide)) (g := (mkF m 12 #[.val (.ref ca), .val (.int (0 : Int32)), .val (.ref ba), .val (.int (0 : Int32)), .val (.int (2 : Int32)), .val (.int (0 : Int32)), .unset] [(.int (0 : Int32)), (.ref ca)])) rfl rfl (hb hby own_d_jdk_52_method_21_code_12) _ kk) ?_
  show OGo p e below (s₁.setTop (mkF m 13 #[.val (.ref ca), .val (.int (0 : Int32)), .val (.ref ba), .val (.int (0 : Int32)), .val (.int (2 : Int32)), .val (.int (0 : Int32)), .unset] [(.int c0_)])) _
  refine OGo.step (fun _ kk => XS.istore X0.here hx rfl (hb hby own_d_jdk_52_method_21_code_13) rfl (l' := #[.val (.ref ca), .val (.int (0 : Int32)), .val (.ref ba), .val (.int (0 : Int32)), .val (.int (2 : Int32)), .val (.int (0 : Int32)), .val (.int c0_)]) rfl kk) ?_
  show OGo p e below (s₁.setTop (mkF m 15 #[.val (.ref ca), .val (.int (0 : Int32)), .val (.ref ba), .val (.int (0 : Int32)), .val (.int (2 : Int32)), .val (.int (0 : Int32)), .val (.int c0_)] [])) _
  refine OGo.step (fun _ kk => XS.iload X0.here hx rfl (hb hby own_d_jdk_52_method_21_code_15) rfl kk) ?_
  show OGo p e below (s₁.setTop (mkF m 17 #[.val (.ref ca), .val (.int (0 : Int32)), .val (.ref ba), .val (.int (0 : Int32)), .val (.int (2 : Int32)), .val (.int (0 : Int32)), .val (.int c0_)] [(.int c0_)])) _
  refine OGo.step (fun _ kk => XS.sipush X0.here hx rfl (hb hby own_d_jdk_52_method_21_code_17) kk) ?_
  show OGo p e below (s₁.setTop (mkF m 20 #[.val (.ref ca), .val (.int (0 : Int32)), .val (.ref ba), .val (.int (0 : Int32)), .val (.int (2 : Int32)), .val (.int (0 : Int32)), .val (.int c0_)] [(.int (255 : Int32)), (.int c0_)])) _
  by_cases hq0 : (255 : Int32) < c0_
  · refine OGo.step (fun _ kk => XS.icmpNo X0.here hx rfl (hb hby own_d_jdk_52_method_21_code_20) rfl (tlt hq0).2.2.2 kk) ?_
    show OGo p e below (s₁.setTop (mkF m 23 #[.val (.ref ca), .val (.int (0 : Int32)), .val (.ref ba), .val (.int (0 : Int32)), .val (.int (2 : Int32)), .val (.int (0 : Int32)), .val (.int c0_)] [])) _
    refine OGo.step (fun _ kk => XS.iload X0.here hx rfl (hb hby own_d_jdk_52_method_21_code_23) rfl kk) ?_
    show OGo p e below (s₁.setTop (mkF m 25 #[.val (.ref ca), .val (.int (0 : Int32)), .val (.ref ba), .val (.int (0 : Int32)), .val (.int (2 : Int32)), .val (.int (0 : Int32)), .val (.int c0_)] [(.int (0 : Int32))])) _
    have HK := (Keep.refl h0 [ba])
    exact own_ret X0 hx hlk hret rfl (Or.inl ⟨rfl, Or.inl rfl, _, rfl⟩) (hb hby own_d_jdk_52_method_21_code_25) (by rw [e0]; exact ⟨0, rfl, by decide, hq0, (Fr.nil n0), HK⟩) (by decide) (by decide)
  · skip
    refine OGo.step (fun _ kk => XS.icmpYes X0.here hx rfl (pc0 := 20) (pc' := 26) rfl (hb hby own_d_jdk_52_method_21_code_20) rfl (flt hq0).2.2.2 (by decide) (by decide) kk) ?_
    show OGo p e below (s₁.setTop (mkF m 26 #[.val (.ref ca), .val (.int (0 : Int32)), .val (.ref ba), .val (.int (0 : Int32)), .val (.int (2 : Int32)), .val (.int (0 : Int32)), .val (.int c0_)] [])) _
    refine OGo.step (fun _ kk => XS.aloadN X0.here hx rfl (hb hby own_d_jdk_52_method_21_code_26) rfl rfl kk) ?_
    show OGo p e below (s₁.setTop (mkF m 27 #[.val (.ref ca), .val (.int (0 : Int32)), .val (.ref ba), .val (.int (0 : Int32)), .val (.int (2 : Int32)), .val (.int (0 : Int32)), .val (.int c0_)] [(.ref ba)])) _
    refine OGo.step (fun _ kk => XS.iloadN X0.here hx rfl (hb hby own_d_jdk_52_method_21_code_27) rfl kk) ?_
    show OGo p e below (s₁.setTop (mkF m 28 #[.val (.ref ca), .val (.int (0 : Int32)), .val (.ref ba), .val (.int (0 : Int32)), .val (.int (2 : Int32)), .val (.int (0 : Int32)), .val (.int c0_)] [(.int (0 : Int32)), (.ref ba)])) _
    refine OGo.step (fun _ kk => XS.iload X0.here hx rfl (hb hby own_d_jdk_52_method_21_code_28) rfl kk) ?_
    show OGo p e below (s₁.setTop (mkF m 30 #[.val (.ref ca), .val (.int (0 : Int32)), .val (.ref ba), .val (.int (0 : Int32)), .val (.int (2 : Int32)), .val (.int (0 : Int32)), .val (.int c0_)] [(.int c0_), (.int (0 : Int32)), (.ref ba)])) _
    refine OGo.step (fun _ kk => XS.i2b X0.here hx rfl (hb hby own_d_jdk_52_method_21_code_30) rfl kk) ?_
    show OGo p e below (s₁.setTop (mkF m 31 #[.val (.ref ca), .val (.int (0 : Int32)), .val (.ref ba), .val (.int (0 : Int32)), .val (.int (2 : Int32)), .val (.int (0 : Int32)), .val (.int c0_)] [(.int (c0_.toInt8.toInt32)), (.int (0 : Int32)), (.ref ba)])) _
    obtain ⟨cA248, A248, q248, S248, M248, H248, G248⟩ := id Vb
    obtain ⟨T249, h249, X249, e249, W249, st249⟩ := stB X0 hx hZ e0 A248 (j := (0 : Int32)) (inb_of S248 ⟨by decide, by decide⟩) (g := (mkF m 31 #[.val (.ref ca), .val (.int (0 : Int32)), .val (.ref ba), .val (.int (0 : Int32)), .val (.int (2 : Int32)), .val (.int (0 : Int32)), .val (.int c0_)] [(.int (c0_.toInt8.toInt32)), (.int (0 : Int32)), (.ref ba)])) rfl rfl (hb hby own_d_jdk_52_method_21_code_31)
    refine OGo.step st249 ?_
    show OGo p e below (T249.setTop (mkF m 32 #[.val (.ref ca), .val (.int (0 : Int32)), .val (.ref ba), .val (.int (0 : Int32)), .val (.int (2 : Int32)), .val (.int (0 : Int32)), .val (.int c0_)] [])) _
    have Va248 : Arv Z h249 ba kb .byte (2 : Int32) [(.int (nar .byte (c0_.toInt8.toInt32))), (.int (0 : Int32))] (.int (0 : Int32)) := Arv.set A248 q248 S248 M248 H248 G248 (fits_nar_byte _) W249 0 rfl (Nat.le_of_ble_eq_true rfl)
    have Nf249 := Fr.snoc X249 (Fr.nil n0) gb
    have sz249 : n0 ≤ h249.size := by rw [W249.size]; exact Z0
    refine OGo.step (fun _ kk => XS.iinc X249.here hx rfl (hb hby own_d_jdk_52_method_21_code_32) rfl (l' := #[.val (.ref ca), .val (.int ((0 : Int32) + (1 : Int32))), .val (.ref ba), .val (.int (0 : Int32)), .val (.int (2 : Int32)), .val (.int (0 : Int32)), .val (.int c0_)]) rfl kk) ?_
    show OGo p e below (T249.setTop (mkF m 35 #[.val (.ref ca), .val (.int ((0 : Int32) + (1 : Int32))), .val (.ref ba), .val (.int (0 : Int32)), .val (.int (2 : Int32)), .val (.int (0 : Int32)), .val (.int c0_)] [])) _
    refine OGo.step (fun _ kk => XS.iinc X249.here hx rfl (hb hby own_d_jdk_52_method_21_code_35) rfl (l' := #[.val (.ref ca), .val (.int ((0 : Int32) + (1 : Int32))), .val (.ref ba), .val (.int ((0 : Int32) + (1 : Int32))), .val (.int (2 : Int32)), .val (.int (0 : Int32)), .val (.int c0_)]) rfl kk) ?_
    show OGo p e below (T249.setTop (mkF m 38 #[.val (.ref ca), .val (.int ((0 : Int32) + (1 : Int32))), .val (.ref ba), .val (.int ((0 : Int32) + (1 : Int32))), .val (.int (2 : Int32)), .val (.int (0 : Int32)), .val (.int c0_)] [])) _
    refine OGo.step (fun _ kk => XS.iinc X249.here hx rfl (hb hby own_d_jdk_52_method_21_code_38) rfl (l' := #[.val (.ref ca), .val (.int ((0 : Int32) + (1 : Int32))), .val (.ref ba), .val (.int ((0 : Int32) + (1 : Int32))), .val (.int (2 : Int32)), .val (.int ((0 : Int32) + (1 : Int32))), .val (.int c0_)]) rfl kk) ?_
    show OGo p e below (T249.setTop (mkF m 41 #[.val (.ref ca), .val (.int ((0 : Int32) + (1 : Int32))), .val (.ref ba), .val (.int ((0 : Int32) + (1 : Int32))), .val (.int (2 : Int32)), .val (.int ((0 : Int32) + (1 : Int32))), .val (.int c0_)] [])) _
    refine OGo.step (fun _ kk => XS.goto X249.here hx rfl (pc0 := 41) (pc' := 3) rfl (hb hby own_d_jdk_52_method_21_code_41) (by decide) (by decide) kk) ?_
    show OGo p e below (T249.setTop (mkF m 3 #[.val (.ref ca), .val (.int ((0 : Int32) + (1 : Int32))), .val (.ref ba), .val (.int ((0 : Int32) + (1 : Int32))), .val (.int (2 : Int32)), .val (.int ((0 : Int32) + (1 : Int32))), .val (.int c0_)] [])) _
    show OGo p e below (T249.setTop (mkF m 3 #[.val (.ref ca), .val (.int (1 : Int32)), .val (.ref ba), .val (.int (1 : Int32)), .val (.int (2 : Int32)), .val (.int (1 : Int32)), .val (.int c0_)] [])) _
    refine OGo.step (fun _ kk => XS.iload X249.here hx rfl (hb hby own_d_jdk_52_method_21_code_3) rfl kk) ?_
    show OGo p e below (T249.setTop (mkF m 5 #[.val (.ref ca), .val (.int (1 : Int32)), .val (.ref ba), .val (.int (1 : Int32)), .val (.int (2 : Int32)), .val (.int (1 : Int32)), .val (.int c0_)] [(.int (1 : Int32))])) _
    refine OGo.step (fun _ kk => XS.iload X249.here hx rfl (hb hby own_d_jdk_52_method_21_code_5) rfl kk) ?_
    show OGo p e below (T249.setTop (mkF m 7 #[.val (.ref ca), .val (.int (1 : Int32)), .val (.ref ba), .val (.int (1 : Int32)), .val (.int (2 : Int32)), .val (.int (1 : Int32)), .val (.int c0_)] [(.int (2 : Int32)), (.int (1 : Int32))])) _
    refine OGo.step (fun _ kk => XS.icmpNo X249.here hx rfl (hb hby own_d_jdk_52_method_21_code_7) rfl (tlt (by decide)).2.1 kk) ?_
    show OGo p e below (T249.setTop (mkF m 10 #[.val (.ref ca), .val (.int (1 : Int32)), .val (.ref ba), .val (.int (1 : Int32)), .val (.int (2 : Int32)), .val (.int (1 : Int32)), .val (.int c0_)] [])) _
    refine OGo.step (fun _ kk => XS.aloadN X249.here hx rfl (hb hby own_d_jdk_52_method_21_code_10) rfl rfl kk) ?_
    show OGo p e below (T249.setTop (mkF m 11 #[.val (.ref ca), .val (.int (1 : Int32)), .val (.ref ba), .val (.int (1 : Int32)), .val (.int (2 : Int32)), .val (.int (1 : Int32)), .val (.int c0_)] [(.ref ca)])) _
    refine OGo.step (fun _ kk => XS.iloadN X249.here hx rfl (hb hby own_d_jdk_52_method_21_code_11) rfl kk) ?_
    show OGo p e below (T249.setTop (mkF m 12 #[.val (.ref ca), .val (.int (1 : Int32)), .val (.ref ba), .val (.int (1 : Int32)), .val (.int (2 : Int32)), .val (.int (1 : Int32)), .val (.int c0_)] [(.int (1 : Int32)), (.ref ca)])) _
    have fc250 := (Vc.other W249 ncb)
    obtain ⟨cA251, A251, q251, S251, M251, H251, G251⟩ := id fc250
    refine OGo.step (fun _ kk => X249.caload hx (j := (1 : Int32)) (v := (.int c1_)) (by rw [e249]; exact (A251).1) (State.isArrayOf_alike hZ.alike (A251).2.1) (A251).2.2 (inb_of S251 ⟨by decide, by decide⟩) (H251 1 (by rw [S251]; decide)) (g := (mkF m 12 #[.val (.ref ca), .val (.int (1 : Int32)), .val (.ref ba), .val (.int (1 : Int32)), .val (.int (2 : Int32)), .val (.int (1 : Int32)), .val (.int c0_)] [(.int (1 : Int32)), (.ref ca)])) rfl rfl (hb hby own_d_jdk_52_method_21_code_12) _ kk) ?_
    show OGo p e below (T249.setTop (mkF m 13 #[.val (.ref ca), .val (.int (1 : Int32)), .val (.ref ba), .val (.int (1 : Int32)), .val (.int (2 : Int32)), .val (.int (1 : Int32)), .val (.int c0_)] [(.int c1_)])) _
    refine OGo.step (fun _ kk => XS.istore X249.here hx rfl (hb hby own_d_jdk_52_method_21_code_13) rfl (l' := #[.val (.ref ca), .val (.int (1 : Int32)), .val (.ref ba), .val (.int (1 : Int32)), .val (.int (2 : Int32)), .val (.int (1 : Int32)), .val (.int c1_)]) rfl kk) ?_
    show OGo p e below (T249.setTop (mkF m 15 #[.val (.ref ca), .val (.int (1 : Int32)), .val (.ref ba), .val (.int (1 : Int32)), .val (.int (2 : Int32)), .val (.int (1 : Int32)), .val (.int c1_)] [])) _
    refine OGo.step (fun _ kk => XS.iload X249.here hx rfl (hb hby own_d_jdk_52_method_21_code_15) rfl kk) ?_
    show OGo p e below (T249.setTop (mkF m 17 #[.val (.ref ca), .val (.int (1 : Int32)), .val (.ref ba), .val (.int (1 : Int32)), .val (.int (2 : Int32)), .val (.int (1 : Int32)), .val (.int c1_)] [(.int c1_)])) _
    refine OGo.step (fun _ kk => XS.sipush X249.here hx rfl (hb hby own_d_jdk_52_method_21_code_17) kk) ?_
    show OGo p e below (T249.setTop (mkF m 20 #[.val (.ref ca), .val (.int (1 : Int32)), .val (.ref ba), .val (.int (1 : Int32)), .val (.int (2 : Int32)), .val (.int (1 : Int32)), .val (.int c1_)] [(.int (255 : Int32)), (.int c1_)])) _
    by_cases hq1 : (255 : Int32) < c1_
    · refine OGo.step (fun _ kk => XS.icmpNo X249.here hx rfl (hb hby own_d_jdk_52_method_21_code_20) rfl (tlt hq1).2.2.2 kk) ?_
      show OGo p e below (T249.setTop (mkF m 23 #[.val (.ref ca), .val (.int (1 : Int32)), .val (.ref ba), .val (.int (1 : Int32)), .val (.int (2 : Int32)), .val (.int (1 : Int32)), .val (.int c1_)] [])) _
      refine OGo.step (fun _ kk => XS.iload X249.here hx rfl (hb hby own_d_jdk_52_method_21_code_23) rfl kk) ?_
      show OGo p e below (T249.setTop (mkF m 25 #[.val (.ref ca), .val (.int (1 : Int32)), .val (.ref ba), .val (.int (1 : Int32)), .val (.int (2 : Int32)), .val (.int (1 : Int32)), .val (.int c1_)] [(.int (1 : Int32))])) _
      have HK := ((Keep.refl h0 [ba]).wr W249 (Or.inl (List.mem_of_getElem? (i := 0) rfl)))
      exact own_ret X249 hx hlk hret rfl (Or.inl ⟨rfl, Or.inl rfl, _, rfl⟩) (hb hby own_d_jdk_52_method_21_code_25) (by rw [e249]; exact ⟨1, rfl, by decide, hq1, Nf249, HK⟩) (by decide) (by decide)
    · skip
      refine OGo.step (fun _ kk => XS.icmpYes X249.here hx rfl (pc0 := 20) (pc' := 26) rfl (hb hby own_d_jdk_52_method_21_code_20) rfl (flt hq1).2.2.2 (by decide) (by decide) kk) ?_
      show OGo p e below (T249.setTop (mkF m 26 #[.val (.ref ca), .val (.int (1 : Int32)), .val (.ref ba), .val (.int (1 : Int32)), .val (.int (2 : Int32)), .val (.int (1 : Int32)), .val (.int c1_)] [])) _
      refine OGo.step (fun _ kk => XS.aloadN X249.here hx rfl (hb hby own_d_jdk_52_method_21_code_26) rfl rfl kk) ?_
      show OGo p e below (T249.setTop (mkF m 27 #[.val (.ref ca), .val (.int (1 : Int32)), .val (.ref ba), .val (.int (1 : Int32)), .val (.int (2 : Int32)), .val (.int (1 : Int32)), .val (.int c1_)] [(.ref ba)])) _
      refine OGo.step (fun _ kk => XS.iloadN X249.here hx rfl (hb hby own_d_jdk_52_method_21_code_27) rfl kk) ?_
      show OGo p e below (T249.setTop (mkF m 28 #[.val (.ref ca), .val (.int (1 : Int32)), .val (.ref ba), .val (.int (1 : Int32)), .val (.int (2 : Int32)), .val (.int (1 : Int32)), .val (.int c1_)] [(.int (1 : Int32)), (.ref ba)])) _
      refine OGo.step (fun _ kk => XS.iload X249.here hx rfl (hb hby own_d_jdk_52_method_21_code_28) rfl kk) ?_
      show OGo p e below (T249.setTop (mkF m 30 #[.val (.ref ca), .val (.int (1 : Int32)), .val (.ref ba), .val (.int (1 : Int32)), .val (.int (2 : Int32)), .val (.int (1 : Int32)), .val (.int c1_)] [(.int c1_), (.int (1 : Int32)), (.ref ba)])) _
      refine OGo.step (fun _ kk => XS.i2b X249.here hx rfl (hb hby own_d_jdk_52_method_21_code_30) rfl kk) ?_
      show OGo p e below (T249.setTop (mkF m 31 #[.val (.ref ca), .val (.int (1 : Int32)), .val (.ref ba), .val (.int (1 : Int32)), .val (.int (2 : Int32)), .val (.int (1 : Int32)), .val (.int c1_)] [(.int (c1_.toInt8.toInt32)), (.int (1 : Int32)), (.ref ba)])) _
      obtain ⟨cA252, A252, q252, S252, M252, H252, G252⟩ := id Va248
      obtain ⟨T253, h253, X253, e253, W253, st253⟩ := stB X249 hx hZ e249 A252 (j := (1 : Int32)) (inb_of S252 ⟨by decide, by decide⟩) (g := (mkF m 31 #[.val (.ref ca), .val (.int (1 : Int32)), .val (.ref ba), .val (.int (1 : Int32)), .val (.int (2 : Int32)), .val (.int (1 : Int32)), .val (.int c1_)] [(.int (c1_.toInt8.toInt32)), (.int (1 : Int32)), (.ref ba)])) rfl rfl (hb hby own_d_jdk_52_method_21_code_31)
      refine OGo.step st253 ?_
      show OGo p e below (T253.setTop (mkF m 32 #[.val (.ref ca), .val (.int (1 : Int32)), .val (.ref ba), .val (.int (1 : Int32)), .val (.int (2 : Int32)), .val (.int (1 : Int32)), .val (.int c1_)] [])) _
      have Va252 : Arv Z h253 ba kb .byte (2 : Int32) [(.int (nar .byte (c0_.toInt8.toInt32))), (.int (nar .byte (c1_.toInt8.toInt32)))] (.int (0 : Int32)) := Arv.set A252 q252 S252 M252 H252 G252 (fits_nar_byte _) W253 1 rfl (Nat.le_of_ble_eq_true rfl)
      have Nf253 := Fr.snoc X253 Nf249 gb
      have sz253 : n0 ≤ h253.size := by rw [W253.size]; exact sz249
      refine OGo.step (fun _ kk => XS.iinc X253.here hx rfl (hb hby own_d_jdk_52_method_21_code_32) rfl (l' := #[.val (.ref ca), .val (.int ((1 : Int32) + (1 : Int32))), .val (.ref ba), .val (.int (1 : Int32)), .val (.int (2 : Int32)), .val (.int (1 : Int32)), .val (.int c1_)]) rfl kk) ?_
      show OGo p e below (T253.setTop (mkF m 35 #[.val (.ref ca), .val (.int ((1 : Int32) + (1 : Int32))), .val (.ref ba), .val (.int (1 : Int32)), .val (.int (2 : Int32)), .val (.int (1 : Int32)), .val (.int c1_)] [])) _
      refine OGo.step (fun _ kk => XS.iinc X253.here hx rfl (hb hby own_d_jdk_52_method_21_code_35) rfl (l' := #[.val (.ref ca), .val (.int ((1 : Int32) + (1 : Int32))), .val (.ref ba), .val (.int ((1 : Int32) + (1 : Int32))), .val (.int (2 : Int32)), .val (.int (1 : Int32)), .val (.int c1_)]) rfl kk) ?_
      show OGo p e below (T253.setTop (mkF m 38 #[.val (.ref ca), .val (.int ((1 : Int32) + (1 : Int32))), .val (.ref ba), .val (.int ((1 : Int32) + (1 : Int32))), .val (.int (2 : Int32)), .val (.int (1 : Int32)), .val (.int c1_)] [])) _
      refine OGo.step (fun _ kk => XS.iinc X253.here hx rfl (hb hby own_d_jdk_52_method_21_code_38) rfl (l' := #[.val (.ref ca), .val (.int ((1 : Int32) + (1 : Int32))), .val (.ref ba), .val (.int ((1 : Int32) + (1 : Int32))), .val (.int (2 : Int32)), .val (.int ((1 : Int32) + (1 : Int32))), .val (.int c1_)]) rfl kk) ?_
      show OGo p e below (T253.setTop (mkF m 41 #[.val (.ref ca), .val (.int ((1 : Int32) + (1 : Int32))), .val (.ref ba), .val (.int ((1 : Int32) + (1 : Int32))), .val (.int (2 : Int32)), .val (.int ((1 : Int32) + (1 : Int32))), .val (.int c1_)] [])) _
      refine OGo.step (fun _ kk => XS.goto X253.here hx rfl (pc0 := 41) (pc' := 3) rfl (hb hby own_d_jdk_52_method_21_code_41) (by decide) (by decide) kk) ?_
      show OGo p e below (T253.setTop (mkF m 3 #[.val (.ref ca), .val (.int ((1 : Int32) + (1 : Int32))), .val (.ref ba), .val (.int ((1 : Int32) + (1 : Int32))), .val (.int (2 : Int32)), .val (.int ((1 : Int32) + (1 : Int32))), .val (.int c1_)] [])) _
      show OGo p e below (T253.setTop (mkF m 3 #[.val (.ref ca), .val (.int (2 : Int32)), .val (.ref ba), .val (.int (2 : Int32)), .val (.int (2 : Int32)), .val (.int (2 : Int32)), .val (.int c1_)] [])) _
      refine OGo.step (fun _ kk => XS.iload X253.here hx rfl (hb hby own_d_jdk_52_method_21_code_3) rfl kk) ?_
      show OGo p e below (T253.setTop (mkF m 5 #[.val (.ref ca), .val (.int (2 : Int32)), .val (.ref ba), .val (.int (2 : Int32)), .val (.int (2 : Int32)), .val (.int (2 : Int32)), .val (.int c1_)] [(.int (2 : Int32))])) _
      refine OGo.step (fun _ kk => XS.iload X253.here hx rfl (hb hby own_d_jdk_52_method_21_code_5) rfl kk) ?_
      show OGo p e below (T253.setTop (mkF m 7 #[.val (.ref ca), .val (.int (2 : Int32)), .val (.ref ba), .val (.int (2 : Int32)), .val (.int (2 : Int32)), .val (.int (2 : Int32)), .val (.int c1_)] [(.int (2 : Int32)), (.int (2 : Int32))])) _
      exact False.elim ((fun z => Or.elim z hq0 hq1) hex)

theorem own_kne2 : ∀ k : Nat, k < 2 → ¬ Int32.ofNat k = (2 : Int32) := by decide
set_option maxRecDepth 65536 in
set_option maxHeartbeats 40000000 in
theorem own_cmp3_2 (l : Launch) (Z : State) (a0 : Array Value) (hw : ∀ d ∈ tables_1, d.before a0 Z = true) (ws : List Jvm.Cond) (ca : Addr) (kc : ClassId) (c0_ c1_ : Int32) (h0 : Heap) (n0 : Nat) (Z0 : n0 ≤ h0.size) (SA : Sta Z h0 "java/lang/StringUTF16" "$assertionsDisabled" "Z" (.int (1 : Int32))) (SH : Sta Z h0 "java/lang/StringUTF16" "HI_BYTE_SHIFT" "I" (.int (0 : Int32))) (SL : Sta Z h0 "java/lang/StringUTF16" "LO_BYTE_SHIFT" "I" (.int (8 : Int32))) (Vc : Arv Z h0 ca kc .char (2 : Int32) [(.int c0_), (.int c1_)] (.int (0 : Int32))) (hb0 : ¬ c0_ < 0 ∧ ¬ (65535 : Int32) < c0_) (hb1 : ¬ c1_ < 0 ∧ ¬ (65535 : Int32) < c1_) (hex : (255 : Int32) < c0_ ∨ (255 : Int32) < c1_) :
    OMet l Z (⟨"java/lang/StringUTF16", "compress", "([CII)[B"⟩ : MethodName) jdk_52_method_16_code 6 (some (.array .byte)) ws ({ frames := 3, cells := 2, slots := 6, locals := 40 } : Room) #[(.ref ca), (.int (0 : Int32)), (.int (2 : Int32))] h0 (fun v h L => ∃ (u : Addr) (kb : ClassId), v = some (.ref u) ∧ Fr n0 L ∧ Ext h0 h ∧ h0.size ≤ u ∧ Arv Z h u kb .byte (4 : Int32) (StrChars.Road.wideBytes [c0_, c1_]) (.int (0 : Int32))) := by
  refine OMet.body (plainFor_of_name own_pn4) ?_
  intro p e s m below meth c s₁ hx hby hml hown hnm hret hlk hZ X0 e0
  refine OGo.step (fun _ kk => castTop (show entryFrame m #[(.ref ca), (.int (0 : Int32)), (.int (2 : Int32))] 6 = (mkF m 0 #[.val (.ref ca), .val (.int (0 : Int32)), .val (.int (2 : Int32)), .unset, .unset, .unset] []) from by first | (simp [entryFrame, mkF, argsToLocals, Value.category]; done) | rfl) kk) ?_
  show OGo p e below (s₁.setTop (mkF m 0 #[.val (.ref ca), .val (.int (0 : Int32)), .val (.int (2 : Int32)), .unset, .unset, .unset] [])) _
  refine OGo.step (fun _ kk => XS.iloadN X0.here hx rfl (hb hby own_d_jdk_52_method_16_code_0) rfl kk) ?_
  show OGo p e below (s₁.setTop (mkF m 1 #[.val (.ref ca), .val (.int (0 : Int32)), .val (.int (2 : Int32)), .unset, .unset, .unset] [(.int (2 : Int32))])) _
  obtain ⟨T254, h254, k254, X254, e254, E254, A254, st254⟩ := newP X0 hx hZ (hw _ (List.mem_of_getElem? (i := 21) rfl)) e0 (g := (mkF m 1 #[.val (.ref ca), .val (.int (0 : Int32)), .val (.int (2 : Int32)), .unset, .unset, .unset] [(.int (2 : Int32))])) rfl (hb hby own_d_jdk_52_method_16_code_1) rfl (by decide) (cap := 2) (by decide) (by decide) (by decide) (by decide)
  obtain ⟨ba, g254⟩ : ∃ z, z = h0.size := ⟨_, rfl⟩
  rw [← g254] at A254 st254
  refine OGo.step st254 ?_
  show OGo p e below (T254.setTop (mkF m 3 #[.val (.ref ca), .val (.int (0 : Int32)), .val (.int (2 : Int32)), .unset, .unset, .unset] [(.ref ba)])) _
  have ne_ca_ba : ca ≠ ba := Nat.ne_of_lt (Nat.lt_of_lt_of_le Vc.lt (Nat.le_of_eq g254.symm))
  have gf_ba : n0 ≤ ba := Nat.le_trans Z0 (Nat.le_of_eq g254.symm)
  have sz254 : n0 ≤ h254.size := Nat.le_trans Z0 E254.1
  have Va : Arv Z h254 ba k254 .byte (2 : Int32) [(.int (0 : Int32)), (.int (0 : Int32))] (.int (0 : Int32)) := (Arv.new A254 (by decide)).pad (pad_rep [] (.int (0 : Int32)) 2)
  refine OGo.step (fun _ kk => XS.astoreN X254.here hx rfl (hb hby own_d_jdk_52_method_16_code_3) rfl rfl (l' := #[.val (.ref ca), .val (.int (0 : Int32)), .val (.int (2 : Int32)), .val (.ref ba), .unset, .unset]) rfl kk) ?_
  show OGo p e below (T254.setTop (mkF m 4 #[.val (.ref ca), .val (.int (0 : Int32)), .val (.int (2 : Int32)), .val (.ref ba), .unset, .unset] [])) _
  refine OGo.step (fun _ kk => XS.aloadN X254.here hx rfl (hb hby own_d_jdk_52_method_16_code_4) rfl rfl kk) ?_
  show OGo p e below (T254.setTop (mkF m 5 #[.val (.ref ca), .val (.int (0 : Int32)), .val (.int (2 : Int32)), .val (.ref ba), .unset, .unset] [(.ref ca)])) _
  refine OGo.step (fun _ kk => XS.iloadN X254.here hx rfl (hb hby own_d_jdk_52_method_16_code_5) rfl kk) ?_
  show OGo p e below (T254.setTop (mkF m 6 #[.val (.ref ca), .val (.int (0 : Int32)), .val (.int (2 : Int32)), .val (.ref ba), .unset, .unset] [(.int (0 : Int32)), (.ref ca)])) _
  refine OGo.step (fun _ kk => XS.aloadN X254.here hx rfl (hb hby own_d_jdk_52_method_16_code_6) rfl rfl kk) ?_
  show OGo p e below (T254.setTop (mkF m 7 #[.val (.ref ca), .val (.int (0 : Int32)), .val (.int (2 : Int32)), .val (.ref ba), .unset, .unset] [(.ref ba), (.int (0 : Int32)), (.ref ca)])) _
  refine OGo.step (fun _ kk => XS.iconst X254.here hx rfl (hb hby own_d_jdk_52_method_16_code_7) kk) ?_
  show OGo p e below (T254.setTop (mkF m 8 #[.val (.ref ca), .val (.int (0 : Int32)), .val (.int (2 : Int32)), .val (.ref ba), .unset, .unset] [(.int (0 : Int32)), (.ref ba), (.int (0 : Int32)), (.ref ca)])) _
  refine OGo.step (fun _ kk => XS.iloadN X254.here hx rfl (hb hby own_d_jdk_52_method_16_code_8) rfl kk) ?_
  show OGo p e below (T254.setTop (mkF m 9 #[.val (.ref ca), .val (.int (0 : Int32)), .val (.int (2 : Int32)), .val (.ref ba), .unset, .unset] [(.int (2 : Int32)), (.int (0 : Int32)), (.ref ba), (.int (0 : Int32)), (.ref ca)])) _
  have fc255 := (Vc.ext E254)
  refine own_callS X254 hx hZ (y := (⟨"java/lang/StringUTF16", "compress", "([CI[BII)I"⟩ : MethodName)) hown (hw _ (List.mem_of_getElem? (i := 84) rfl)) (hw _ (List.mem_of_getElem? (i := 85) rfl)) (hw _ (List.mem_of_getElem? (i := 82) rfl)) (hw _ (List.mem_of_getElem? (i := 86) rfl)) (by decide) (W := 0) (own_cmp5_2 l Z a0 hw [] ca ba kc _ c0_ c1_ h254 n0 sz254 fc255 Va gf_ba ne_ca_ba hex) e254  (pc := 9) (Ls := #[.val (.ref ca), .val (.int (0 : Int32)), .val (.int (2 : Int32)), .val (.ref ba), .unset, .unset]) (argsL := [(.ref ca), (.int (0 : Int32)), (.ref ba), (.int (0 : Int32)), (.int (2 : Int32))]) (rest := []) (by rw [hml]; rfl) (lenOf own_pd14 rfl) rfl (hb hby own_d_jdk_52_method_16_code_9) (by decide) (by decide) (by decide) (by decide) ?_
  intro v256 T256 L256 X256 hQ256
  obtain ⟨kq_, rfl, hk, hk2, N256, K256⟩ := hQ256
  show OGo p e below (T256.setTop (mkF m 12 #[.val (.ref ca), .val (.int (0 : Int32)), .val (.int (2 : Int32)), .val (.ref ba), .unset, .unset] [(.int (Int32.ofNat kq_))])) _
  have Nc256 := Fr.app (Fr.nil n0) N256
  have sz256 : n0 ≤ T256.heap.size := Nat.le_trans sz254 K256.1
  refine OGo.step (fun _ kk => XS.istore X256.here hx rfl (hb hby own_d_jdk_52_method_16_code_12) rfl (l' := #[.val (.ref ca), .val (.int (0 : Int32)), .val (.int (2 : Int32)), .val (.ref ba), .val (.int (Int32.ofNat kq_)), .unset]) rfl kk) ?_
  show OGo p e below (T256.setTop (mkF m 14 #[.val (.ref ca), .val (.int (0 : Int32)), .val (.int (2 : Int32)), .val (.ref ba), .val (.int (Int32.ofNat kq_)), .unset] [])) _
  refine OGo.step (fun _ kk => XS.iload X256.here hx rfl (hb hby own_d_jdk_52_method_16_code_14) rfl kk) ?_
  show OGo p e below (T256.setTop (mkF m 16 #[.val (.ref ca), .val (.int (0 : Int32)), .val (.int (2 : Int32)), .val (.ref ba), .val (.int (Int32.ofNat kq_)), .unset] [(.int (Int32.ofNat kq_))])) _
  refine OGo.step (fun _ kk => XS.iloadN X256.here hx rfl (hb hby own_d_jdk_52_method_16_code_16) rfl kk) ?_
  show OGo p e below (T256.setTop (mkF m 17 #[.val (.ref ca), .val (.int (0 : Int32)), .val (.int (2 : Int32)), .val (.ref ba), .val (.int (Int32.ofNat kq_)), .unset] [(.int (2 : Int32)), (.int (Int32.ofNat kq_))])) _
  refine OGo.step (fun _ kk => XS.icmpNo X256.here hx rfl (hb hby own_d_jdk_52_method_16_code_17) rfl (feq (own_kne2 kq_ hk)).1 kk) ?_
  show OGo p e below (T256.setTop (mkF m 20 #[.val (.ref ca), .val (.int (0 : Int32)), .val (.int (2 : Int32)), .val (.ref ba), .val (.int (Int32.ofNat kq_)), .unset] [])) _
  refine OGo.step (fun _ kk => XS.aloadN X256.here hx rfl (hb hby own_d_jdk_52_method_16_code_20) rfl rfl kk) ?_
  show OGo p e below (T256.setTop (mkF m 21 #[.val (.ref ca), .val (.int (0 : Int32)), .val (.int (2 : Int32)), .val (.ref ba), .val (.int (Int32.ofNat kq_)), .unset] [(.ref ca)])) _
  refine OGo.step (fun _ kk => XS.iloadN X256.here hx rfl (hb hby own_d_jdk_52_method_16_code_21) rfl kk) ?_
  show OGo p e below (T256.setTop (mkF m 22 #[.val (.ref ca), .val (.int (0 : Int32)), .val (.int (2 : Int32)), .val (.ref ba), .val (.int (Int32.ofNat kq_)), .unset] [(.int (0 : Int32)), (.ref ca)])) _
  refine OGo.step (fun _ kk => XS.iloadN X256.here hx rfl (hb hby own_d_jdk_52_method_16_code_22) rfl kk) ?_
  show OGo p e below (T256.setTop (mkF m 23 #[.val (.ref ca), .val (.int (0 : Int32)), .val (.int (2 : Int32)), .val (.ref ba), .val (.int (Int32.ofNat kq_)), .unset] [(.int (2 : Int32)), (.int (0 : Int32)), (.ref ca)])) _
  have xt257 := (own_ext_keep E254 K256 (allS (Nat.le_of_eq g254.symm) all0))
  have fx258 := SA.ext xt257
  have fx259 := SH.ext xt257
  have fx260 := SL.ext xt257
  have fc261 := (fc255.keep K256 (ninS ne_ca_ba nin0))
  refine own_callS X256 hx hZ (y := (⟨"java/lang/StringUTF16", "toBytes", "([CII)[B"⟩ : MethodName)) hown (hw _ (List.mem_of_getElem? (i := 108) rfl)) (hw _ (List.mem_of_getElem? (i := 109) rfl)) (hw _ (List.mem_of_getElem? (i := 82) rfl)) (hw _ (List.mem_of_getElem? (i := 110) rfl)) (by decide) (W := 0) (own_toB2 l Z a0 hw [] ca kc c0_ c1_ T256.heap n0 sz256 fx258 fx259 fx260 fc261) rfl  (pc := 23) (Ls := #[.val (.ref ca), .val (.int (0 : Int32)), .val (.int (2 : Int32)), .val (.ref ba), .val (.int (Int32.ofNat kq_)), .unset]) (argsL := [(.ref ca), (.int (0 : Int32)), (.int (2 : Int32))]) (rest := []) (by rw [hml]; rfl) (lenOf own_pd15 rfl) rfl (hb hby own_d_jdk_52_method_16_code_23) (by decide) (by decide) (by decide) (by decide) ?_
  intro v262 T262 L262 X262 hQ262
  obtain ⟨u, kb, rfl, N262, Xe262, gu262, Vu⟩ := hQ262
  show OGo p e below (T262.setTop (mkF m 26 #[.val (.ref ca), .val (.int (0 : Int32)), .val (.int (2 : Int32)), .val (.ref ba), .val (.int (Int32.ofNat kq_)), .unset] [(.ref u)])) _
  have gu0 := Nat.le_trans (xt257).1 gu262
  have Nc262 := Fr.app Nc256 N262
  have sz262 : n0 ≤ T262.heap.size := Nat.le_trans sz256 Xe262.1
  refine OGo.step (fun _ kk => XS.astore X262.here hx rfl (hb hby own_d_jdk_52_method_16_code_26) rfl rfl (l' := #[.val (.ref ca), .val (.int (0 : Int32)), .val (.int (2 : Int32)), .val (.ref ba), .val (.int (Int32.ofNat kq_)), .val (.ref u)]) rfl kk) ?_
  show OGo p e below (T262.setTop (mkF m 28 #[.val (.ref ca), .val (.int (0 : Int32)), .val (.int (2 : Int32)), .val (.ref ba), .val (.int (Int32.ofNat kq_)), .val (.ref u)] [])) _
  refine OGo.step (fun _ kk => XS.aload X262.here hx rfl (hb hby own_d_jdk_52_method_16_code_28) rfl rfl kk) ?_
  show OGo p e below (T262.setTop (mkF m 30 #[.val (.ref ca), .val (.int (0 : Int32)), .val (.int (2 : Int32)), .val (.ref ba), .val (.int (Int32.ofNat kq_)), .val (.ref u)] [(.ref u)])) _
  refine OGo.step (fun _ kk => XS.iload X262.here hx rfl (hb hby own_d_jdk_52_method_16_code_30) rfl kk) ?_
  show OGo p e below (T262.setTop (mkF m 32 #[.val (.ref ca), .val (.int (0 : Int32)), .val (.int (2 : Int32)), .val (.ref ba), .val (.int (Int32.ofNat kq_)), .val (.ref u)] [(.int (Int32.ofNat kq_)), (.ref u)])) _
  obtain rfl | rfl : kq_ = 0 ∨ kq_ = 1 := by omega
  · show OGo p e below (T262.setTop (mkF m 32 #[.val (.ref ca), .val (.int (0 : Int32)), .val (.int (2 : Int32)), .val (.ref ba), .val (.int (0 : Int32)), .val (.ref u)] [(.int (0 : Int32)), (.ref u)])) _
    have xt263 := (own_ext_trans xt257 Xe262)
    have fx264 := SA.ext xt263
    have fx265 := SH.ext xt263
    have fx266 := SL.ext xt263
    refine own_callS X262 hx hZ (y := (⟨"java/lang/StringUTF16", "getChar", "([BI)C"⟩ : MethodName)) hown (hw _ (List.mem_of_getElem? (i := 118) rfl)) (hw _ (List.mem_of_getElem? (i := 119) rfl)) (hw _ (List.mem_of_getElem? (i := 82) rfl)) (hw _ (List.mem_of_getElem? (i := 120) rfl)) (by decide) (W := 0) (own_getc0 l Z a0 hw [] u kb _ (StrChars.Road.wideBytes [c0_, c1_]) (StrChars.lo8 c0_) (StrChars.hi8 c0_) T262.heap n0 sz262 fx264 fx265 fx266 Vu (by decide) (by decide) (by decide) (by decide) rfl rfl) rfl  (pc := 32) (Ls := #[.val (.ref ca), .val (.int (0 : Int32)), .val (.int (2 : Int32)), .val (.ref ba), .val (.int (0 : Int32)), .val (.ref u)]) (argsL := [(.ref u), (.int (0 : Int32))]) (rest := []) (by rw [hml]; rfl) (lenOf own_pd16 rfl) rfl (hb hby own_d_jdk_52_method_16_code_32) (by decide) (by decide) (by decide) (by decide) ?_
    intro v267 T267 L267 X267 hQ267
    obtain ⟨rfl, N267, e267⟩ := hQ267
    show OGo p e below (T267.setTop (mkF m 35 #[.val (.ref ca), .val (.int (0 : Int32)), .val (.int (2 : Int32)), .val (.ref ba), .val (.int (0 : Int32)), .val (.ref u)] [(.int (StrChars.pairCh (StrChars.lo8 c0_) (StrChars.hi8 c0_)))])) _
    have Nc267 := Fr.app Nc262 N267
    rw [StrChars.pair_says hb0.1 hb0.2]
    show OGo p e below (T267.setTop (mkF m 35 #[.val (.ref ca), .val (.int (0 : Int32)), .val (.int (2 : Int32)), .val (.ref ba), .val (.int (0 : Int32)), .val (.ref u)] [(.int c0_)])) _
    refine OGo.step (fun _ kk => XS.sipush X267.here hx rfl (hb hby own_d_jdk_52_method_16_code_35) kk) ?_
    show OGo p e below (T267.setTop (mkF m 38 #[.val (.ref ca), .val (.int (0 : Int32)), .val (.int (2 : Int32)), .val (.ref ba), .val (.int (0 : Int32)), .val (.ref u)] [(.int (255 : Int32)), (.int c0_)])) _
    refine OGo.step (fun _ kk => XS.icmpYes X267.here hx rfl (pc0 := 38) (pc' := 54) rfl (hb hby own_d_jdk_52_method_16_code_38) rfl (tlt hk2).2.2.1 (by decide) (by decide) kk) ?_
    show OGo p e below (T267.setTop (mkF m 54 #[.val (.ref ca), .val (.int (0 : Int32)), .val (.int (2 : Int32)), .val (.ref ba), .val (.int (0 : Int32)), .val (.ref u)] [])) _
    refine OGo.step (fun _ kk => XS.aload X267.here hx rfl (hb hby own_d_jdk_52_method_16_code_54) rfl rfl kk) ?_
    show OGo p e below (T267.setTop (mkF m 56 #[.val (.ref ca), .val (.int (0 : Int32)), .val (.int (2 : Int32)), .val (.ref ba), .val (.int (0 : Int32)), .val (.ref u)] [(.ref u)])) _
    exact own_ret X267 hx hlk hret rfl (Or.inr (Or.inr (Or.inr (Or.inr ⟨rfl, rfl, rfl⟩)))) (hb hby own_d_jdk_52_method_16_code_56) (by rw [e267]; exact ⟨u, kb, rfl, Nc267, xt263, gu0, Vu⟩) (by decide) (by decide)
  · show OGo p e below (T262.setTop (mkF m 32 #[.val (.ref ca), .val (.int (0 : Int32)), .val (.int (2 : Int32)), .val (.ref ba), .val (.int (1 : Int32)), .val (.ref u)] [(.int (1 : Int32)), (.ref u)])) _
    have xt268 := (own_ext_trans xt257 Xe262)
    have fx269 := SA.ext xt268
    have fx270 := SH.ext xt268
    have fx271 := SL.ext xt268
    refine own_callS X262 hx hZ (y := (⟨"java/lang/StringUTF16", "getChar", "([BI)C"⟩ : MethodName)) hown (hw _ (List.mem_of_getElem? (i := 118) rfl)) (hw _ (List.mem_of_getElem? (i := 119) rfl)) (hw _ (List.mem_of_getElem? (i := 82) rfl)) (hw _ (List.mem_of_getElem? (i := 120) rfl)) (by decide) (W := 0) (own_getc1 l Z a0 hw [] u kb _ (StrChars.Road.wideBytes [c0_, c1_]) (StrChars.lo8 c1_) (StrChars.hi8 c1_) T262.heap n0 sz262 fx269 fx270 fx271 Vu (by decide) (by decide) (by decide) (by decide) rfl rfl) rfl  (pc := 32) (Ls := #[.val (.ref ca), .val (.int (0 : Int32)), .val (.int (2 : Int32)), .val (.ref ba), .val (.int (1 : Int32)), .val (.ref u)]) (argsL := [(.ref u), (.int (1 : Int32))]) (rest := []) (by rw [hml]; rfl) (lenOf own_pd16 rfl) rfl (hb hby own_d_jdk_52_method_16_code_32) (by decide) (by decide) (by decide) (by decide) ?_
    intro v272 T272 L272 X272 hQ272
    obtain ⟨rfl, N272, e272⟩ := hQ272
    show OGo p e below (T272.setTop (mkF m 35 #[.val (.ref ca), .val (.int (0 : Int32)), .val (.int (2 : Int32)), .val (.ref ba), .val (.int (1 : Int32)), .val (.ref u)] [(.int (StrChars.pairCh (StrChars.lo8 c1_) (StrChars.hi8 c1_)))])) _
    have Nc272 := Fr.app Nc262 N272
    rw [StrChars.pair_says hb1.1 hb1.2]
    show OGo p e below (T272.setTop (mkF m 35 #[.val (.ref ca), .val (.int (0 : Int32)), .val (.int (2 : Int32)), .val (.ref ba), .val (.int (1 : Int32)), .val (.ref u)] [(.int c1_)])) _
    refine OGo.step (fun _ kk => XS.sipush X272.here hx rfl (hb hby own_d_jdk_52_method_16_code_35) kk) ?_
    show OGo p e below (T272.setTop (mkF m 38 #[.val (.ref ca), .val (.int (0 : Int32)), .val (.int (2 : Int32)), .val (.ref ba), .val (.int (1 : Int32)), .val (.ref u)] [(.int (255 : Int32)), (.int c1_)])) _
    refine OGo.step (fun _ kk => XS.icmpYes X272.here hx rfl (pc0 := 38) (pc' := 54) rfl (hb hby own_d_jdk_52_method_16_code_38) rfl (tlt hk2).2.2.1 (by decide) (by decide) kk) ?_
    show OGo p e below (T272.setTop (mkF m 54 #[.val (.ref ca), .val (.int (0 : Int32)), .val (.int (2 : Int32)), .val (.ref ba), .val (.int (1 : Int32)), .val (.ref u)] [])) _
    refine OGo.step (fun _ kk => XS.aload X272.here hx rfl (hb hby own_d_jdk_52_method_16_code_54) rfl rfl kk) ?_
    show OGo p e below (T272.setTop (mkF m 56 #[.val (.ref ca), .val (.int (0 : Int32)), .val (.int (2 : Int32)), .val (.ref ba), .val (.int (1 : Int32)), .val (.ref u)] [(.ref u)])) _
    exact own_ret X272 hx hlk hret rfl (Or.inr (Or.inr (Or.inr (Or.inr ⟨rfl, rfl, rfl⟩)))) (hb hby own_d_jdk_52_method_16_code_56) (by rw [e272]; exact ⟨u, kb, rfl, Nc272, xt268, gu0, Vu⟩) (by decide) (by decide)

set_option maxRecDepth 65536 in
set_option maxHeartbeats 40000000 in
theorem own_codl2 (l : Launch) (Z : State) (a0 : Array Value) (hw : ∀ d ∈ tables_1, d.before a0 Z = true) (ws : List Jvm.Cond) (u : Addr) (kb : ClassId) (vs : List Value) (h0 : Heap) (n0 : Nat) (Z0 : n0 ≤ h0.size) (Vu : Arv Z h0 u kb .byte (4 : Int32) vs (.int (0 : Int32))) :
    OMet l Z (⟨"java/lang/StringUTF16", "coderFromArrayLen", "([BI)B"⟩ : MethodName) jdk_52_method_15_code 2 (some .byte) ws ({ frames := 0, cells := 0, slots := 0, locals := 0 } : Room) #[(.ref u), (.int (2 : Int32))] h0 (fun v h L => v = some (.int (1 : Int32)) ∧ Fr n0 L ∧ h = h0) := by
  refine OMet.body (plainFor_of_name own_pn4) ?_
  intro p e s m below meth c s₁ hx hby hml hown hnm hret hlk hZ X0 e0
  refine OGo.step (fun _ kk => castTop (show entryFrame m #[(.ref u), (.int (2 : Int32))] 2 = (mkF m 0 #[.val (.ref u), .val (.int (2 : Int32))] []) from by first | (simp [entryFrame, mkF, argsToLocals, Value.category]; done) | rfl) kk) ?_
  show OGo p e below (s₁.setTop (mkF m 0 #[.val (.ref u), .val (.int (2 : Int32))] [])) _
  obtain ⟨cu, Au, qu, Su, Mu, Hu, Gu⟩ := id Vu
  refine OGo.step (fun _ kk => XS.iloadN X0.here hx rfl (hb hby own_d_jdk_52_method_15_code_0) rfl kk) ?_
  show OGo p e below (s₁.setTop (mkF m 1 #[.val (.ref u), .val (.int (2 : Int32))] [(.int (2 : Int32))])) _
  refine OGo.step (fun _ kk => XS.aloadN X0.here hx rfl (hb hby own_d_jdk_52_method_15_code_1) rfl rfl kk) ?_
  show OGo p e below (s₁.setTop (mkF m 2 #[.val (.ref u), .val (.int (2 : Int32))] [(.ref u), (.int (2 : Int32))])) _
  refine OGo.step (fun _ kk => X0.arraylength hx (by rw [e0]; exact (Au).1) (State.isArrayOf_alike hZ.alike (Au).2.1) (g := (mkF m 2 #[.val (.ref u), .val (.int (2 : Int32))] [(.ref u), (.int (2 : Int32))])) rfl rfl (hb hby own_d_jdk_52_method_15_code_2) _ kk) ?_
  rw [len_of Su Mu]
  show OGo p e below (s₁.setTop (mkF m 3 #[.val (.ref u), .val (.int (2 : Int32))] [(.int (4 : Int32)), (.int (2 : Int32))])) _
  refine OGo.step (fun _ kk => XS.isub X0.here hx rfl (hb hby own_d_jdk_52_method_15_code_3) rfl kk) ?_
  show OGo p e below (s₁.setTop (mkF m 4 #[.val (.ref u), .val (.int (2 : Int32))] [(.int ((2 : Int32) - (4 : Int32)))])) _
  refine OGo.step (fun _ kk => XS.bipush X0.here hx rfl (hb hby own_d_jdk_52_method_15_code_4) kk) ?_
  show OGo p e below (s₁.setTop (mkF m 6 #[.val (.ref u), .val (.int (2 : Int32))] [(.int (31 : Int32)), (.int ((2 : Int32) - (4 : Int32)))])) _
  refine OGo.step (fun _ kk => XS.iushr X0.here hx rfl (hb hby own_d_jdk_52_method_15_code_6) rfl kk) ?_
  show OGo p e below (s₁.setTop (mkF m 7 #[.val (.ref u), .val (.int (2 : Int32))] [(.int ((((2 : Int32) - (4 : Int32)).toUInt32 >>> ((31 : Int32) &&& 31).toUInt32).toInt32))])) _
  refine OGo.step (fun _ kk => XS.i2b X0.here hx rfl (hb hby own_d_jdk_52_method_15_code_7) rfl kk) ?_
  show OGo p e below (s₁.setTop (mkF m 8 #[.val (.ref u), .val (.int (2 : Int32))] [(.int (((((2 : Int32) - (4 : Int32)).toUInt32 >>> ((31 : Int32) &&& 31).toUInt32).toInt32).toInt8.toInt32))])) _
  exact own_retN X0 hx hlk hret (by simp) (hb hby own_d_jdk_52_method_15_code_8) ⟨rfl, Fr.nil n0, e0⟩ (by decide) (by decide)

theorem own_ex2 {c0_ c1_ : Int32} (hex : (255 : Int32) < c0_ ∨ (255 : Int32) < c1_) : ∃ c ∈ ([c0_, c1_] : List Int32), (255 : Int32) < c := by
  rcases hex with h | h
  · exact ⟨_, List.mem_of_getElem? (i := 0) rfl, h⟩
  · exact ⟨_, List.mem_of_getElem? (i := 1) rfl, h⟩
set_option maxRecDepth 65536 in
set_option maxHeartbeats 40000000 in
theorem own_new4U2 (l : Launch) (Z : State) (a0 : Array Value) (hw : ∀ d ∈ tables_1, d.before a0 Z = true) (ws : List Jvm.Cond) (a ca : Addr) (kc : ClassId) (c0_ c1_ : Int32) (zc : Int32) (h0 : Heap) (n0 : Nat) (Z0 : n0 ≤ h0.size) (SC : Sta Z h0 "java/lang/String" "COMPACT_STRINGS" "Z" (.int zc)) (hzc : ¬ zc = 0) (SA : Sta Z h0 "java/lang/StringUTF16" "$assertionsDisabled" "Z" (.int (1 : Int32))) (SH : Sta Z h0 "java/lang/StringUTF16" "HI_BYTE_SHIFT" "I" (.int (0 : Int32))) (SL : Sta Z h0 "java/lang/StringUTF16" "LO_BYTE_SHIFT" "I" (.int (8 : Int32))) (E1 : Exa Z h0 a "java/lang/String") (Fv : Fld Z h0 a "java/lang/String" "value" "[B" .null) (Fc : Fld Z h0 a "java/lang/String" "coder" "B" (.int (0 : Int32))) (ga : n0 ≤ a) (Vc : Arv Z h0 ca kc .char (2 : Int32) [(.int c0_), (.int c1_)] (.int (0 : Int32))) (hb0 : ¬ c0_ < 0 ∧ ¬ (65535 : Int32) < c0_) (hb1 : ¬ c1_ < 0 ∧ ¬ (65535 : Int32) < c1_) (hex : (255 : Int32) < c0_ ∨ (255 : Int32) < c1_) :
    OMet l Z (⟨"java/lang/String", "<init>", "([CIILjava/lang/Void;)V"⟩ : MethodName) jdk_42_method_149_code 6 none ws ({ frames := 4, cells := 2, slots := 6, locals := 57 } : Room) #[(.ref a), (.ref ca), (.int (0 : Int32)), (.int (2 : Int32)), .null] h0 (fun v h L => v = none ∧ Fr n0 L ∧ Keep h0 h [a] ∧ OStr Z h a [c0_, c1_]) := by
  refine OMet.body (plainFor_of_name own_pn3) ?_
  intro p e s m below meth c s₁ hx hby hml hown hnm hret hlk hZ X0 e0
  refine OGo.step (fun _ kk => castTop (show entryFrame m #[(.ref a), (.ref ca), (.int (0 : Int32)), (.int (2 : Int32)), .null] 6 = (mkF m 0 #[.val (.ref a), .val (.ref ca), .val (.int (0 : Int32)), .val (.int (2 : Int32)), .val .null, .unset] []) from by first | (simp [entryFrame, mkF, argsToLocals, Value.category]; done) | rfl) kk) ?_
  show OGo p e below (s₁.setTop (mkF m 0 #[.val (.ref a), .val (.ref ca), .val (.int (0 : Int32)), .val (.int (2 : Int32)), .val .null, .unset] [])) _
  refine OGo.step (fun _ kk => XS.aloadN X0.here hx rfl (hb hby own_d_jdk_42_method_149_code_0) rfl rfl kk) ?_
  show OGo p e below (s₁.setTop (mkF m 1 #[.val (.ref a), .val (.ref ca), .val (.int (0 : Int32)), .val (.int (2 : Int32)), .val .null, .unset] [(.ref a)])) _
  obtain ⟨T273, X273, e273, st273⟩ := initO X0 hx hZ hown (hw _ (List.mem_of_getElem? (i := 17) rfl)) (hw _ (List.mem_of_getElem? (i := 18) rfl)) (hw _ (List.mem_of_getElem? (i := 19) rfl)) e0 (g := (mkF m 1 #[.val (.ref a), .val (.ref ca), .val (.int (0 : Int32)), .val (.int (2 : Int32)), .val .null, .unset] [(.ref a)])) rfl (by rw [hml]; rfl) rfl (hb hby own_d_jdk_42_method_149_code_1) (by decide) (W := 0) (by show 2 * 0 + _ ≤ _; exact Nat.le_of_eq rfl) (by decide)
  refine OGo.step st273 ?_
  show OGo p e below (T273.setTop (mkF m 4 #[.val (.ref a), .val (.ref ca), .val (.int (0 : Int32)), .val (.int (2 : Int32)), .val .null, .unset] [])) _
  refine OGo.step (fun _ kk => XS.iloadN X273.here hx rfl (hb hby own_d_jdk_42_method_149_code_4) rfl kk) ?_
  show OGo p e below (T273.setTop (mkF m 5 #[.val (.ref a), .val (.ref ca), .val (.int (0 : Int32)), .val (.int (2 : Int32)), .val .null, .unset] [(.int (2 : Int32))])) _
  refine OGo.step (fun _ kk => XS.ifYes X273.here hx rfl (pc0 := 5) (pc' := 27) rfl (hb hby own_d_jdk_42_method_149_code_5) rfl ((if0 _ _).trans (feq (by decide)).2) (by decide) (by decide) kk) ?_
  show OGo p e below (T273.setTop (mkF m 27 #[.val (.ref a), .val (.ref ca), .val (.int (0 : Int32)), .val (.int (2 : Int32)), .val .null, .unset] [])) _
  obtain ⟨T274, X274, e274, st274⟩ := getS2 X273 hx hZ hown (host := "") (Or.inl (hw _ (List.mem_of_getElem? (i := 60) rfl))) Via.refl e273 SC (g := (mkF m 27 #[.val (.ref a), .val (.ref ca), .val (.int (0 : Int32)), .val (.int (2 : Int32)), .val .null, .unset] [])) rfl (hb hby own_d_jdk_42_method_149_code_27)
  refine OGo.step st274 ?_
  show OGo p e below (T274.setTop (mkF m 30 #[.val (.ref a), .val (.ref ca), .val (.int (0 : Int32)), .val (.int (2 : Int32)), .val .null, .unset] [(.int zc)])) _
  refine OGo.step (fun _ kk => XS.ifNo X274.here hx rfl (hb hby own_d_jdk_42_method_149_code_30) rfl ((if0 _ _).trans (feq hzc).1) kk) ?_
  show OGo p e below (T274.setTop (mkF m 33 #[.val (.ref a), .val (.ref ca), .val (.int (0 : Int32)), .val (.int (2 : Int32)), .val .null, .unset] [])) _
  refine OGo.step (fun _ kk => XS.aloadN X274.here hx rfl (hb hby own_d_jdk_42_method_149_code_33) rfl rfl kk) ?_
  show OGo p e below (T274.setTop (mkF m 34 #[.val (.ref a), .val (.ref ca), .val (.int (0 : Int32)), .val (.int (2 : Int32)), .val .null, .unset] [(.ref ca)])) _
  refine OGo.step (fun _ kk => XS.iloadN X274.here hx rfl (hb hby own_d_jdk_42_method_149_code_34) rfl kk) ?_
  show OGo p e below (T274.setTop (mkF m 35 #[.val (.ref a), .val (.ref ca), .val (.int (0 : Int32)), .val (.int (2 : Int32)), .val .null, .unset] [(.int (0 : Int32)), (.ref ca)])) _
  refine OGo.step (fun _ kk => XS.iloadN X274.here hx rfl (hb hby own_d_jdk_42_method_149_code_35) rfl kk) ?_
  show OGo p e below (T274.setTop (mkF m 36 #[.val (.ref a), .val (.ref ca), .val (.int (0 : Int32)), .val (.int (2 : Int32)), .val .null, .unset] [(.int (2 : Int32)), (.int (0 : Int32)), (.ref ca)])) _
  refine own_callS X274 hx hZ (y := (⟨"java/lang/StringUTF16", "compress", "([CII)[B"⟩ : MethodName)) hown (hw _ (List.mem_of_getElem? (i := 80) rfl)) (hw _ (List.mem_of_getElem? (i := 81) rfl)) (hw _ (List.mem_of_getElem? (i := 82) rfl)) (hw _ (List.mem_of_getElem? (i := 83) rfl)) (by decide) (W := 0) (own_cmp3_2 l Z a0 hw [] ca kc c0_ c1_ h0 n0 Z0 SA SH SL Vc hb0 hb1 hex) e274  (pc := 36) (Ls := #[.val (.ref a), .val (.ref ca), .val (.int (0 : Int32)), .val (.int (2 : Int32)), .val .null, .unset]) (argsL := [(.ref ca), (.int (0 : Int32)), (.int (2 : Int32))]) (rest := []) (by rw [hml]; rfl) (lenOf own_pd15 rfl) rfl (hb hby own_d_jdk_42_method_149_code_36) (by decide) (by decide) (by decide) (by decide) ?_
  intro v275 T275 L275 X275 hQ275
  obtain ⟨u, kb, rfl, N275, Xe275, gu, Vu⟩ := hQ275
  show OGo p e below (T275.setTop (mkF m 39 #[.val (.ref a), .val (.ref ca), .val (.int (0 : Int32)), .val (.int (2 : Int32)), .val .null, .unset] [(.ref u)])) _
  have nau : a ≠ u := Nat.ne_of_lt (Nat.lt_of_lt_of_le E1.lt gu)
  have Nc275 := Fr.app (Fr.nil n0) N275
  have sz275 : n0 ≤ T275.heap.size := Nat.le_trans Z0 Xe275.1
  refine OGo.step (fun _ kk => XS.astore X275.here hx rfl (hb hby own_d_jdk_42_method_149_code_39) rfl rfl (l' := #[.val (.ref a), .val (.ref ca), .val (.int (0 : Int32)), .val (.int (2 : Int32)), .val .null, .val (.ref u)]) rfl kk) ?_
  show OGo p e below (T275.setTop (mkF m 41 #[.val (.ref a), .val (.ref ca), .val (.int (0 : Int32)), .val (.int (2 : Int32)), .val .null, .val (.ref u)] [])) _
  refine OGo.step (fun _ kk => XS.aloadN X275.here hx rfl (hb hby own_d_jdk_42_method_149_code_41) rfl rfl kk) ?_
  show OGo p e below (T275.setTop (mkF m 42 #[.val (.ref a), .val (.ref ca), .val (.int (0 : Int32)), .val (.int (2 : Int32)), .val .null, .val (.ref u)] [(.ref a)])) _
  refine OGo.step (fun _ kk => XS.aload X275.here hx rfl (hb hby own_d_jdk_42_method_149_code_42) rfl rfl kk) ?_
  show OGo p e below (T275.setTop (mkF m 44 #[.val (.ref a), .val (.ref ca), .val (.int (0 : Int32)), .val (.int (2 : Int32)), .val .null, .val (.ref u)] [(.ref u), (.ref a)])) _
  refine OGo.step (fun _ kk => XS.iloadN X275.here hx rfl (hb hby own_d_jdk_42_method_149_code_44) rfl kk) ?_
  show OGo p e below (T275.setTop (mkF m 45 #[.val (.ref a), .val (.ref ca), .val (.int (0 : Int32)), .val (.int (2 : Int32)), .val .null, .val (.ref u)] [(.int (2 : Int32)), (.ref u), (.ref a)])) _
  refine own_callS X275 hx hZ (y := (⟨"java/lang/StringUTF16", "coderFromArrayLen", "([BI)B"⟩ : MethodName)) hown (hw _ (List.mem_of_getElem? (i := 87) rfl)) (hw _ (List.mem_of_getElem? (i := 88) rfl)) (hw _ (List.mem_of_getElem? (i := 82) rfl)) (hw _ (List.mem_of_getElem? (i := 89) rfl)) (by decide) (W := 1) (own_codl2 l Z a0 hw [] u kb _ T275.heap n0 sz275 Vu) rfl  (pc := 45) (Ls := #[.val (.ref a), .val (.ref ca), .val (.int (0 : Int32)), .val (.int (2 : Int32)), .val .null, .val (.ref u)]) (argsL := [(.ref u), (.int (2 : Int32))]) (rest := [(.ref a)]) (by rw [hml]; rfl) (lenOf own_pd17 rfl) rfl (hb hby own_d_jdk_42_method_149_code_45) (by decide) (by decide) (by decide) (by decide) ?_
  intro v276 T276 L276 X276 hQ276
  obtain ⟨rfl, N276, e276⟩ := hQ276
  show OGo p e below (T276.setTop (mkF m 48 #[.val (.ref a), .val (.ref ca), .val (.int (0 : Int32)), .val (.int (2 : Int32)), .val .null, .val (.ref u)] [(.int (1 : Int32)), (.ref a)])) _
  have Nc276 := Fr.app Nc275 N276
  have fc277 := (Fc.ext Xe275)
  have fc278 := (E1.ext Xe275)
  obtain ⟨T279, h279, X279, e279, W279, st279⟩ := putFN X276 hx hZ hown (hw _ (List.mem_of_getElem? (i := 27) rfl)) Via.refl e276 fc277 fc278 (Or.inr ⟨(hw _ (List.mem_of_getElem? (i := 23) rfl)), rfl, hnm⟩) (hw _ (List.mem_of_getElem? (i := 7) rfl)) (ty := .byte) (v' := (.int (1 : Int32))) (by decide) rfl rfl (g := (mkF m 48 #[.val (.ref a), .val (.ref ca), .val (.int (0 : Int32)), .val (.int (2 : Int32)), .val .null, .val (.ref u)] [(.int (1 : Int32)), (.ref a)])) rfl rfl (hb hby own_d_jdk_42_method_149_code_48)
  refine OGo.step st279 ?_
  show OGo p e below (T279.setTop (mkF m 51 #[.val (.ref a), .val (.ref ca), .val (.int (0 : Int32)), .val (.int (2 : Int32)), .val .null, .val (.ref u)] [])) _
  have Fw279 := fc277.same W279
  have Nf279 := Fr.snoc X279 Nc276 ga
  have sz279 : n0 ≤ h279.size := by rw [W279.size]; exact sz275
  refine OGo.step (fun _ kk => XS.aloadN X279.here hx rfl (hb hby own_d_jdk_42_method_149_code_51) rfl rfl kk) ?_
  show OGo p e below (T279.setTop (mkF m 52 #[.val (.ref a), .val (.ref ca), .val (.int (0 : Int32)), .val (.int (2 : Int32)), .val .null, .val (.ref u)] [(.ref a)])) _
  refine OGo.step (fun _ kk => XS.aload X279.here hx rfl (hb hby own_d_jdk_42_method_149_code_52) rfl rfl kk) ?_
  show OGo p e below (T279.setTop (mkF m 54 #[.val (.ref a), .val (.ref ca), .val (.int (0 : Int32)), .val (.int (2 : Int32)), .val .null, .val (.ref u)] [(.ref u), (.ref a)])) _
  have fc280 := ((Fv.ext Xe275).other W279 (Or.inr (slot_ne (Or.inr (hw _ (List.mem_of_getElem? (i := 22) rfl))) (Or.inr (hw _ (List.mem_of_getElem? (i := 23) rfl))) (by decide) (t := (.array .byte)) (t' := .byte) (by decide) (by decide))))
  have fc281 := (fc278.wr W279)
  obtain ⟨T282, h282, X282, e282, W282, st282⟩ := putF X279 hx hZ hown (host := "") (Or.inl (hw _ (List.mem_of_getElem? (i := 26) rfl))) Via.refl e279 fc280 fc281 (Or.inr ⟨(hw _ (List.mem_of_getElem? (i := 22) rfl)), rfl, hnm⟩) (hw _ (List.mem_of_getElem? (i := 7) rfl)) (ty := (.array .byte)) (by decide) rfl rfl (g := (mkF m 54 #[.val (.ref a), .val (.ref ca), .val (.int (0 : Int32)), .val (.int (2 : Int32)), .val .null, .val (.ref u)] [(.ref u), (.ref a)])) rfl rfl (hb hby own_d_jdk_42_method_149_code_54)
  refine OGo.step st282 ?_
  show OGo p e below (T282.setTop (mkF m 57 #[.val (.ref a), .val (.ref ca), .val (.int (0 : Int32)), .val (.int (2 : Int32)), .val .null, .val (.ref u)] [])) _
  have Fw282 := fc280.same W282
  have Nf282 := Fr.snoc X282 Nf279 ga
  have sz282 : n0 ≤ h282.size := by rw [W282.size]; exact sz279
  have fc283 := (fc281.wr W282)
  have fc284 := (Fw279.other W282 (Or.inr (slot_ne (Or.inr (hw _ (List.mem_of_getElem? (i := 23) rfl))) (Or.inr (hw _ (List.mem_of_getElem? (i := 22) rfl))) (by decide) (t := .byte) (t' := (.array .byte)) (by decide) (by decide))))
  have fc285 := ((Vu.other W279 (Ne.symm nau)).other W282 (Ne.symm nau))
  have HO : OStr Z h282 a [c0_, c1_] := ⟨u, kb, 1, (4 : Int32), _, fc283, Fw282, fc284, fc285, Or.inr ⟨rfl, rfl, rfl, own_ex2 hex⟩, (own_allS hb0 (own_allS hb1 own_all0)), Nat.le_of_ble_eq_true rfl⟩
  have HK := ((((Keep.refl h0 [a]).ext Xe275).wr W279 (Or.inl (List.mem_of_getElem? (i := 0) rfl))).wr W282 (Or.inl (List.mem_of_getElem? (i := 0) rfl)))
  exact own_ret0 X282 hx hlk hret (hb hby own_d_jdk_42_method_149_code_57) (by rw [e282]; exact ⟨rfl, Nf282, HK, HO⟩) (by decide) (by decide)

set_option maxRecDepth 65536 in
set_option maxHeartbeats 40000000 in
theorem own_new1U2 (l : Launch) (Z : State) (a0 : Array Value) (hw : ∀ d ∈ tables_1, d.before a0 Z = true) (ws : List Jvm.Cond) (a ca : Addr) (kc : ClassId) (c0_ c1_ : Int32) (zc : Int32) (h0 : Heap) (n0 : Nat) (Z0 : n0 ≤ h0.size) (SC : Sta Z h0 "java/lang/String" "COMPACT_STRINGS" "Z" (.int zc)) (hzc : ¬ zc = 0) (SA : Sta Z h0 "java/lang/StringUTF16" "$assertionsDisabled" "Z" (.int (1 : Int32))) (SH : Sta Z h0 "java/lang/StringUTF16" "HI_BYTE_SHIFT" "I" (.int (0 : Int32))) (SL : Sta Z h0 "java/lang/StringUTF16" "LO_BYTE_SHIFT" "I" (.int (8 : Int32))) (E1 : Exa Z h0 a "java/lang/String") (Fv : Fld Z h0 a "java/lang/String" "value" "[B" .null) (Fc : Fld Z h0 a "java/lang/String" "coder" "B" (.int (0 : Int32))) (ga : n0 ≤ a) (Vc : Arv Z h0 ca kc .char (2 : Int32) [(.int c0_), (.int c1_)] (.int (0 : Int32))) (hb0 : ¬ c0_ < 0 ∧ ¬ (65535 : Int32) < c0_) (hb1 : ¬ c1_ < 0 ∧ ¬ (65535 : Int32) < c1_) (hex : (255 : Int32) < c0_ ∨ (255 : Int32) < c1_) :
    OMet l Z (⟨"java/lang/String", "<init>", "([C)V"⟩ : MethodName) jdk_42_method_3_code 2 none ws ({ frames := 5, cells := 2, slots := 6, locals := 74 } : Room) #[(.ref a), (.ref ca)] h0 (fun v h L => v = none ∧ Fr n0 L ∧ Keep h0 h [a] ∧ OStr Z h a [c0_, c1_]) := by
  refine OMet.body (plainFor_of_name own_pn3) ?_
  intro p e s m below meth c s₁ hx hby hml hown hnm hret hlk hZ X0 e0
  refine OGo.step (fun _ kk => castTop (show entryFrame m #[(.ref a), (.ref ca)] 2 = (mkF m 0 #[.val (.ref a), .val (.ref ca)] []) from by first | (simp [entryFrame, mkF, argsToLocals, Value.category]; done) | rfl) kk) ?_
  show OGo p e below (s₁.setTop (mkF m 0 #[.val (.ref a), .val (.ref ca)] [])) _
  obtain ⟨cb, Ab, qb, Sb, Mb, Hb, Gb⟩ := id Vc
  refine OGo.step (fun _ kk => XS.aloadN X0.here hx rfl (hb hby own_d_jdk_42_method_3_code_0) rfl rfl kk) ?_
  show OGo p e below (s₁.setTop (mkF m 1 #[.val (.ref a), .val (.ref ca)] [(.ref a)])) _
  refine OGo.step (fun _ kk => XS.aloadN X0.here hx rfl (hb hby own_d_jdk_42_method_3_code_1) rfl rfl kk) ?_
  show OGo p e below (s₁.setTop (mkF m 2 #[.val (.ref a), .val (.ref ca)] [(.ref ca), (.ref a)])) _
  refine OGo.step (fun _ kk => XS.iconst X0.here hx rfl (hb hby own_d_jdk_42_method_3_code_2) kk) ?_
  show OGo p e below (s₁.setTop (mkF m 3 #[.val (.ref a), .val (.ref ca)] [(.int (0 : Int32)), (.ref ca), (.ref a)])) _
  refine OGo.step (fun _ kk => XS.aloadN X0.here hx rfl (hb hby own_d_jdk_42_method_3_code_3) rfl rfl kk) ?_
  show OGo p e below (s₁.setTop (mkF m 4 #[.val (.ref a), .val (.ref ca)] [(.ref ca), (.int (0 : Int32)), (.ref ca), (.ref a)])) _
  refine OGo.step (fun _ kk => X0.arraylength hx (by rw [e0]; exact (Ab).1) (State.isArrayOf_alike hZ.alike (Ab).2.1) (g := (mkF m 4 #[.val (.ref a), .val (.ref ca)] [(.ref ca), (.int (0 : Int32)), (.ref ca), (.ref a)])) rfl rfl (hb hby own_d_jdk_42_method_3_code_4) _ kk) ?_
  rw [len_of Sb Mb]
  show OGo p e below (s₁.setTop (mkF m 5 #[.val (.ref a), .val (.ref ca)] [(.int (2 : Int32)), (.int (0 : Int32)), (.ref ca), (.ref a)])) _
  refine OGo.step (fun _ kk => XS.aconstNull X0.here hx rfl (hb hby own_d_jdk_42_method_3_code_5) kk) ?_
  show OGo p e below (s₁.setTop (mkF m 6 #[.val (.ref a), .val (.ref ca)] [.null, (.int (2 : Int32)), (.int (0 : Int32)), (.ref ca), (.ref a)])) _
  refine own_special X0 hx hZ (y := (⟨"java/lang/String", "<init>", "([CIILjava/lang/Void;)V"⟩ : MethodName)) rfl hown (hw _ (List.mem_of_getElem? (i := 13) rfl)) (hw _ (List.mem_of_getElem? (i := 14) rfl)) (hw _ (List.mem_of_getElem? (i := 16) rfl)) (hw _ (List.mem_of_getElem? (i := 8) rfl)) (by decide) (a := a) (W := 0) (own_new4U2 l Z a0 hw [] a ca kc c0_ c1_ zc h0 n0 Z0 SC hzc SA SH SL E1 Fv Fc ga Vc hb0 hb1 hex) e0  (pc := 6) (Ls := #[.val (.ref a), .val (.ref ca)]) (argsL := [(.ref ca), (.int (0 : Int32)), (.int (2 : Int32)), .null]) (rest := []) (by rw [hml]; rfl) (lenOf own_pd10 rfl) rfl (hb hby own_d_jdk_42_method_3_code_6) (by decide) (by decide) (by decide) (by decide) ?_
  intro v286 T286 L286 X286 hQ286
  obtain ⟨rfl, N286, K286, O286⟩ := hQ286
  show OGo p e below (T286.setTop (mkF m 9 #[.val (.ref a), .val (.ref ca)] [])) _
  exact own_ret0 X286 hx hlk hret (hb hby own_d_jdk_42_method_3_code_9) ⟨rfl, Fr.app (Fr.nil n0) N286, K286, O286⟩ (by decide) (by decide)

set_option maxRecDepth 65536 in
set_option maxHeartbeats 40000000 in
theorem own_nbl3 (l : Launch) (Z : State) (a0 : Array Value) (hw : ∀ d ∈ tables_1, d.before a0 Z = true) (ws : List Jvm.Cond)  (h0 : Heap) (n0 : Nat) (Z0 : n0 ≤ h0.size)  :
    OMet l Z (⟨"java/lang/StringUTF16", "newBytesLength", "(I)I"⟩ : MethodName) jdk_52_method_3_code 1 (some .int) ws ({ frames := 0, cells := 0, slots := 0, locals := 0 } : Room) #[(.int (3 : Int32))] h0 (fun v h L => v = some (.int (6 : Int32)) ∧ Fr n0 L ∧ h = h0) := by
  refine OMet.body (plainFor_of_name own_pn4) ?_
  intro p e s m below meth c s₁ hx hby hml hown hnm hret hlk hZ X0 e0
  refine OGo.step (fun _ kk => castTop (show entryFrame m #[(.int (3 : Int32))] 1 = (mkF m 0 #[.val (.int (3 : Int32))] []) from by first | (simp [entryFrame, mkF, argsToLocals, Value.category]; done) | rfl) kk) ?_
  show OGo p e below (s₁.setTop (mkF m 0 #[.val (.int (3 : Int32))] [])) _
  refine OGo.step (fun _ kk => XS.iloadN X0.here hx rfl (hb hby own_d_jdk_52_method_3_code_0) rfl kk) ?_
  show OGo p e below (s₁.setTop (mkF m 1 #[.val (.int (3 : Int32))] [(.int (3 : Int32))])) _
  refine OGo.step (fun _ kk => XS.ifYes X0.here hx rfl (pc0 := 1) (pc' := 12) rfl (hb hby own_d_jdk_52_method_3_code_1) rfl ((if0 _ _).trans (flt (by decide)).2.1) (by decide) (by decide) kk) ?_
  show OGo p e below (s₁.setTop (mkF m 12 #[.val (.int (3 : Int32))] [])) _
  refine OGo.step (fun _ kk => XS.iloadN X0.here hx rfl (hb hby own_d_jdk_52_method_3_code_12) rfl kk) ?_
  show OGo p e below (s₁.setTop (mkF m 13 #[.val (.int (3 : Int32))] [(.int (3 : Int32))])) _
  refine OGo.step (fun _ kk => X0.ldcInt hx hown (mvT hZ (hw _ (List.mem_of_getElem? (i := 117) rfl))) (g := (mkF m 13 #[.val (.int (3 : Int32))] [(.int (3 : Int32))])) rfl (hb hby own_d_jdk_52_method_3_code_13) _ kk) ?_
  show OGo p e below (s₁.setTop (mkF m 15 #[.val (.int (3 : Int32))] [(.int (1073741823 : Int32)), (.int (3 : Int32))])) _
  refine OGo.step (fun _ kk => XS.icmpYes X0.here hx rfl (pc0 := 15) (pc' := 55) rfl (hb hby own_d_jdk_52_method_3_code_15) rfl (tlt (by decide)).1 (by decide) (by decide) kk) ?_
  show OGo p e below (s₁.setTop (mkF m 55 #[.val (.int (3 : Int32))] [])) _
  refine OGo.step (fun _ kk => XS.iloadN X0.here hx rfl (hb hby own_d_jdk_52_method_3_code_55) rfl kk) ?_
  show OGo p e below (s₁.setTop (mkF m 56 #[.val (.int (3 : Int32))] [(.int (3 : Int32))])) _
  refine OGo.step (fun _ kk => XS.iconst X0.here hx rfl (hb hby own_d_jdk_52_method_3_code_56) kk) ?_
  show OGo p e below (s₁.setTop (mkF m 57 #[.val (.int (3 : Int32))] [(.int (1 : Int32)), (.int (3 : Int32))])) _
  refine OGo.step (fun _ kk => XS.ishl X0.here hx rfl (hb hby own_d_jdk_52_method_3_code_57) rfl kk) ?_
  show OGo p e below (s₁.setTop (mkF m 58 #[.val (.int (3 : Int32))] [(.int ((3 : Int32) <<< ((1 : Int32) &&& 31)))])) _
  exact own_ret X0 hx hlk hret rfl (Or.inl ⟨rfl, Or.inl rfl, _, rfl⟩) (hb hby own_d_jdk_52_method_3_code_58) ⟨rfl, Fr.nil n0, e0⟩ (by decide) (by decide)

set_option maxRecDepth 65536 in
set_option maxHeartbeats 40000000 in
theorem own_nbf3 (l : Launch) (Z : State) (a0 : Array Value) (hw : ∀ d ∈ tables_1, d.before a0 Z = true) (ws : List Jvm.Cond)  (h0 : Heap) (n0 : Nat) (Z0 : n0 ≤ h0.size)  :
    OMet l Z (⟨"java/lang/StringUTF16", "newBytesFor", "(I)[B"⟩ : MethodName) jdk_52_method_2_code 1 (some (.array .byte)) ws ({ frames := 1, cells := 1, slots := 6, locals := 12 } : Room) #[(.int (3 : Int32))] h0 (fun v h L => ∃ (u : Addr) (kb : ClassId), v = some (.ref u) ∧ Fr n0 L ∧ Ext h0 h ∧ h0.size ≤ u ∧ Arv Z h u kb .byte (6 : Int32) [(.int (0 : Int32)), (.int (0 : Int32)), (.int (0 : Int32)), (.int (0 : Int32)), (.int (0 : Int32)), (.int (0 : Int32))] (.int (0 : Int32))) := by
  refine OMet.body (plainFor_of_name own_pn4) ?_
  intro p e s m below meth c s₁ hx hby hml hown hnm hret hlk hZ X0 e0
  refine OGo.step (fun _ kk => castTop (show entryFrame m #[(.int (3 : Int32))] 1 = (mkF m 0 #[.val (.int (3 : Int32))] []) from by first | (simp [entryFrame, mkF, argsToLocals, Value.category]; done) | rfl) kk) ?_
  show OGo p e below (s₁.setTop (mkF m 0 #[.val (.int (3 : Int32))] [])) _
  refine OGo.step (fun _ kk => XS.iloadN X0.here hx rfl (hb hby own_d_jdk_52_method_2_code_0) rfl kk) ?_
  show OGo p e below (s₁.setTop (mkF m 1 #[.val (.int (3 : Int32))] [(.int (3 : Int32))])) _
  refine own_callS X0 hx hZ (y := (⟨"java/lang/StringUTF16", "newBytesLength", "(I)I"⟩ : MethodName)) hown (hw _ (List.mem_of_getElem? (i := 114) rfl)) (hw _ (List.mem_of_getElem? (i := 115) rfl)) (hw _ (List.mem_of_getElem? (i := 82) rfl)) (hw _ (List.mem_of_getElem? (i := 116) rfl)) (by decide) (W := 0) (own_nbl3 l Z a0 hw [] h0 n0 Z0) e0  (pc := 1) (Ls := #[.val (.int (3 : Int32))]) (argsL := [(.int (3 : Int32))]) (rest := []) (by rw [hml]; rfl) (lenOf own_pd11 rfl) rfl (hb hby own_d_jdk_52_method_2_code_1) (by decide) (by decide) (by decide) (by decide) ?_
  intro v287 T287 L287 X287 hQ287
  obtain ⟨rfl, N287, e287⟩ := hQ287
  show OGo p e below (T287.setTop (mkF m 4 #[.val (.int (3 : Int32))] [(.int (6 : Int32))])) _
  have Nc287 := Fr.app (Fr.nil n0) N287
  obtain ⟨T288, h288, k288, X288, e288, E288, A288, st288⟩ := newP X287 hx hZ (hw _ (List.mem_of_getElem? (i := 21) rfl)) e287 (g := (mkF m 4 #[.val (.int (3 : Int32))] [(.int (6 : Int32))])) rfl (hb hby own_d_jdk_52_method_2_code_4) rfl (by decide) (cap := 6) (by decide) (by decide) (by decide) (by decide)
  obtain ⟨u, g288⟩ : ∃ z, z = h0.size := ⟨_, rfl⟩
  rw [← g288] at A288 st288
  refine OGo.step st288 ?_
  show OGo p e below (T288.setTop (mkF m 6 #[.val (.int (3 : Int32))] [(.ref u)])) _
  have gf_u : n0 ≤ u := Nat.le_trans Z0 (Nat.le_of_eq g288.symm)
  have sz288 : n0 ≤ h288.size := Nat.le_trans Z0 E288.1
  have Va : Arv Z h288 u k288 .byte (6 : Int32) [(.int (0 : Int32)), (.int (0 : Int32)), (.int (0 : Int32)), (.int (0 : Int32)), (.int (0 : Int32)), (.int (0 : Int32))] (.int (0 : Int32)) := (Arv.new A288 (by decide)).pad (pad_rep [] (.int (0 : Int32)) 6)
  exact own_ret X288 hx hlk hret rfl (Or.inr (Or.inr (Or.inr (Or.inr ⟨rfl, rfl, rfl⟩)))) (hb hby own_d_jdk_52_method_2_code_6) (by rw [e288]; exact ⟨u, _, rfl, Nc287, E288, (Nat.le_of_eq g288.symm), Va⟩) (by decide) (by decide)

set_option maxRecDepth 65536 in
set_option maxHeartbeats 40000000 in
theorem own_toB3 (l : Launch) (Z : State) (a0 : Array Value) (hw : ∀ d ∈ tables_1, d.before a0 Z = true) (ws : List Jvm.Cond) (ca : Addr) (kc : ClassId) (c0_ c1_ c2_ : Int32) (h0 : Heap) (n0 : Nat) (Z0 : n0 ≤ h0.size) (SA : Sta Z h0 "java/lang/StringUTF16" "$assertionsDisabled" "Z" (.int (1 : Int32))) (SH : Sta Z h0 "java/lang/StringUTF16" "HI_BYTE_SHIFT" "I" (.int (0 : Int32))) (SL : Sta Z h0 "java/lang/StringUTF16" "LO_BYTE_SHIFT" "I" (.int (8 : Int32))) (Vc : Arv Z h0 ca kc .char (3 : Int32) [(.int c0_), (.int c1_), (.int c2_)] (.int (0 : Int32))) :
    OMet l Z (⟨"java/lang/StringUTF16", "toBytes", "([CII)[B"⟩ : MethodName) jdk_52_method_14_code 5 (some (.array .byte)) ws ({ frames := 2, cells := 1, slots := 6, locals := 24 } : Room) #[(.ref ca), (.int (0 : Int32)), (.int (3 : Int32))] h0 (fun v h L => ∃ (u : Addr) (kb : ClassId), v = some (.ref u) ∧ Fr n0 L ∧ Ext h0 h ∧ h0.size ≤ u ∧ Arv Z h u kb .byte (6 : Int32) (StrChars.Road.wideBytes [c0_, c1_, c2_]) (.int (0 : Int32))) := by
  refine OMet.body (plainFor_of_name own_pn4) ?_
  intro p e s m below meth c s₁ hx hby hml hown hnm hret hlk hZ X0 e0
  refine OGo.step (fun _ kk => castTop (show entryFrame m #[(.ref ca), (.int (0 : Int32)), (.int (3 : Int32))] 5 = (mkF m 0 #[.val (.ref ca), .val (.int (0 : Int32)), .val (.int (3 : Int32)), .unset, .unset] []) from by first | (simp [entryFrame, mkF, argsToLocals, Value.category]; done) | rfl) kk) ?_
  show OGo p e below (s₁.setTop (mkF m 0 #[.val (.ref ca), .val (.int (0 : Int32)), .val (.int (3 : Int32)), .unset, .unset] [])) _
  refine OGo.step (fun _ kk => XS.iloadN X0.here hx rfl (hb hby own_d_jdk_52_method_14_code_0) rfl kk) ?_
  show OGo p e below (s₁.setTop (mkF m 1 #[.val (.ref ca), .val (.int (0 : Int32)), .val (.int (3 : Int32)), .unset, .unset] [(.int (3 : Int32))])) _
  refine own_callS X0 hx hZ (y := (⟨"java/lang/StringUTF16", "newBytesFor", "(I)[B"⟩ : MethodName)) hown (hw _ (List.mem_of_getElem? (i := 111) rfl)) (hw _ (List.mem_of_getElem? (i := 112) rfl)) (hw _ (List.mem_of_getElem? (i := 82) rfl)) (hw _ (List.mem_of_getElem? (i := 113) rfl)) (by decide) (W := 0) (own_nbf3 l Z a0 hw [] h0 n0 Z0) e0  (pc := 1) (Ls := #[.val (.ref ca), .val (.int (0 : Int32)), .val (.int (3 : Int32)), .unset, .unset]) (argsL := [(.int (3 : Int32))]) (rest := []) (by rw [hml]; rfl) (lenOf own_pd12 rfl) rfl (hb hby own_d_jdk_52_method_14_code_1) (by decide) (by decide) (by decide) (by decide) ?_
  intro v289 T289 L289 X289 hQ289
  obtain ⟨u, kb, rfl, N289, Xe289, gu, Vu⟩ := hQ289
  show OGo p e below (T289.setTop (mkF m 4 #[.val (.ref ca), .val (.int (0 : Int32)), .val (.int (3 : Int32)), .unset, .unset] [(.ref u)])) _
  have ncu : ca ≠ u := Nat.ne_of_lt (Nat.lt_of_lt_of_le Vc.lt gu)
  have Nc289 := Fr.app (Fr.nil n0) N289
  have sz289 : n0 ≤ T289.heap.size := Nat.le_trans Z0 Xe289.1
  have gfu : n0 ≤ u := Nat.le_trans Z0 gu
  refine OGo.step (fun _ kk => XS.astoreN X289.here hx rfl (hb hby own_d_jdk_52_method_14_code_4) rfl rfl (l' := #[.val (.ref ca), .val (.int (0 : Int32)), .val (.int (3 : Int32)), .val (.ref u), .unset]) rfl kk) ?_
  show OGo p e below (T289.setTop (mkF m 5 #[.val (.ref ca), .val (.int (0 : Int32)), .val (.int (3 : Int32)), .val (.ref u), .unset] [])) _
  refine OGo.step (fun _ kk => XS.iconst X289.here hx rfl (hb hby own_d_jdk_52_method_14_code_5) kk) ?_
  show OGo p e below (T289.setTop (mkF m 6 #[.val (.ref ca), .val (.int (0 : Int32)), .val (.int (3 : Int32)), .val (.ref u), .unset] [(.int (0 : Int32))])) _
  refine OGo.step (fun _ kk => XS.istore X289.here hx rfl (hb hby own_d_jdk_52_method_14_code_6) rfl (l' := #[.val (.ref ca), .val (.int (0 : Int32)), .val (.int (3 : Int32)), .val (.ref u), .val (.int (0 : Int32))]) rfl kk) ?_
  show OGo p e below (T289.setTop (mkF m 8 #[.val (.ref ca), .val (.int (0 : Int32)), .val (.int (3 : Int32)), .val (.ref u), .val (.int (0 : Int32))] [])) _
  show OGo p e below (T289.setTop (mkF m 8 #[.val (.ref ca), .val (.int (0 : Int32)), .val (.int (3 : Int32)), .val (.ref u), .val (.int (0 : Int32))] [])) _
  refine OGo.step (fun _ kk => XS.iload X289.here hx rfl (hb hby own_d_jdk_52_method_14_code_8) rfl kk) ?_
  show OGo p e below (T289.setTop (mkF m 10 #[.val (.ref ca), .val (.int (0 : Int32)), .val (.int (3 : Int32)), .val (.ref u), .val (.int (0 : Int32))] [(.int (0 : Int32))])) _
  refine OGo.step (fun _ kk => XS.iloadN X289.here hx rfl (hb hby own_d_jdk_52_method_14_code_10) rfl kk) ?_
  show OGo p e below (T289.setTop (mkF m 11 #[.val (.ref ca), .val (.int (0 : Int32)), .val (.int (3 : Int32)), .val (.ref u), .val (.int (0 : Int32))] [(.int (3 : Int32)), (.int (0 : Int32))])) _
  refine OGo.step (fun _ kk => XS.icmpNo X289.here hx rfl (hb hby own_d_jdk_52_method_14_code_11) rfl (tlt (by decide)).2.1 kk) ?_
  show OGo p e below (T289.setTop (mkF m 14 #[.val (.ref ca), .val (.int (0 : Int32)), .val (.int (3 : Int32)), .val (.ref u), .val (.int (0 : Int32))] [])) _
  refine OGo.step (fun _ kk => XS.aloadN X289.here hx rfl (hb hby own_d_jdk_52_method_14_code_14) rfl rfl kk) ?_
  show OGo p e below (T289.setTop (mkF m 15 #[.val (.ref ca), .val (.int (0 : Int32)), .val (.int (3 : Int32)), .val (.ref u), .val (.int (0 : Int32))] [(.ref u)])) _
  refine OGo.step (fun _ kk => XS.iload X289.here hx rfl (hb hby own_d_jdk_52_method_14_code_15) rfl kk) ?_
  show OGo p e below (T289.setTop (mkF m 17 #[.val (.ref ca), .val (.int (0 : Int32)), .val (.int (3 : Int32)), .val (.ref u), .val (.int (0 : Int32))] [(.int (0 : Int32)), (.ref u)])) _
  refine OGo.step (fun _ kk => XS.aloadN X289.here hx rfl (hb hby own_d_jdk_52_method_14_code_17) rfl rfl kk) ?_
  show OGo p e below (T289.setTop (mkF m 18 #[.val (.ref ca), .val (.int (0 : Int32)), .val (.int (3 : Int32)), .val (.ref u), .val (.int (0 : Int32))] [(.ref ca), (.int (0 : Int32)), (.ref u)])) _
  refine OGo.step (fun _ kk => XS.iloadN X289.here hx rfl (hb hby own_d_jdk_52_method_14_code_18) rfl kk) ?_
  show OGo p e below (T289.setTop (mkF m 19 #[.val (.ref ca), .val (.int (0 : Int32)), .val (.int (3 : Int32)), .val (.ref u), .val (.int (0 : Int32))] [(.int (0 : Int32)), (.ref ca), (.int (0 : Int32)), (.ref u)])) _
  have fc290 := (Vc.ext Xe289)
  obtain ⟨cA291, A291, q291, S291, M291, H291, G291⟩ := id fc290
  refine OGo.step (fun _ kk => X289.caload hx (j := (0 : Int32)) (v := (.int c0_)) (A291).1 (State.isArrayOf_alike hZ.alike (A291).2.1) (A291).2.2 (inb_of S291 ⟨by decide, by decide⟩) (H291 0 (by rw [S291]; decide)) (g := (mkF m 19 #[.val (.ref ca), .val (.int (0 : Int32)), .val (.int (3 : Int32)), .val (.ref u), .val (.int (0 : Int32))] [(.int (0 : Int32)), (.ref ca), (.int (0 : Int32)), (.ref u)])) rfl rfl (hb hby own_d_jdk_52_method_14_code_19) _ kk) ?_
  show OGo p e below (T289.setTop (mkF m 20 #[.val (.ref ca), .val (.int (0 : Int32)), .val (.int (3 : Int32)), .val (.ref u), .val (.int (0 : Int32))] [(.int c0_), (.int (0 : Int32)), (.ref u)])) _
  have fx292 := SA.ext Xe289
  have fx293 := SH.ext Xe289
  have fx294 := SL.ext Xe289
  refine own_callS X289 hx hZ (y := (⟨"java/lang/StringUTF16", "putChar", "([BII)V"⟩ : MethodName)) hown (hw _ (List.mem_of_getElem? (i := 99) rfl)) (hw _ (List.mem_of_getElem? (i := 100) rfl)) (hw _ (List.mem_of_getElem? (i := 82) rfl)) (hw _ (List.mem_of_getElem? (i := 101) rfl)) (by decide) (W := 0) (own_putc0 l Z a0 hw [] u kb _ [(.int (0 : Int32)), (.int (0 : Int32)), (.int (0 : Int32)), (.int (0 : Int32)), (.int (0 : Int32)), (.int (0 : Int32))] c0_ T289.heap n0 sz289 fx292 fx293 fx294 gfu Vu (Nat.le_of_ble_eq_true rfl) (by decide) (by decide)) rfl  (pc := 20) (Ls := #[.val (.ref ca), .val (.int (0 : Int32)), .val (.int (3 : Int32)), .val (.ref u), .val (.int (0 : Int32))]) (argsL := [(.ref u), (.int (0 : Int32)), (.int c0_)]) (rest := []) (by rw [hml]; rfl) (lenOf own_pd13 rfl) rfl (hb hby own_d_jdk_52_method_14_code_20) (by decide) (by decide) (by decide) (by decide) ?_
  intro v295 T295 L295 X295 hQ295
  obtain ⟨rfl, N295, K295, Va295⟩ := hQ295
  show OGo p e below (T295.setTop (mkF m 23 #[.val (.ref ca), .val (.int (0 : Int32)), .val (.int (3 : Int32)), .val (.ref u), .val (.int (0 : Int32))] [])) _
  have Nc295 := Fr.app Nc289 N295
  have sz295 : n0 ≤ T295.heap.size := Nat.le_trans sz289 K295.1
  refine OGo.step (fun _ kk => XS.iinc X295.here hx rfl (hb hby own_d_jdk_52_method_14_code_23) rfl (l' := #[.val (.ref ca), .val (.int ((0 : Int32) + (1 : Int32))), .val (.int (3 : Int32)), .val (.ref u), .val (.int (0 : Int32))]) rfl kk) ?_
  show OGo p e below (T295.setTop (mkF m 26 #[.val (.ref ca), .val (.int ((0 : Int32) + (1 : Int32))), .val (.int (3 : Int32)), .val (.ref u), .val (.int (0 : Int32))] [])) _
  refine OGo.step (fun _ kk => XS.iinc X295.here hx rfl (hb hby own_d_jdk_52_method_14_code_26) rfl (l' := #[.val (.ref ca), .val (.int ((0 : Int32) + (1 : Int32))), .val (.int (3 : Int32)), .val (.ref u), .val (.int ((0 : Int32) + (1 : Int32)))]) rfl kk) ?_
  show OGo p e below (T295.setTop (mkF m 29 #[.val (.ref ca), .val (.int ((0 : Int32) + (1 : Int32))), .val (.int (3 : Int32)), .val (.ref u), .val (.int ((0 : Int32) + (1 : Int32)))] [])) _
  refine OGo.step (fun _ kk => XS.goto X295.here hx rfl (pc0 := 29) (pc' := 8) rfl (hb hby own_d_jdk_52_method_14_code_29) (by decide) (by decide) kk) ?_
  show OGo p e below (T295.setTop (mkF m 8 #[.val (.ref ca), .val (.int ((0 : Int32) + (1 : Int32))), .val (.int (3 : Int32)), .val (.ref u), .val (.int ((0 : Int32) + (1 : Int32)))] [])) _
  show OGo p e below (T295.setTop (mkF m 8 #[.val (.ref ca), .val (.int (1 : Int32)), .val (.int (3 : Int32)), .val (.ref u), .val (.int (1 : Int32))] [])) _
  refine OGo.step (fun _ kk => XS.iload X295.here hx rfl (hb hby own_d_jdk_52_method_14_code_8) rfl kk) ?_
  show OGo p e below (T295.setTop (mkF m 10 #[.val (.ref ca), .val (.int (1 : Int32)), .val (.int (3 : Int32)), .val (.ref u), .val (.int (1 : Int32))] [(.int (1 : Int32))])) _
  refine OGo.step (fun _ kk => XS.iloadN X295.here hx rfl (hb hby own_d_jdk_52_method_14_code_10) rfl kk) ?_
  show OGo p e below (T295.setTop (mkF m 11 #[.val (.ref ca), .val (.int (1 : Int32)), .val (.int (3 : Int32)), .val (.ref u), .val (.int (1 : Int32))] [(.int (3 : Int32)), (.int (1 : Int32))])) _
  refine OGo.step (fun _ kk => XS.icmpNo X295.here hx rfl (hb hby own_d_jdk_52_method_14_code_11) rfl (tlt (by decide)).2.1 kk) ?_
  show OGo p e below (T295.setTop (mkF m 14 #[.val (.ref ca), .val (.int (1 : Int32)), .val (.int (3 : Int32)), .val (.ref u), .val (.int (1 : Int32))] [])) _
  refine OGo.step (fun _ kk => XS.aloadN X295.here hx rfl (hb hby own_d_jdk_52_method_14_code_14) rfl rfl kk) ?_
  show OGo p e below (T295.setTop (mkF m 15 #[.val (.ref ca), .val (.int (1 : Int32)), .val (.int (3 : Int32)), .val (.ref u), .val (.int (1 : Int32))] [(.ref u)])) _
  refine OGo.step (fun _ kk => XS.iload X295.here hx rfl (hb hby own_d_jdk_52_method_14_code_15) rfl kk) ?_
  show OGo p e below (T295.setTop (mkF m 17 #[.val (.ref ca), .val (.int (1 : Int32)), .val (.int (3 : Int32)), .val (.ref u), .val (.int (1 : Int32))] [(.int (1 : Int32)), (.ref u)])) _
  refine OGo.step (fun _ kk => XS.aloadN X295.here hx rfl (hb hby own_d_jdk_52_method_14_code_17) rfl rfl kk) ?_
  show OGo p e below (T295.setTop (mkF m 18 #[.val (.ref ca), .val (.int (1 : Int32)), .val (.int (3 : Int32)), .val (.ref u), .val (.int (1 : Int32))] [(.ref ca), (.int (1 : Int32)), (.ref u)])) _
  refine OGo.step (fun _ kk => XS.iloadN X295.here hx rfl (hb hby own_d_jdk_52_method_14_code_18) rfl kk) ?_
  show OGo p e below (T295.setTop (mkF m 19 #[.val (.ref ca), .val (.int (1 : Int32)), .val (.int (3 : Int32)), .val (.ref u), .val (.int (1 : Int32))] [(.int (1 : Int32)), (.ref ca), (.int (1 : Int32)), (.ref u)])) _
  have fc296 := (fc290.keep K295 (ninS ncu nin0))
  obtain ⟨cA297, A297, q297, S297, M297, H297, G297⟩ := id fc296
  refine OGo.step (fun _ kk => X295.caload hx (j := (1 : Int32)) (v := (.int c1_)) (A297).1 (State.isArrayOf_alike hZ.alike (A297).2.1) (A297).2.2 (inb_of S297 ⟨by decide, by decide⟩) (H297 1 (by rw [S297]; decide)) (g := (mkF m 19 #[.val (.ref ca), .val (.int (1 : Int32)), .val (.int (3 : Int32)), .val (.ref u), .val (.int (1 : Int32))] [(.int (1 : Int32)), (.ref ca), (.int (1 : Int32)), (.ref u)])) rfl rfl (hb hby own_d_jdk_52_method_14_code_19) _ kk) ?_
  show OGo p e below (T295.setTop (mkF m 20 #[.val (.ref ca), .val (.int (1 : Int32)), .val (.int (3 : Int32)), .val (.ref u), .val (.int (1 : Int32))] [(.int c1_), (.int (1 : Int32)), (.ref u)])) _
  have xt298 := (own_ext_keep Xe289 K295 (allS gu all0))
  have fx299 := SA.ext xt298
  have fx300 := SH.ext xt298
  have fx301 := SL.ext xt298
  refine own_callS X295 hx hZ (y := (⟨"java/lang/StringUTF16", "putChar", "([BII)V"⟩ : MethodName)) hown (hw _ (List.mem_of_getElem? (i := 99) rfl)) (hw _ (List.mem_of_getElem? (i := 100) rfl)) (hw _ (List.mem_of_getElem? (i := 82) rfl)) (hw _ (List.mem_of_getElem? (i := 101) rfl)) (by decide) (W := 0) (own_putc1 l Z a0 hw [] u kb _ (([(.int (0 : Int32)), (.int (0 : Int32)), (.int (0 : Int32)), (.int (0 : Int32)), (.int (0 : Int32)), (.int (0 : Int32))].set 0 (.int (StrChars.lo8 c0_))).set 1 (.int (StrChars.hi8 c0_))) c1_ T295.heap n0 sz295 fx299 fx300 fx301 gfu Va295 (Nat.le_of_ble_eq_true rfl) (by decide) (by decide)) rfl  (pc := 20) (Ls := #[.val (.ref ca), .val (.int (1 : Int32)), .val (.int (3 : Int32)), .val (.ref u), .val (.int (1 : Int32))]) (argsL := [(.ref u), (.int (1 : Int32)), (.int c1_)]) (rest := []) (by rw [hml]; rfl) (lenOf own_pd13 rfl) rfl (hb hby own_d_jdk_52_method_14_code_20) (by decide) (by decide) (by decide) (by decide) ?_
  intro v302 T302 L302 X302 hQ302
  obtain ⟨rfl, N302, K302, Va302⟩ := hQ302
  show OGo p e below (T302.setTop (mkF m 23 #[.val (.ref ca), .val (.int (1 : Int32)), .val (.int (3 : Int32)), .val (.ref u), .val (.int (1 : Int32))] [])) _
  have Nc302 := Fr.app Nc295 N302
  have sz302 : n0 ≤ T302.heap.size := Nat.le_trans sz295 K302.1
  refine OGo.step (fun _ kk => XS.iinc X302.here hx rfl (hb hby own_d_jdk_52_method_14_code_23) rfl (l' := #[.val (.ref ca), .val (.int ((1 : Int32) + (1 : Int32))), .val (.int (3 : Int32)), .val (.ref u), .val (.int (1 : Int32))]) rfl kk) ?_
  show OGo p e below (T302.setTop (mkF m 26 #[.val (.ref ca), .val (.int ((1 : Int32) + (1 : Int32))), .val (.int (3 : Int32)), .val (.ref u), .val (.int (1 : Int32))] [])) _
  refine OGo.step (fun _ kk => XS.iinc X302.here hx rfl (hb hby own_d_jdk_52_method_14_code_26) rfl (l' := #[.val (.ref ca), .val (.int ((1 : Int32) + (1 : Int32))), .val (.int (3 : Int32)), .val (.ref u), .val (.int ((1 : Int32) + (1 : Int32)))]) rfl kk) ?_
  show OGo p e below (T302.setTop (mkF m 29 #[.val (.ref ca), .val (.int ((1 : Int32) + (1 : Int32))), .val (.int (3 : Int32)), .val (.ref u), .val (.int ((1 : Int32) + (1 : Int32)))] [])) _
  refine OGo.step (fun _ kk => XS.goto X302.here hx rfl (pc0 := 29) (pc' := 8) rfl (hb hby own_d_jdk_52_method_14_code_29) (by decide) (by decide) kk) ?_
  show OGo p e below (T302.setTop (mkF m 8 #[.val (.ref ca), .val (.int ((1 : Int32) + (1 : Int32))), .val (.int (3 : Int32)), .val (.ref u), .val (.int ((1 : Int32) + (1 : Int32)))] [])) _
  show OGo p e below (T302.setTop (mkF m 8 #[.val (.ref ca), .val (.int (2 : Int32)), .val (.int (3 : Int32)), .val (.ref u), .val (.int (2 : Int32))] [])) _
  refine OGo.step (fun _ kk => XS.iload X302.here hx rfl (hb hby own_d_jdk_52_method_14_code_8) rfl kk) ?_
  show OGo p e below (T302.setTop (mkF m 10 #[.val (.ref ca), .val (.int (2 : Int32)), .val (.int (3 : Int32)), .val (.ref u), .val (.int (2 : Int32))] [(.int (2 : Int32))])) _
  refine OGo.step (fun _ kk => XS.iloadN X302.here hx rfl (hb hby own_d_jdk_52_method_14_code_10) rfl kk) ?_
  show OGo p e below (T302.setTop (mkF m 11 #[.val (.ref ca), .val (.int (2 : Int32)), .val (.int (3 : Int32)), .val (.ref u), .val (.int (2 : Int32))] [(.int (3 : Int32)), (.int (2 : Int32))])) _
  refine OGo.step (fun _ kk => XS.icmpNo X302.here hx rfl (hb hby own_d_jdk_52_method_14_code_11) rfl (tlt (by decide)).2.1 kk) ?_
  show OGo p e below (T302.setTop (mkF m 14 #[.val (.ref ca), .val (.int (2 : Int32)), .val (.int (3 : Int32)), .val (.ref u), .val (.int (2 : Int32))] [])) _
  refine OGo.step (fun _ kk => XS.aloadN X302.here hx rfl (hb hby own_d_jdk_52_method_14_code_14) rfl rfl kk) ?_
  show OGo p e below (T302.setTop (mkF m 15 #[.val (.ref ca), .val (.int (2 : Int32)), .val (.int (3 : Int32)), .val (.ref u), .val (.int (2 : Int32))] [(.ref u)])) _
  refine OGo.step (fun _ kk => XS.iload X302.here hx rfl (hb hby own_d_jdk_52_method_14_code_15) rfl kk) ?_
  show OGo p e below (T302.setTop (mkF m 17 #[.val (.ref ca), .val (.int (2 : Int32)), .val (.int (3 : Int32)), .val (.ref u), .val (.int (2 : Int32))] [(.int (2 : Int32)), (.ref u)])) _
  refine OGo.step (fun _ kk => XS.aloadN X302.here hx rfl (hb hby own_d_jdk_52_method_14_code_17) rfl rfl kk) ?_
  show OGo p e below (T302.setTop (mkF m 18 #[.val (.ref ca), .val (.int (2 : Int32)), .val (.int (3 : Int32)), .val (.ref u), .val (.int (2 : Int32))] [(.ref ca), (.int (2 : Int32)), (.ref u)])) _
  refine OGo.step (fun _ kk => XS.iloadN X302.here hx rfl (hb hby own_d_jdk_52_method_14_code_18) rfl kk) ?_
  show OGo p e below (T302.setTop (mkF m 19 #[.val (.ref ca), .val (.int (2 : Int32)), .val (.int (3 : Int32)), .val (.ref u), .val (.int (2 : Int32))] [(.int (2 : Int32)), (.ref ca), (.int (2 : Int32)), (.ref u)])) _
  have fc303 := (fc296.keep K302 (ninS ncu nin0))
  obtain ⟨cA304, A304, q304, S304, M304, H304, G304⟩ := id fc303
  refine OGo.step (fun _ kk => X302.caload hx (j := (2 : Int32)) (v := (.int c2_)) (A304).1 (State.isArrayOf_alike hZ.alike (A304).2.1) (A304).2.2 (inb_of S304 ⟨by decide, by decide⟩) (H304 2 (by rw [S304]; decide)) (g := (mkF m 19 #[.val (.ref ca), .val (.int (2 : Int32)), .val (.int (3 : Int32)), .val (.ref u), .val (.int (2 : Int32))] [(.int (2 : Int32)), (.ref ca), (.int (2 : Int32)), (.ref u)])) rfl rfl (hb hby own_d_jdk_52_method_14_code_19) _ kk) ?_
  show OGo p e below (T302.setTop (mkF m 20 #[.val (.ref ca), .val (.int (2 : Int32)), .val (.int (3 : Int32)), .val (.ref u), .val (.int (2 : Int32))] [(.int c2_), (.int (2 : Int32)), (.ref u)])) _
  have xt305 := (own_ext_keep xt298 K302 (allS gu all0))
  have fx306 := SA.ext xt305
  have fx307 := SH.ext xt305
  have fx308 := SL.ext xt305
  refine own_callS X302 hx hZ (y := (⟨"java/lang/StringUTF16", "putChar", "([BII)V"⟩ : MethodName)) hown (hw _ (List.mem_of_getElem? (i := 99) rfl)) (hw _ (List.mem_of_getElem? (i := 100) rfl)) (hw _ (List.mem_of_getElem? (i := 82) rfl)) (hw _ (List.mem_of_getElem? (i := 101) rfl)) (by decide) (W := 0) (own_putc2 l Z a0 hw [] u kb _ (((([(.int (0 : Int32)), (.int (0 : Int32)), (.int (0 : Int32)), (.int (0 : Int32)), (.int (0 : Int32)), (.int (0 : Int32))].set 0 (.int (StrChars.lo8 c0_))).set 1 (.int (StrChars.hi8 c0_))).set 2 (.int (StrChars.lo8 c1_))).set 3 (.int (StrChars.hi8 c1_))) c2_ T302.heap n0 sz302 fx306 fx307 fx308 gfu Va302 (Nat.le_of_ble_eq_true rfl) (by decide) (by decide)) rfl  (pc := 20) (Ls := #[.val (.ref ca), .val (.int (2 : Int32)), .val (.int (3 : Int32)), .val (.ref u), .val (.int (2 : Int32))]) (argsL := [(.ref u), (.int (2 : Int32)), (.int c2_)]) (rest := []) (by rw [hml]; rfl) (lenOf own_pd13 rfl) rfl (hb hby own_d_jdk_52_method_14_code_20) (by decide) (by decide) (by decide) (by decide) ?_
  intro v309 T309 L309 X309 hQ309
  obtain ⟨rfl, N309, K309, Va309⟩ := hQ309
  show OGo p e below (T309.setTop (mkF m 23 #[.val (.ref ca), .val (.int (2 : Int32)), .val (.int (3 : Int32)), .val (.ref u), .val (.int (2 : Int32))] [])) _
  have Nc309 := Fr.app Nc302 N309
  have sz309 : n0 ≤ T309.heap.size := Nat.le_trans sz302 K309.1
  refine OGo.step (fun _ kk => XS.iinc X309.here hx rfl (hb hby own_d_jdk_52_method_14_code_23) rfl (l' := #[.val (.ref ca), .val (.int ((2 : Int32) + (1 : Int32))), .val (.int (3 : Int32)), .val (.ref u), .val (.int (2 : Int32))]) rfl kk) ?_
  show OGo p e below (T309.setTop (mkF m 26 #[.val (.ref ca), .val (.int ((2 : Int32) + (1 : Int32))), .val (.int (3 : Int32)), .val (.ref u), .val (.int (2 : Int32))] [])) _
  refine OGo.step (fun _ kk => XS.iinc X309.here hx rfl (hb hby own_d_jdk_52_method_14_code_26) rfl (l' := #[.val (.ref ca), .val (.int ((2 : Int32) + (1 : Int32))), .val (.int (3 : Int32)), .val (.ref u), .val (.int ((2 : Int32) + (1 : Int32)))]) rfl kk) ?_
  show OGo p e below (T309.setTop (mkF m 29 #[.val (.ref ca), .val (.int ((2 : Int32) + (1 : Int32))), .val (.int (3 : Int32)), .val (.ref u), .val (.int ((2 : Int32) + (1 : Int32)))] [])) _
  refine OGo.step (fun _ kk => XS.goto X309.here hx rfl (pc0 := 29) (pc' := 8) rfl (hb hby own_d_jdk_52_method_14_code_29) (by decide) (by decide) kk) ?_
  show OGo p e below (T309.setTop (mkF m 8 #[.val (.ref ca), .val (.int ((2 : Int32) + (1 : Int32))), .val (.int (3 : Int32)), .val (.ref u), .val (.int ((2 : Int32) + (1 : Int32)))] [])) _
  show OGo p e below (T309.setTop (mkF m 8 #[.val (.ref ca), .val (.int (3 : Int32)), .val (.int (3 : Int32)), .val (.ref u), .val (.int (3 : Int32))] [])) _
  refine OGo.step (fun _ kk => XS.iload X309.here hx rfl (hb hby own_d_jdk_52_method_14_code_8) rfl kk) ?_
  show OGo p e below (T309.setTop (mkF m 10 #[.val (.ref ca), .val (.int (3 : Int32)), .val (.int (3 : Int32)), .val (.ref u), .val (.int (3 : Int32))] [(.int (3 : Int32))])) _
  refine OGo.step (fun _ kk => XS.iloadN X309.here hx rfl (hb hby own_d_jdk_52_method_14_code_10) rfl kk) ?_
  show OGo p e below (T309.setTop (mkF m 11 #[.val (.ref ca), .val (.int (3 : Int32)), .val (.int (3 : Int32)), .val (.ref u), .val (.int (3 : Int32))] [(.int (3 : Int32)), (.int (3 : Int32))])) _
  refine OGo.step (fun _ kk => XS.icmpYes X309.here hx rfl (pc0 := 11) (pc' := 32) rfl (hb hby own_d_jdk_52_method_14_code_11) rfl (flt (by decide)).2.1 (by decide) (by decide) kk) ?_
  show OGo p e below (T309.setTop (mkF m 32 #[.val (.ref ca), .val (.int (3 : Int32)), .val (.int (3 : Int32)), .val (.ref u), .val (.int (3 : Int32))] [])) _
  refine OGo.step (fun _ kk => XS.aloadN X309.here hx rfl (hb hby own_d_jdk_52_method_14_code_32) rfl rfl kk) ?_
  show OGo p e below (T309.setTop (mkF m 33 #[.val (.ref ca), .val (.int (3 : Int32)), .val (.int (3 : Int32)), .val (.ref u), .val (.int (3 : Int32))] [(.ref u)])) _
  have xt310 := (own_ext_keep xt305 K309 (allS gu all0))
  exact own_ret X309 hx hlk hret rfl (Or.inr (Or.inr (Or.inr (Or.inr ⟨rfl, rfl, rfl⟩)))) (hb hby own_d_jdk_52_method_14_code_33) ⟨u, kb, rfl, Nc309, xt310, gu, Va309⟩ (by decide) (by decide)

set_option maxRecDepth 65536 in
set_option maxHeartbeats 40000000 in
theorem own_cmp5_3 (l : Launch) (Z : State) (a0 : Array Value) (hw : ∀ d ∈ tables_1, d.before a0 Z = true) (ws : List Jvm.Cond) (ca ba : Addr) (kc kb : ClassId) (c0_ c1_ c2_ : Int32) (h0 : Heap) (n0 : Nat) (Z0 : n0 ≤ h0.size) (Vc : Arv Z h0 ca kc .char (3 : Int32) [(.int c0_), (.int c1_), (.int c2_)] (.int (0 : Int32))) (Vb : Arv Z h0 ba kb .byte (3 : Int32) [(.int (0 : Int32)), (.int (0 : Int32)), (.int (0 : Int32))] (.int (0 : Int32))) (gb : n0 ≤ ba) (ncb : ca ≠ ba) (hex : (255 : Int32) < c0_ ∨ (255 : Int32) < c1_ ∨ (255 : Int32) < c2_) :
    OMet l Z (⟨"java/lang/StringUTF16", "compress", "([CI[BII)I"⟩ : MethodName) jdk_52_method_21_code 7 (some .int) ws ({ frames := 0, cells := 0, slots := 0, locals := 0 } : Room) #[(.ref ca), (.int (0 : Int32)), (.ref ba), (.int (0 : Int32)), (.int (3 : Int32))] h0 (fun v h L => ∃ k : Nat, v = some (.int (Int32.ofNat k)) ∧ k < 3 ∧ (255 : Int32) < ([c0_, c1_, c2_] : List Int32).getD k 0 ∧ Fr n0 L ∧ Keep h0 h [ba]) := by
  refine OMet.body (plainFor_of_name own_pn4) ?_
  intro p e s m below meth c s₁ hx hby hml hown hnm hret hlk hZ X0 e0
  refine OGo.step (fun _ kk => castTop (show entryFrame m #[(.ref ca), (.int (0 : Int32)), (.ref ba), (.int (0 : Int32)), (.int (3 : Int32))] 7 = (mkF m 0 #[.val (.ref ca), .val (.int (0 : Int32)), .val (.ref ba), .val (.int (0 : Int32)), .val (.int (3 : Int32)), .unset, .unset] []) from by first | (simp [entryFrame, mkF, argsToLocals, Value.category]; done) | rfl) kk) ?_
  show OGo p e below (s₁.setTop (mkF m 0 #[.val (.ref ca), .val (.int (0 : Int32)), .val (.ref ba), .val (.int (0 : Int32)), .val (.int (3 : Int32)), .unset, .unset] [])) _
  refine OGo.step (fun _ kk => XS.iconst X0.here hx rfl (hb hby own_d_jdk_52_method_21_code_0) kk) ?_
  show OGo p e below (s₁.setTop (mkF m 1 #[.val (.ref ca), .val (.int (0 : Int32)), .val (.ref ba), .val (.int (0 : Int32)), .val (.int (3 : Int32)), .unset, .unset] [(.int (0 : Int32))])) _
  refine OGo.step (fun _ kk => XS.istore X0.here hx rfl (hb hby own_d_jdk_52_method_21_code_1) rfl (l' := #[.val (.ref ca), .val (.int (0 : Int32)), .val (.ref ba), .val (.int (0 : Int32)), .val (.int (3 : Int32)), .val (.int (0 : Int32)), .unset]) rfl kk) ?_
  show OGo p e below (s₁.setTop (mkF m 3 #[.val (.ref ca), .val (.int (0 : Int32)), .val (.ref ba), .val (.int (0 : Int32)), .val (.int (3 : Int32)), .val (.int (0 : Int32)), .unset] [])) _
  refine OGo.step (fun _ kk => XS.iload X0.here hx rfl (hb hby own_d_jdk_52_method_21_code_3) rfl kk) ?_
  show OGo p e below (s₁.setTop (mkF m 5 #[.val (.ref ca), .val (.int (0 : Int32)), .val (.ref ba), .val (.int (0 : Int32)), .val (.int (3 : Int32)), .val (.int (0 : Int32)), .unset] [(.int (0 : Int32))])) _
  refine OGo.step (fun _ kk => XS.iload X0.here hx rfl (hb hby own_d_jdk_52_method_21_code_5) rfl kk) ?_
  show OGo p e below (s₁.setTop (mkF m 7 #[.val (.ref ca), .val (.int (0 : Int32)), .val (.ref ba), .val (.int (0 : Int32)), .val (.int (3 : Int32)), .val (.int (0 : Int32)), .unset] [(.int (3 : Int32)), (.int (0 : Int32))])) _
  refine OGo.step (fun _ kk => XS.icmpNo X0.here hx rfl (hb hby own_d_jdk_52_method_21_code_7) rfl (tlt (by decide)).2.1 kk) ?_
  show OGo p e below (s₁.setTop (mkF m 10 #[.val (.ref ca), .val (.int (0 : Int32)), .val (.ref ba), .val (.int (0 : Int32)), .val (.int (3 : Int32)), .val (.int (0 : Int32)), .unset] [])) _
  refine OGo.step (fun _ kk => XS.aloadN X0.here hx rfl (hb hby own_d_jdk_52_method_21_code_10) rfl rfl kk) ?_
  show OGo p e below (s₁.setTop (mkF m 11 #[.val (.ref ca), .val (.int (0 : Int32)), .val (.ref ba), .val (.int (0 : Int32)), .val (.int (3 : Int32)), .val (.int (0 : Int32)), .unset] [(.ref ca)])) _
  refine OGo.step (fun _ kk => XS.iloadN X0.here hx rfl (hb hby own_d_jdk_52_method_21_code_11) rfl kk) ?_
  show OGo p e below (s₁.setTop (mkF m 12 #[.val (.ref ca), .val (.int (0 : Int32)), .val (.ref ba), .val (.int (0 : Int32)), .val (.int (3 : Int32)), .val (.int (0 : Int32)), .unset] [(.int (0 : Int32)), (.ref ca)])) _
  obtain ⟨cA311, A311, q311, S311, M311, H311, G311⟩ := id Vc
  refine OGo.step (fun _ kk => X0.caload hx (j := (0 : Int32)) (v := (.int c0_)) (by rw [e0]; exact (A311).1) (State.isArrayOf_alike hZ.alike (A311).2.1) (A311).2.2 (inb_of S311 ⟨by decide, by decide⟩) (H311 0 (by rw [S311]; decide)) (g := (mkF m 12 #[.val (.ref ca), .val (.int (0 : Int32)), .val (.ref ba), .val (.int (0 : Int32)), .val (.int (3 : Int32)), .val (.int (0 : Int32)), .unset] [(.int (0 : Int32)), (.ref ca)])) rfl rfl (hb hby own_d_jdk_52_method_21_code_12) _ kk) ?_
  show OGo p e below (s₁.setTop (mkF m 13 #[.val (.ref ca), .val (.int (0 : Int32)), .val (.ref ba), .val (.int (0 : Int32)), .val (.int (3 : Int32)), .val (.int (0 : Int32)), .unset] [(.int c0_)])) _
  refine OGo.step (fun _ kk => XS.istore X0.here hx rfl (hb hby own_d_jdk_52_method_21_code_13) rfl (l' := #[.val (.ref ca), .val (.int (0 : Int32)), .val (.ref ba), .val (.int (0 : Int32)), .val (.int (3 : Int32)), .val (.int (0 : Int32)), .val (.int c0_)]) rfl kk) ?_
  show OGo p e below (s₁.setTop (mkF m 15 #[.val (.ref ca), .val (.int (0 : Int32)), .val (.ref ba), .val (.int (0 : Int32)), .val (.int (3 : Int32)), .val (.int (0 : Int32)), .val (.int c0_)] [])) _
  refine OGo.step (fun _ kk => XS.iload X0.here hx rfl (hb hby own_d_jdk_52_method_21_code_15) rfl kk) ?_
  show OGo p e below (s₁.setTop (mkF m 17 #[.val (.ref ca), .val (.int (0 : Int32)), .val (.ref ba), .val (.int (0 : Int32)), .val (.int (3 : Int32)), .val (.int (0 : Int32)), .val (.int c0_)] [(.int c0_)])) _
  refine OGo.step (fun _ kk => XS.sipush X0.here hx rfl (hb hby own_d_jdk_52_method_21_code_17) kk) ?_
  show OGo p e below (s₁.setTop (mkF m 20 #[.val (.ref ca), .val (.int (0 : Int32)), .val (.ref ba), .val (.int (0 : Int32)), .val (.int (3 : Int32)), .val (.int (0 : Int32)), .val (.int c0_)] [(.int (255 : Int32)), (.int c0_)])) _
  by_cases hq0 : (255 : Int32) < c0_
  · refine OGo.step (fun _ kk => XS.icmpNo X0.here hx rfl (hb hby own_d_jdk_52_method_21_code_20) rfl (tlt hq0).2.2.2 kk) ?_
    show OGo p e below (s₁.setTop (mkF m 23 #[.val (.ref ca), .val (.int (0 : Int32)), .val (.ref ba), .val (.int (0 : Int32)), .val (.int (3 : Int32)), .val (.int (0 : Int32)), .val (.int c0_)] [])) _
    refine OGo.step (fun _ kk => XS.iload X0.here hx rfl (hb hby own_d_jdk_52_method_21_code_23) rfl kk) ?_
    show OGo p e below (s₁.setTop (mkF m 25 #[.val (.ref ca), .val (.int (0 : Int32)), .val (.ref ba), .val (.int (0 : Int32)), .val (.int (3 : Int32)), .val (.int (0 : Int32)), .val (.int c0_)] [(.int (0 : Int32))])) _
    have HK := (Keep.refl h0 [ba])
    exact own_ret X0 hx hlk hret rfl (Or.inl ⟨rfl, Or.inl rfl, _, rfl⟩) (hb hby own_d_jdk_52_method_21_code_25) (by rw [e0]; exact ⟨0, rfl, by decide, hq0, (Fr.nil n0), HK⟩) (by decide) (by decide)
  · skip
    refine OGo.step (fun _ kk => XS.icmpYes X0.here hx rfl (pc0 := 20) (pc' := 26) rfl (hb hby own_d_jdk_52_method_21_code_20) rfl (flt hq0).2.2.2 (by decide) (by decide) kk) ?_
    show OGo p e below (s₁.setTop (mkF m 26 #[.val (.ref ca), .val (.int (0 : Int32)), .val (.ref ba), .val (.int (0 : Int32)), .val (.int (3 : Int32)), .val (.int (0 : Int32)), .val (.int c0_)] [])) _
    refine OGo.step (fun _ kk => XS.aloadN X0.here hx rfl (hb hby own_d_jdk_52_method_21_code_26) rfl rfl kk) ?_
    show OGo p e below (s₁.setTop (mkF m 27 #[.val (.ref ca), .val (.int (0 : Int32)), .val (.ref ba), .val (.int (0 : Int32)), .val (.int (3 : Int32)), .val (.int (0 : Int32)), .val (.int c0_)] [(.ref ba)])) _
    refine OGo.step (fun _ kk => XS.iloadN X0.here hx rfl (hb hby own_d_jdk_52_method_21_code_27) rfl kk) ?_
    show OGo p e below (s₁.setTop (mkF m 28 #[.val (.ref ca), .val (.int (0 : Int32)), .val (.ref ba), .val (.int (0 : Int32)), .val (.int (3 : Int32)), .val (.int (0 : Int32)), .val (.int c0_)] [(.int (0 : Int32)), (.ref ba)])) _
    refine OGo.step (fun _ kk => XS.iload X0.here hx rfl (hb hby own_d_jdk_52_method_21_code_28) rfl kk) ?_
    show OGo p e below (s₁.setTop (mkF m 30 #[.val (.ref ca), .val (.int (0 : Int32)), .val (.ref ba), .val (.int (0 : Int32)), .val (.int (3 : Int32)), .val (.int (0 : Int32)), .val (.int c0_)] [(.int c0_), (.int (0 : Int32)), (.ref ba)])) _
    refine OGo.step (fun _ kk => XS.i2b X0.here hx rfl (hb hby own_d_jdk_52_method_21_code_30) rfl kk) ?_
    show OGo p e below (s₁.setTop (mkF m 31 #[.val (.ref ca), .val (.int (0 : Int32)), .val (.ref ba), .val (.int (0 : Int32)), .val (.int (3 : Int32)), .val (.int (0 : Int32)), .val (.int c0_)] [(.int (c0_.toInt8.toInt32)), (.int (0 : Int32)), (.ref ba)])) _
    obtain ⟨cA312, A312, q312, S312, M312, H312, G312⟩ := id Vb
    obtain ⟨T313, h313, X313, e313, W313, st313⟩ := stB X0 hx hZ e0 A312 (j := (0 : Int32)) (inb_of S312 ⟨by decide, by decide⟩) (g := (mkF m 31 #[.val (.ref ca), .val (.int (0 : Int32)), .val (.ref ba), .val (.int (0 : Int32)), .val (.int (3 : Int32)), .val (.int (0 : Int32)), .val (.int c0_)] [(.int (c0_.toInt8.toInt32)), (.int (0 : Int32)), (.ref ba)])) rfl rfl (hb hby own_d_jdk_52_method_21_code_31)
    refine OGo.step st313 ?_
    show OGo p e below (T313.setTop (mkF m 32 #[.val (.ref ca), .val (.int (0 : Int32)), .val (.ref ba), .val (.int (0 : Int32)), .val (.int (3 : Int32)), .val (.int (0 : Int32)), .val (.int c0_)] [])) _
    have Va312 : Arv Z h313 ba kb .byte (3 : Int32) [(.int (nar .byte (c0_.toInt8.toInt32))), (.int (0 : Int32)), (.int (0 : Int32))] (.int (0 : Int32)) := Arv.set A312 q312 S312 M312 H312 G312 (fits_nar_byte _) W313 0 rfl (Nat.le_of_ble_eq_true rfl)
    have Nf313 := Fr.snoc X313 (Fr.nil n0) gb
    have sz313 : n0 ≤ h313.size := by rw [W313.size]; exact Z0
    refine OGo.step (fun _ kk => XS.iinc X313.here hx rfl (hb hby own_d_jdk_52_method_21_code_32) rfl (l' := #[.val (.ref ca), .val (.int ((0 : Int32) + (1 : Int32))), .val (.ref ba), .val (.int (0 : Int32)), .val (.int (3 : Int32)), .val (.int (0 : Int32)), .val (.int c0_)]) rfl kk) ?_
    show OGo p e below (T313.setTop (mkF m 35 #[.val (.ref ca), .val (.int ((0 : Int32) + (1 : Int32))), .val (.ref ba), .val (.int (0 : Int32)), .val (.int (3 : Int32)), .val (.int (0 : Int32)), .val (.int c0_)] [])) _
    refine OGo.step (fun _ kk => XS.iinc X313.here hx rfl (hb hby own_d_jdk_52_method_21_code_35) rfl (l' := #[.val (.ref ca), .val (.int ((0 : Int32) + (1 : Int32))), .val (.ref ba), .val (.int ((0 : Int32) + (1 : Int32))), .val (.int (3 : Int32)), .val (.int (0 : Int32)), .val (.int c0_)]) rfl kk) ?_
    show OGo p e below (T313.setTop (mkF m 38 #[.val (.ref ca), .val (.int ((0 : Int32) + (1 : Int32))), .val (.ref ba), .val (.int ((0 : Int32) + (1 : Int32))), .val (.int (3 : Int32)), .val (.int (0 : Int32)), .val (.int c0_)] [])) _
    refine OGo.step (fun _ kk => XS.iinc X313.here hx rfl (hb hby own_d_jdk_52_method_21_code_38) rfl (l' := #[.val (.ref ca), .val (.int ((0 : Int32) + (1 : Int32))), .val (.ref ba), .val (.int ((0 : Int32) + (1 : Int32))), .val (.int (3 : Int32)), .val (.int ((0 : Int32) + (1 : Int32))), .val (.int c0_)]) rfl kk) ?_
    show OGo p e below (T313.setTop (mkF m 41 #[.val (.ref ca), .val (.int ((0 : Int32) + (1 : Int32))), .val (.ref ba), .val (.int ((0 : Int32) + (1 : Int32))), .val (.int (3 : Int32)), .val (.int ((0 : Int32) + (1 : Int32))), .val (.int c0_)] [])) _
    refine OGo.step (fun _ kk => XS.goto X313.here hx rfl (pc0 := 41) (pc' := 3) rfl (hb hby own_d_jdk_52_method_21_code_41) (by decide) (by decide) kk) ?_
    show OGo p e below (T313.setTop (mkF m 3 #[.val (.ref ca), .val (.int ((0 : Int32) + (1 : Int32))), .val (.ref ba), .val (.int ((0 : Int32) + (1 : Int32))), .val (.int (3 : Int32)), .val (.int ((0 : Int32) + (1 : Int32))), .val (.int c0_)] [])) _
    show OGo p e below (T313.setTop (mkF m 3 #[.val (.ref ca), .val (.int (1 : Int32)), .val (.ref ba), .val (.int (1 : Int32)), .val (.int (3 : Int32)), .val (.int (1 : Int32)), .val (.int c0_)] [])) _
    refine OGo.step (fun _ kk => XS.iload X313.here hx rfl (hb hby own_d_jdk_52_method_21_code_3) rfl kk) ?_
    show OGo p e below (T313.setTop (mkF m 5 #[.val (.ref ca), .val (.int (1 : Int32)), .val (.ref ba), .val (.int (1 : Int32)), .val (.int (3 : Int32)), .val (.int (1 : Int32)), .val (.int c0_)] [(.int (1 : Int32))])) _
    refine OGo.step (fun _ kk => XS.iload X313.here hx rfl (hb hby own_d_jdk_52_method_21_code_5) rfl kk) ?_
    show OGo p e below (T313.setTop (mkF m 7 #[.val (.ref ca), .val (.int (1 : Int32)), .val (.ref ba), .val (.int (1 : Int32)), .val (.int (3 : Int32)), .val (.int (1 : Int32)), .val (.int c0_)] [(.int (3 : Int32)), (.int (1 : Int32))])) _
    refine OGo.step (fun _ kk => XS.icmpNo X313.here hx rfl (hb hby own_d_jdk_52_method_21_code_7) rfl (tlt (by decide)).2.1 kk) ?_
    show OGo p e below (T313.setTop (mkF m 10 #[.val (.ref ca), .val (.int (1 : Int32)), .val (.ref ba), .val (.int (1 : Int32)), .val (.int (3 : Int32)), .val (.int (1 : Int32)), .val (.int c0_)] [])) _
    refine OGo.step (fun _ kk => XS.aloadN X313.here hx rfl (hb hby own_d_jdk_52_method_21_code_10) rfl rfl kk) ?_
    show OGo p e below (T313.setTop (mkF m 11 #[.val (.ref ca), .val (.int (1 : Int32)), .val (.ref ba), .val (.int (1 : Int32)), .val (.int (3 : Int32)), .val (.int (1 : Int32)), .val (.int c0_)] [(.ref ca)])) _
    refine OGo.step (fun _ kk => XS.iloadN X313.here hx rfl (hb hby own_d_jdk_52_method_21_code_11) rfl kk) ?_
    show OGo p e below (T313.setTop (mkF m 12 #[.val (.ref ca), .val (.int (1 : Int32)), .val (.ref ba), .val (.int (1 : Int32)), .val (.int (3 : Int32)), .val (.int (1 : Int32)), .val (.int c0_)] [(.int (1 : Int32)), (.ref ca)])) _
    have fc314 := (Vc.other W313 ncb)
    obtain ⟨cA315, A315, q315, S315, M315, H315, G315⟩ := id fc314
    refine OGo.step (fun _ kk => X313.caload hx (j := (1 : Int32)) (v := (.int c1_)) (by rw [e313]; exact (A315).1) (State.isArrayOf_alike hZ.alike (A315).2.1) (A315).2.2 (inb_of S315 ⟨by decide, by decide⟩) (H315 1 (by rw [S315]; decide)) (g := (mkF m 12 #[.val (.ref ca), .val (.int (1 : Int32)), .val (.ref ba), .val (.int (1 : Int32)), .val (.int (3 : Int32)), .val (.int (1 : Int32)), .val (.int c0_)] [(.int (1 : Int32)), (.ref ca)])) rfl rfl (hb hby own_d_jdk_52_method_21_code_12) _ kk) ?_
    show OGo p e below (T313.setTop (mkF m 13 #[.val (.ref ca), .val (.int (1 : Int32)), .val (.ref ba), .val (.int (1 : Int32)), .val (.int (3 : Int32)), .val (.int (1 : Int32)), .val (.int c0_)] [(.int c1_)])) _
    refine OGo.step (fun _ kk => XS.istore X313.here hx rfl (hb hby own_d_jdk_52_method_21_code_13) rfl (l' := #[.val (.ref ca), .val (.int (1 : Int32)), .val (.ref ba), .val (.int (1 : Int32)), .val (.int (3 : Int32)), .val (.int (1 : Int32)), .val (.int c1_)]) rfl kk) ?_
    show OGo p e below (T313.setTop (mkF m 15 #[.val (.ref ca), .val (.int (1 : Int32)), .val (.ref ba), .val (.int (1 : Int32)), .val (.int (3 : Int32)), .val (.int (1 : Int32)), .val (.int c1_)] [])) _
    refine OGo.step (fun _ kk => XS.iload X313.here hx rfl (hb hby own_d_jdk_52_method_21_code_15) rfl kk) ?_
    show OGo p e below (T313.setTop (mkF m 17 #[.val (.ref ca), .val (.int (1 : Int32)), .val (.ref ba), .val (.int (1 : Int32)), .val (.int (3 : Int32)), .val (.int (1 : Int32)), .val (.int c1_)] [(.int c1_)])) _
    refine OGo.step (fun _ kk => XS.sipush X313.here hx rfl (hb hby own_d_jdk_52_method_21_code_17) kk) ?_
    show OGo p e below (T313.setTop (mkF m 20 #[.val (.ref ca), .val (.int (1 : Int32)), .val (.ref ba), .val (.int (1 : Int32)), .val (.int (3 : Int32)), .val (.int (1 : Int32)), .val (.int c1_)] [(.int (255 : Int32)), (.int c1_)])) _
    by_cases hq1 : (255 : Int32) < c1_
    · refine OGo.step (fun _ kk => XS.icmpNo X313.here hx rfl (hb hby own_d_jdk_52_method_21_code_20) rfl (tlt hq1).2.2.2 kk) ?_
      show OGo p e below (T313.setTop (mkF m 23 #[.val (.ref ca), .val (.int (1 : Int32)), .val (.ref ba), .val (.int (1 : Int32)), .val (.int (3 : Int32)), .val (.int (1 : Int32)), .val (.int c1_)] [])) _
      refine OGo.step (fun _ kk => XS.iload X313.here hx rfl (hb hby own_d_jdk_52_method_21_code_23) rfl kk) ?_
      show OGo p e below (T313.setTop (mkF m 25 #[.val (.ref ca), .val (.int (1 : Int32)), .val (.ref ba), .val (.int (1 : Int32)), .val (.int (3 : Int32)), .val (.int (1 : Int32)), .val (.int c1_)] [(.int (1 : Int32))])) _
      have HK := ((Keep.refl h0 [ba]).wr W313 (Or.inl (List.mem_of_getElem? (i := 0) rfl)))
      exact own_ret X313 hx hlk hret rfl (Or.inl ⟨rfl, Or.inl rfl, _, rfl⟩) (hb hby own_d_jdk_52_method_21_code_25) (by rw [e313]; exact ⟨1, rfl, by decide, hq1, Nf313, HK⟩) (by decide) (by decide)
    · skip
      refine OGo.step (fun _ kk => XS.icmpYes X313.here hx rfl (pc0 := 20) (pc' := 26) rfl (hb hby own_d_jdk_52_method_21_code_20) rfl (flt hq1).2.2.2 (by decide) (by decide) kk) ?_
      show OGo p e below (T313.setTop (mkF m 26 #[.val (.ref ca), .val (.int (1 : Int32)), .val (.ref ba), .val (.int (1 : Int32)), .val (.int (3 : Int32)), .val (.int (1 : Int32)), .val (.int c1_)] [])) _
      refine OGo.step (fun _ kk => XS.aloadN X313.here hx rfl (hb hby own_d_jdk_52_method_21_code_26) rfl rfl kk) ?_
      show OGo p e below (T313.setTop (mkF m 27 #[.val (.ref ca), .val (.int (1 : Int32)), .val (.ref ba), .val (.int (1 : Int32)), .val (.int (3 : Int32)), .val (.int (1 : Int32)), .val (.int c1_)] [(.ref ba)])) _
      refine OGo.step (fun _ kk => XS.iloadN X313.here hx rfl (hb hby own_d_jdk_52_method_21_code_27) rfl kk) ?_
      show OGo p e below (T313.setTop (mkF m 28 #[.val (.ref ca), .val (.int (1 : Int32)), .val (.ref ba), .val (.int (1 : Int32)), .val (.int (3 : Int32)), .val (.int (1 : Int32)), .val (.int c1_)] [(.int (1 : Int32)), (.ref ba)])) _
      refine OGo.step (fun _ kk => XS.iload X313.here hx rfl (hb hby own_d_jdk_52_method_21_code_28) rfl kk) ?_
      show OGo p e below (T313.setTop (mkF m 30 #[.val (.ref ca), .val (.int (1 : Int32)), .val (.ref ba), .val (.int (1 : Int32)), .val (.int (3 : Int32)), .val (.int (1 : Int32)), .val (.int c1_)] [(.int c1_), (.int (1 : Int32)), (.ref ba)])) _
      refine OGo.step (fun _ kk => XS.i2b X313.here hx rfl (hb hby own_d_jdk_52_method_21_code_30) rfl kk) ?_
      show OGo p e below (T313.setTop (mkF m 31 #[.val (.ref ca), .val (.int (1 : Int32)), .val (.ref ba), .val (.int (1 : Int32)), .val (.int (3 : Int32)), .val (.int (1 : Int32)), .val (.int c1_)] [(.int (c1_.toInt8.toInt32)), (.int (1 : Int32)), (.ref ba)])) _
      obtain ⟨cA316, A316, q316, S316, M316, H316, G316⟩ := id Va312
      obtain ⟨T317, h317, X317, e317, W317, st317⟩ := stB X313 hx hZ e313 A316 (j := (1 : Int32)) (inb_of S316 ⟨by decide, by decide⟩) (g := (mkF m 31 #[.val (.ref ca), .val (.int (1 : Int32)), .val (.ref ba), .val (.int (1 : Int32)), .val (.int (3 : Int32)), .val (.int (1 : Int32)), .val (.int c1_)] [(.int (c1_.toInt8.toInt32)), (.int (1 : Int32)), (.ref ba)])) rfl rfl (hb hby own_d_jdk_52_method_21_code_31)
      refine OGo.step st317 ?_
      show OGo p e below (T317.setTop (mkF m 32 #[.val (.ref ca), .val (.int (1 : Int32)), .val (.ref ba), .val (.int (1 : Int32)), .val (.int (3 : Int32)), .val (.int (1 : Int32)), .val (.int c1_)] [])) _
      have Va316 : Arv Z h317 ba kb .byte (3 : Int32) [(.int (nar .byte (c0_.toInt8.toInt32))), (.int (nar .byte (c1_.toInt8.toInt32))), (.int (0 : Int32))] (.int (0 : Int32)) := Arv.set A316 q316 S316 M316 H316 G316 (fits_nar_byte _) W317 1 rfl (Nat.le_of_ble_eq_true rfl)
      have Nf317 := Fr.snoc X317 Nf313 gb
      have sz317 : n0 ≤ h317.size := by rw [W317.size]; exact sz313
      refine OGo.step (fun _ kk => XS.iinc X317.here hx rfl (hb hby own_d_jdk_52_method_21_code_32) rfl (l' := #[.val (.ref ca), .val (.int ((1 : Int32) + (1 : Int32))), .val (.ref ba), .val (.int (1 : Int32)), .val (.int (3 : Int32)), .val (.int (1 : Int32)), .val (.int c1_)]) rfl kk) ?_
      show OGo p e below (T317.setTop (mkF m 35 #[.val (.ref ca), .val (.int ((1 : Int32) + (1 : Int32))), .val (.ref ba), .val (.int (1 : Int32)), .val (.int (3 : Int32)), .val (.int (1 : Int32)), .val (.int c1_)] [])) _
      refine OGo.step (fun _ kk => XS.iinc X317.here hx rfl (hb hby own_d_jdk_52_method_21_code_35) rfl (l' := #[.val (.ref ca), .val (.int ((1 : Int32) + (1 : Int32))), .val (.ref ba), .val (.int ((1 : Int32) + (1 : Int32))), .val (.int (3 : Int32)), .val (.int (1 : Int32)), .val (.int c1_)]) rfl kk) ?_
      show OGo p e below (T317.setTop (mkF m 38 #[.val (.ref ca), .val (.int ((1 : Int32) + (1 : Int32))), .val (.ref ba), .val (.int ((1 : Int32) + (1 : Int32))), .val (.int (3 : Int32)), .val (.int (1 : Int32)), .val (.int c1_)] [])) _
      refine OGo.step (fun _ kk => XS.iinc X317.here hx rfl (hb hby own_d_jdk_52_method_21_code_38) rfl (l' := #[.val (.ref ca), .val (.int ((1 : Int32) + (1 : Int32))), .val (.ref ba), .val (.int ((1 : Int32) + (1 : Int32))), .val (.int (3 : Int32)), .val (.int ((1 : Int32) + (1 : Int32))), .val (.int c1_)]) rfl kk) ?_
      show OGo p e below (T317.setTop (mkF m 41 #[.val (.ref ca), .val (.int ((1 : Int32) + (1 : Int32))), .val (.ref ba), .val (.int ((1 : Int32) + (1 : Int32))), .val (.int (3 : Int32)), .val (.int ((1 : Int32) + (1 : Int32))), .val (.int c1_)] [])) _
      refine OGo.step (fun _ kk => XS.goto X317.here hx rfl (pc0 := 41) (pc' := 3) rfl (hb hby own_d_jdk_52_method_21_code_41) (by decide) (by decide) kk) ?_
      show OGo p e below (T317.setTop (mkF m 3 #[.val (.ref ca), .val (.int ((1 : Int32) + (1 : Int32))), .val (.ref ba), .val (.int ((1 : Int32) + (1 : Int32))), .val (.int (3 : Int32)), .val (.int ((1 : Int32) + (1 : Int32))), .val (.int c1_)] [])) _
      show OGo p e below (T317.setTop (mkF m 3 #[.val (.ref ca), .val (.int (2 : Int32)), .val (.ref ba), .val (.int (2 : Int32)), .val (.int (3 : Int32)), .val (.int (2 : Int32)), .val (.int c1_)] [])) _
      refine OGo.step (fun _ kk => XS.iload X317.here hx rfl (hb hby own_d_jdk_52_method_21_code_3) rfl kk) ?_
      show OGo p e below (T317.setTop (mkF m 5 #[.val (.ref ca), .val (.int (2 : Int32)), .val (.ref ba), .val (.int (2 : Int32)), .val (.int (3 : Int32)), .val (.int (2 : Int32)), .val (.int c1_)] [(.int (2 : Int32))])) _
      refine OGo.step (fun _ kk => XS.iload X317.here hx rfl (hb hby own_d_jdk_52_method_21_code_5) rfl kk) ?_
      show OGo p e below (T317.setTop (mkF m 7 #[.val (.ref ca), .val (.int (2 : Int32)), .val (.ref ba), .val (.int (2 : Int32)), .val (.int (3 : Int32)), .val (.int (2 : Int32)), .val (.int c1_)] [(.int (3 : Int32)), (.int (2 : Int32))])) _
      refine OGo.step (fun _ kk => XS.icmpNo X317.here hx rfl (hb hby own_d_jdk_52_method_21_code_7) rfl (tlt (by decide)).2.1 kk) ?_
      show OGo p e below (T317.setTop (mkF m 10 #[.val (.ref ca), .val (.int (2 : Int32)), .val (.ref ba), .val (.int (2 : Int32)), .val (.int (3 : Int32)), .val (.int (2 : Int32)), .val (.int c1_)] [])) _
      refine OGo.step (fun _ kk => XS.aloadN X317.here hx rfl (hb hby own_d_jdk_52_method_21_code_10) rfl rfl kk) ?_
      show OGo p e below (T317.setTop (mkF m 11 #[.val (.ref ca), .val (.int (2 : Int32)), .val (.ref ba), .val (.int (2 : Int32)), .val (.int (3 : Int32)), .val (.int (2 : Int32)), .val (.int c1_)] [(.ref ca)])) _
      refine OGo.step (fun _ kk => XS.iloadN X317.here hx rfl (hb hby own_d_jdk_52_method_21_code_11) rfl kk) ?_
      show OGo p e below (T317.setTop (mkF m 12 #[.val (.ref ca), .val (.int (2 : Int32)), .val (.ref ba), .val (.int (2 : Int32)), .val (.int (3 : Int32)), .val (.int (2 : Int32)), .val (.int c1_)] [(.int (2 : Int32)), (.ref ca)])) _
      have fc318 := (fc314.other W317 ncb)
      obtain ⟨cA319, A319, q319, S319, M319, H319, G319⟩ := id fc318
      refine OGo.step (fun _ kk => X317.caload hx (j := (2 : Int32)) (v := (.int c2_)) (by rw [e317]; exact (A319).1) (State.isArrayOf_alike hZ.alike (A319).2.1) (A319).2.2 (inb_of S319 ⟨by decide, by decide⟩) (H319 2 (by rw [S319]; decide)) (g := (mkF m 12 #[.val (.ref ca), .val (.int (2 : Int32)), .val (.ref ba), .val (.int (2 : Int32)), .val (.int (3 : Int32)), .val (.int (2 : Int32)), .val (.int c1_)] [(.int (2 : Int32)), (.ref ca)])) rfl rfl (hb hby own_d_jdk_52_method_21_code_12) _ kk) ?_
      show OGo p e below (T317.setTop (mkF m 13 #[.val (.ref ca), .val (.int (2 : Int32)), .val (.ref ba), .val (.int (2 : Int32)), .val (.int (3 : Int32)), .val (.int (2 : Int32)), .val (.int c1_)] [(.int c2_)])) _
      refine OGo.step (fun _ kk => XS.istore X317.here hx rfl (hb hby own_d_jdk_52_method_21_code_13) rfl (l' := #[.val (.ref ca), .val (.int (2 : Int32)), .val (.ref ba), .val (.int (2 : Int32)), .val (.int (3 : Int32)), .val (.int (2 : Int32)), .val (.int c2_)]) rfl kk) ?_
      show OGo p e below (T317.setTop (mkF m 15 #[.val (.ref ca), .val (.int (2 : Int32)), .val (.ref ba), .val (.int (2 : Int32)), .val (.int (3 : Int32)), .val (.int (2 : Int32)), .val (.int c2_)] [])) _
      refine OGo.step (fun _ kk => XS.iload X317.here hx rfl (hb hby own_d_jdk_52_method_21_code_15) rfl kk) ?_
      show OGo p e below (T317.setTop (mkF m 17 #[.val (.ref ca), .val (.int (2 : Int32)), .val (.ref ba), .val (.int (2 : Int32)), .val (.int (3 : Int32)), .val (.int (2 : Int32)), .val (.int c2_)] [(.int c2_)])) _
      refine OGo.step (fun _ kk => XS.sipush X317.here hx rfl (hb hby own_d_jdk_52_method_21_code_17) kk) ?_
      show OGo p e below (T317.setTop (mkF m 20 #[.val (.ref ca), .val (.int (2 : Int32)), .val (.ref ba), .val (.int (2 : Int32)), .val (.int (3 : Int32)), .val (.int (2 : Int32)), .val (.int c2_)] [(.int (255 : Int32)), (.int c2_)])) _
      by_cases hq2 : (255 : Int32) < c2_
      · refine OGo.step (fun _ kk => XS.icmpNo X317.here hx rfl (hb hby own_d_jdk_52_method_21_code_20) rfl (tlt hq2).2.2.2 kk) ?_
        show OGo p e below (T317.setTop (mkF m 23 #[.val (.ref ca), .val (.int (2 : Int32)), .val (.ref ba), .val (.int (2 : Int32)), .val (.int (3 : Int32)), .val (.int (2 : Int32)), .val (.int c2_)] [])) _
        refine OGo.step (fun _ kk => XS.iload X317.here hx rfl (hb hby own_d_jdk_52_method_21_code_23) rfl kk) ?_
        show OGo p e below (T317.setTop (mkF m 25 #[.val (.ref ca), .val (.int (2 : Int32)), .val (.ref ba), .val (.int (2 : Int32)), .val (.int (3 : Int32)), .val (.int (2 : Int32)), .val (.int c2_)] [(.int (2 : Int32))])) _
        have HK := (((Keep.refl h0 [ba]).wr W313 (Or.inl (List.mem_of_getElem? (i := 0) rfl))).wr W317 (Or.inl (List.mem_of_getElem? (i := 0) rfl)))
        exact own_ret X317 hx hlk hret rfl (Or.inl ⟨rfl, Or.inl rfl, _, rfl⟩) (hb hby own_d_jdk_52_method_21_code_25) (by rw [e317]; exact ⟨2, rfl, by decide, hq2, Nf317, HK⟩) (by decide) (by decide)
      · skip
        refine OGo.step (fun _ kk => XS.icmpYes X317.here hx rfl (pc0 := 20) (pc' := 26) rfl (hb hby own_d_jdk_52_method_21_code_20) rfl (flt hq2).2.2.2 (by decide) (by decide) kk) ?_
        show OGo p e below (T317.setTop (mkF m 26 #[.val (.ref ca), .val (.int (2 : Int32)), .val (.ref ba), .val (.int (2 : Int32)), .val (.int (3 : Int32)), .val (.int (2 : Int32)), .val (.int c2_)] [])) _
        refine OGo.step (fun _ kk => XS.aloadN X317.here hx rfl (hb hby own_d_jdk_52_method_21_code_26) rfl rfl kk) ?_
        show OGo p e below (T317.setTop (mkF m 27 #[.val (.ref ca), .val (.int (2 : Int32)), .val (.ref ba), .val (.int (2 : Int32)), .val (.int (3 : Int32)), .val (.int (2 : Int32)), .val (.int c2_)] [(.ref ba)])) _
        refine OGo.step (fun _ kk => XS.iloadN X317.here hx rfl (hb hby own_d_jdk_52_method_21_code_27) rfl kk) ?_
        show OGo p e below (T317.setTop (mkF m 28 #[.val (.ref ca), .val (.int (2 : Int32)), .val (.ref ba), .val (.int (2 : Int32)), .val (.int (3 : Int32)), .val (.int (2 : Int32)), .val (.int c2_)] [(.int (2 : Int32)), (.ref ba)])) _
        refine OGo.step (fun _ kk => XS.iload X317.here hx rfl (hb hby own_d_jdk_52_method_21_code_28) rfl kk) ?_
        show OGo p e below (T317.setTop (mkF m 30 #[.val (.ref ca), .val (.int (2 : Int32)), .val (.ref ba), .val (.int (2 : Int32)), .val (.int (3 : Int32)), .val (.int (2 : Int32)), .val (.int c2_)] [(.int c2_), (.int (2 : Int32)), (.ref ba)])) _
        refine OGo.step (fun _ kk => XS.i2b X317.here hx rfl (hb hby own_d_jdk_52_method_21_code_30) rfl kk) ?_
        show OGo p e below (T317.setTop (mkF m 31 #[.val (.ref ca), .val (.int (2 : Int32)), .val (.ref ba), .val (.int (2 : Int32)), .val (.int (3 : Int32)), .val (.int (2 : Int32)), .val (.int c2_)] [(.int (c2_.toInt8.toInt32)), (.int (2 : Int32)), (.ref ba)])) _
        obtain ⟨cA320, A320, q320, S320, M320, H320, G320⟩ := id Va316
        obtain ⟨T321, h321, X321, e321, W321, st321⟩ := stB X317 hx hZ e317 A320 (j := (2 : Int32)) (inb_of S320 ⟨by decide, by decide⟩) (g := (mkF m 31 #[.val (.ref ca), .val (.int (2 : Int32)), .val (.ref ba), .val (.int (2 : Int32)), .val (.int (3 : Int32)), .val (.int (2 : Int32)), .val (.int c2_)] [(.int (c2_.toInt8.toInt32)), (.int (2 : Int32)), (.ref ba)])) rfl rfl (hb hby own_d_jdk_52_method_21_code_31)
        refine OGo.step st321 ?_
        show OGo p e below (T321.setTop (mkF m 32 #[.val (.ref ca), .val (.int (2 : Int32)), .val (.ref ba), .val (.int (2 : Int32)), .val (.int (3 : Int32)), .val (.int (2 : Int32)), .val (.int c2_)] [])) _
        have Va320 : Arv Z h321 ba kb .byte (3 : Int32) [(.int (nar .byte (c0_.toInt8.toInt32))), (.int (nar .byte (c1_.toInt8.toInt32))), (.int (nar .byte (c2_.toInt8.toInt32)))] (.int (0 : Int32)) := Arv.set A320 q320 S320 M320 H320 G320 (fits_nar_byte _) W321 2 rfl (Nat.le_of_ble_eq_true rfl)
        have Nf321 := Fr.snoc X321 Nf317 gb
        have sz321 : n0 ≤ h321.size := by rw [W321.size]; exact sz317
        refine OGo.step (fun _ kk => XS.iinc X321.here hx rfl (hb hby own_d_jdk_52_method_21_code_32) rfl (l' := #[.val (.ref ca), .val (.int ((2 : Int32) + (1 : Int32))), .val (.ref ba), .val (.int (2 : Int32)), .val (.int (3 : Int32)), .val (.int (2 : Int32)), .val (.int c2_)]) rfl kk) ?_
        show OGo p e below (T321.setTop (mkF m 35 #[.val (.ref ca), .val (.int ((2 : Int32) + (1 : Int32))), .val (.ref ba), .val (.int (2 : Int32)), .val (.int (3 : Int32)), .val (.int (2 : Int32)), .val (.int c2_)] [])) _
        refine OGo.step (fun _ kk => XS.iinc X321.here hx rfl (hb hby own_d_jdk_52_method_21_code_35) rfl (l' := #[.val (.ref ca), .val (.int ((2 : Int32) + (1 : Int32))), .val (.ref ba), .val (.int ((2 : Int32) + (1 : Int32))), .val (.int (3 : Int32)), .val (.int (2 : Int32)), .val (.int c2_)]) rfl kk) ?_
        show OGo p e below (T321.setTop (mkF m 38 #[.val (.ref ca), .val (.int ((2 : Int32) + (1 : Int32))), .val (.ref ba), .val (.int ((2 : Int32) + (1 : Int32))), .val (.int (3 : Int32)), .val (.int (2 : Int32)), .val (.int c2_)] [])) _
        refine OGo.step (fun _ kk => XS.iinc X321.here hx rfl (hb hby own_d_jdk_52_method_21_code_38) rfl (l' := #[.val (.ref ca), .val (.int ((2 : Int32) + (1 : Int32))), .val (.ref ba), .val (.int ((2 : Int32) + (1 : Int32))), .val (.int (3 : Int32)), .val (.int ((2 : Int32) + (1 : Int32))), .val (.int c2_)]) rfl kk) ?_
        show OGo p e below (T321.setTop (mkF m 41 #[.val (.ref ca), .val (.int ((2 : Int32) + (1 : Int32))), .val (.ref ba), .val (.int ((2 : Int32) + (1 : Int32))), .val (.int (3 : Int32)), .val (.int ((2 : Int32) + (1 : Int32))), .val (.int c2_)] [])) _
        refine OGo.step (fun _ kk => XS.goto X321.here hx rfl (pc0 := 41) (pc' := 3) rfl (hb hby own_d_jdk_52_method_21_code_41) (by decide) (by decide) kk) ?_
        show OGo p e below (T321.setTop (mkF m 3 #[.val (.ref ca), .val (.int ((2 : Int32) + (1 : Int32))), .val (.ref ba), .val (.int ((2 : Int32) + (1 : Int32))), .val (.int (3 : Int32)), .val (.int ((2 : Int32) + (1 : Int32))), .val (.int c2_)] [])) _
        show OGo p e below (T321.setTop (mkF m 3 #[.val (.ref ca), .val (.int (3 : Int32)), .val (.ref ba), .val (.int (3 : Int32)), .val (.int (3 : Int32)), .val (.int (3 : Int32)), .val (.int c2_)] [])) _
        refine OGo.step (fun _ kk => XS.iload X321.here hx rfl (hb hby own_d_jdk_52_method_21_code_3) rfl kk) ?_
        show OGo p e below (T321.setTop (mkF m 5 #[.val (.ref ca), .val (.int (3 : Int32)), .val (.ref ba), .val (.int (3 : Int32)), .val (.int (3 : Int32)), .val (.int (3 : Int32)), .val (.int c2_)] [(.int (3 : Int32))])) _
        refine OGo.step (fun _ kk => XS.iload X321.here hx rfl (hb hby own_d_jdk_52_method_21_code_5) rfl kk) ?_
        show OGo p e below (T321.setTop (mkF m 7 #[.val (.ref ca), .val (.int (3 : Int32)), .val (.ref ba), .val (.int (3 : Int32)), .val (.int (3 : Int32)), .val (.int (3 : Int32)), .val (.int c2_)] [(.int (3 : Int32)), (.int (3 : Int32))])) _
        exact False.elim ((fun z => Or.elim z hq0 (fun z => Or.elim z hq1 hq2)) hex)

theorem own_kne3 : ∀ k : Nat, k < 3 → ¬ Int32.ofNat k = (3 : Int32) := by decide
set_option maxRecDepth 65536 in
set_option maxHeartbeats 40000000 in
theorem own_cmp3_3 (l : Launch) (Z : State) (a0 : Array Value) (hw : ∀ d ∈ tables_1, d.before a0 Z = true) (ws : List Jvm.Cond) (ca : Addr) (kc : ClassId) (c0_ c1_ c2_ : Int32) (h0 : Heap) (n0 : Nat) (Z0 : n0 ≤ h0.size) (SA : Sta Z h0 "java/lang/StringUTF16" "$assertionsDisabled" "Z" (.int (1 : Int32))) (SH : Sta Z h0 "java/lang/StringUTF16" "HI_BYTE_SHIFT" "I" (.int (0 : Int32))) (SL : Sta Z h0 "java/lang/StringUTF16" "LO_BYTE_SHIFT" "I" (.int (8 : Int32))) (Vc : Arv Z h0 ca kc .char (3 : Int32) [(.int c0_), (.int c1_), (.int c2_)] (.int (0 : Int32))) (hb0 : ¬ c0_ < 0 ∧ ¬ (65535 : Int32) < c0_) (hb1 : ¬ c1_ < 0 ∧ ¬ (65535 : Int32) < c1_) (hb2 : ¬ c2_ < 0 ∧ ¬ (65535 : Int32) < c2_) (hex : (255 : Int32) < c0_ ∨ (255 : Int32) < c1_ ∨ (255 : Int32) < c2_) :
    OMet l Z (⟨"java/lang/StringUTF16", "compress", "([CII)[B"⟩ : MethodName) jdk_52_method_16_code 6 (some (.array .byte)) ws ({ frames := 3, cells := 2, slots := 9, locals := 40 } : Room) #[(.ref ca), (.int (0 : Int32)), (.int (3 : Int32))] h0 (fun v h L => ∃ (u : Addr) (kb : ClassId), v = some (.ref u) ∧ Fr n0 L ∧ Ext h0 h ∧ h0.size ≤ u ∧ Arv Z h u kb .byte (6 : Int32) (StrChars.Road.wideBytes [c0_, c1_, c2_]) (.int (0 : Int32))) := by
  refine OMet.body (plainFor_of_name own_pn4) ?_
  intro p e s m below meth c s₁ hx hby hml hown hnm hret hlk hZ X0 e0
  refine OGo.step (fun _ kk => castTop (show entryFrame m #[(.ref ca), (.int (0 : Int32)), (.int (3 : Int32))] 6 = (mkF m 0 #[.val (.ref ca), .val (.int (0 : Int32)), .val (.int (3 : Int32)), .unset, .unset, .unset] []) from by first | (simp [entryFrame, mkF, argsToLocals, Value.category]; done) | rfl) kk) ?_
  show OGo p e below (s₁.setTop (mkF m 0 #[.val (.ref ca), .val (.int (0 : Int32)), .val (.int (3 : Int32)), .unset, .unset, .unset] [])) _
  refine OGo.step (fun _ kk => XS.iloadN X0.here hx rfl (hb hby own_d_jdk_52_method_16_code_0) rfl kk) ?_
  show OGo p e below (s₁.setTop (mkF m 1 #[.val (.ref ca), .val (.int (0 : Int32)), .val (.int (3 : Int32)), .unset, .unset, .unset] [(.int (3 : Int32))])) _
  obtain ⟨T322, h322, k322, X322, e322, E322, A322, st322⟩ := newP X0 hx hZ (hw _ (List.mem_of_getElem? (i := 21) rfl)) e0 (g := (mkF m 1 #[.val (.ref ca), .val (.int (0 : Int32)), .val (.int (3 : Int32)), .unset, .unset, .unset] [(.int (3 : Int32))])) rfl (hb hby own_d_jdk_52_method_16_code_1) rfl (by decide) (cap := 3) (by decide) (by decide) (by decide) (by decide)
  obtain ⟨ba, g322⟩ : ∃ z, z = h0.size := ⟨_, rfl⟩
  rw [← g322] at A322 st322
  refine OGo.step st322 ?_
  show OGo p e below (T322.setTop (mkF m 3 #[.val (.ref ca), .val (.int (0 : Int32)), .val (.int (3 : Int32)), .unset, .unset, .unset] [(.ref ba)])) _
  have ne_ca_ba : ca ≠ ba := Nat.ne_of_lt (Nat.lt_of_lt_of_le Vc.lt (Nat.le_of_eq g322.symm))
  have gf_ba : n0 ≤ ba := Nat.le_trans Z0 (Nat.le_of_eq g322.symm)
  have sz322 : n0 ≤ h322.size := Nat.le_trans Z0 E322.1
  have Va : Arv Z h322 ba k322 .byte (3 : Int32) [(.int (0 : Int32)), (.int (0 : Int32)), (.int (0 : Int32))] (.int (0 : Int32)) := (Arv.new A322 (by decide)).pad (pad_rep [] (.int (0 : Int32)) 3)
  refine OGo.step (fun _ kk => XS.astoreN X322.here hx rfl (hb hby own_d_jdk_52_method_16_code_3) rfl rfl (l' := #[.val (.ref ca), .val (.int (0 : Int32)), .val (.int (3 : Int32)), .val (.ref ba), .unset, .unset]) rfl kk) ?_
  show OGo p e below (T322.setTop (mkF m 4 #[.val (.ref ca), .val (.int (0 : Int32)), .val (.int (3 : Int32)), .val (.ref ba), .unset, .unset] [])) _
  refine OGo.step (fun _ kk => XS.aloadN X322.here hx rfl (hb hby own_d_jdk_52_method_16_code_4) rfl rfl kk) ?_
  show OGo p e below (T322.setTop (mkF m 5 #[.val (.ref ca), .val (.int (0 : Int32)), .val (.int (3 : Int32)), .val (.ref ba), .unset, .unset] [(.ref ca)])) _
  refine OGo.step (fun _ kk => XS.iloadN X322.here hx rfl (hb hby own_d_jdk_52_method_16_code_5) rfl kk) ?_
  show OGo p e below (T322.setTop (mkF m 6 #[.val (.ref ca), .val (.int (0 : Int32)), .val (.int (3 : Int32)), .val (.ref ba), .unset, .unset] [(.int (0 : Int32)), (.ref ca)])) _
  refine OGo.step (fun _ kk => XS.aloadN X322.here hx rfl (hb hby own_d_jdk_52_method_16_code_6) rfl rfl kk) ?_
  show OGo p e below (T322.setTop (mkF m 7 #[.val (.ref ca), .val (.int (0 : Int32)), .val (.int (3 : Int32)), .val (.ref ba), .unset, .unset] [(.ref ba), (.int (0 : Int32)), (.ref ca)])) _
  refine OGo.step (fun _ kk => XS.iconst X322.here hx rfl (hb hby own_d_jdk_52_method_16_code_7) kk) ?_
  show OGo p e below (T322.setTop (mkF m 8 #[.val (.ref ca), .val (.int (0 : Int32)), .val (.int (3 : Int32)), .val (.ref ba), .unset, .unset] [(.int (0 : Int32)), (.ref ba), (.int (0 : Int32)), (.ref ca)])) _
  refine OGo.step (fun _ kk => XS.iloadN X322.here hx rfl (hb hby own_d_jdk_52_method_16_code_8) rfl kk) ?_
  show OGo p e below (T322.setTop (mkF m 9 #[.val (.ref ca), .val (.int (0 : Int32)), .val (.int (3 : Int32)), .val (.ref ba), .unset, .unset] [(.int (3 : Int32)), (.int (0 : Int32)), (.ref ba), (.int (0 : Int32)), (.ref ca)])) _
  have fc323 := (Vc.ext E322)
  refine own_callS X322 hx hZ (y := (⟨"java/lang/StringUTF16", "compress", "([CI[BII)I"⟩ : MethodName)) hown (hw _ (List.mem_of_getElem? (i := 84) rfl)) (hw _ (List.mem_of_getElem? (i := 85) rfl)) (hw _ (List.mem_of_getElem? (i := 82) rfl)) (hw _ (List.mem_of_getElem? (i := 86) rfl)) (by decide) (W := 0) (own_cmp5_3 l Z a0 hw [] ca ba kc _ c0_ c1_ c2_ h322 n0 sz322 fc323 Va gf_ba ne_ca_ba hex) e322  (pc := 9) (Ls := #[.val (.ref ca), .val (.int (0 : Int32)), .val (.int (3 : Int32)), .val (.ref ba), .unset, .unset]) (argsL := [(.ref ca), (.int (0 : Int32)), (.ref ba), (.int (0 : Int32)), (.int (3 : Int32))]) (rest := []) (by rw [hml]; rfl) (lenOf own_pd14 rfl) rfl (hb hby own_d_jdk_52_method_16_code_9) (by decide) (by decide) (by decide) (by decide) ?_
  intro v324 T324 L324 X324 hQ324
  obtain ⟨kq_, rfl, hk, hk2, N324, K324⟩ := hQ324
  show OGo p e below (T324.setTop (mkF m 12 #[.val (.ref ca), .val (.int (0 : Int32)), .val (.int (3 : Int32)), .val (.ref ba), .unset, .unset] [(.int (Int32.ofNat kq_))])) _
  have Nc324 := Fr.app (Fr.nil n0) N324
  have sz324 : n0 ≤ T324.heap.size := Nat.le_trans sz322 K324.1
  refine OGo.step (fun _ kk => XS.istore X324.here hx rfl (hb hby own_d_jdk_52_method_16_code_12) rfl (l' := #[.val (.ref ca), .val (.int (0 : Int32)), .val (.int (3 : Int32)), .val (.ref ba), .val (.int (Int32.ofNat kq_)), .unset]) rfl kk) ?_
  show OGo p e below (T324.setTop (mkF m 14 #[.val (.ref ca), .val (.int (0 : Int32)), .val (.int (3 : Int32)), .val (.ref ba), .val (.int (Int32.ofNat kq_)), .unset] [])) _
  refine OGo.step (fun _ kk => XS.iload X324.here hx rfl (hb hby own_d_jdk_52_method_16_code_14) rfl kk) ?_
  show OGo p e below (T324.setTop (mkF m 16 #[.val (.ref ca), .val (.int (0 : Int32)), .val (.int (3 : Int32)), .val (.ref ba), .val (.int (Int32.ofNat kq_)), .unset] [(.int (Int32.ofNat kq_))])) _
  refine OGo.step (fun _ kk => XS.iloadN X324.here hx rfl (hb hby own_d_jdk_52_method_16_code_16) rfl kk) ?_
  show OGo p e below (T324.setTop (mkF m 17 #[.val (.ref ca), .val (.int (0 : Int32)), .val (.int (3 : Int32)), .val (.ref ba), .val (.int (Int32.ofNat kq_)), .unset] [(.int (3 : Int32)), (.int (Int32.ofNat kq_))])) _
  refine OGo.step (fun _ kk => XS.icmpNo X324.here hx rfl (hb hby own_d_jdk_52_method_16_code_17) rfl (feq (own_kne3 kq_ hk)).1 kk) ?_
  show OGo p e below (T324.setTop (mkF m 20 #[.val (.ref ca), .val (.int (0 : Int32)), .val (.int (3 : Int32)), .val (.ref ba), .val (.int (Int32.ofNat kq_)), .unset] [])) _
  refine OGo.step (fun _ kk => XS.aloadN X324.here hx rfl (hb hby own_d_jdk_52_method_16_code_20) rfl rfl kk) ?_
  show OGo p e below (T324.setTop (mkF m 21 #[.val (.ref ca), .val (.int (0 : Int32)), .val (.int (3 : Int32)), .val (.ref ba), .val (.int (Int32.ofNat kq_)), .unset] [(.ref ca)])) _
  refine OGo.step (fun _ kk => XS.iloadN X324.here hx rfl (hb hby own_d_jdk_52_method_16_code_21) rfl kk) ?_
  show OGo p e below (T324.setTop (mkF m 22 #[.val (.ref ca), .val (.int (0 : Int32)), .val (.int (3 : Int32)), .val (.ref ba), .val (.int (Int32.ofNat kq_)), .unset] [(.int (0 : Int32)), (.ref ca)])) _
  refine OGo.step (fun _ kk => XS.iloadN X324.here hx rfl (hb hby own_d_jdk_52_method_16_code_22) rfl kk) ?_
  show OGo p e below (T324.setTop (mkF m 23 #[.val (.ref ca), .val (.int (0 : Int32)), .val (.int (3 : Int32)), .val (.ref ba), .val (.int (Int32.ofNat kq_)), .unset] [(.int (3 : Int32)), (.int (0 : Int32)), (.ref ca)])) _
  have xt325 := (own_ext_keep E322 K324 (allS (Nat.le_of_eq g322.symm) all0))
  have fx326 := SA.ext xt325
  have fx327 := SH.ext xt325
  have fx328 := SL.ext xt325
  have fc329 := (fc323.keep K324 (ninS ne_ca_ba nin0))
  refine own_callS X324 hx hZ (y := (⟨"java/lang/StringUTF16", "toBytes", "([CII)[B"⟩ : MethodName)) hown (hw _ (List.mem_of_getElem? (i := 108) rfl)) (hw _ (List.mem_of_getElem? (i := 109) rfl)) (hw _ (List.mem_of_getElem? (i := 82) rfl)) (hw _ (List.mem_of_getElem? (i := 110) rfl)) (by decide) (W := 0) (own_toB3 l Z a0 hw [] ca kc c0_ c1_ c2_ T324.heap n0 sz324 fx326 fx327 fx328 fc329) rfl  (pc := 23) (Ls := #[.val (.ref ca), .val (.int (0 : Int32)), .val (.int (3 : Int32)), .val (.ref ba), .val (.int (Int32.ofNat kq_)), .unset]) (argsL := [(.ref ca), (.int (0 : Int32)), (.int (3 : Int32))]) (rest := []) (by rw [hml]; rfl) (lenOf own_pd15 rfl) rfl (hb hby own_d_jdk_52_method_16_code_23) (by decide) (by decide) (by decide) (by decide) ?_
  intro v330 T330 L330 X330 hQ330
  obtain ⟨u, kb, rfl, N330, Xe330, gu330, Vu⟩ := hQ330
  show OGo p e below (T330.setTop (mkF m 26 #[.val (.ref ca), .val (.int (0 : Int32)), .val (.int (3 : Int32)), .val (.ref ba), .val (.int (Int32.ofNat kq_)), .unset] [(.ref u)])) _
  have gu0 := Nat.le_trans (xt325).1 gu330
  have Nc330 := Fr.app Nc324 N330
  have sz330 : n0 ≤ T330.heap.size := Nat.le_trans sz324 Xe330.1
  refine OGo.step (fun _ kk => XS.astore X330.here hx rfl (hb hby own_d_jdk_52_method_16_code_26) rfl rfl (l' := #[.val (.ref ca), .val (.int (0 : Int32)), .val (.int (3 : Int32)), .val (.ref ba), .val (.int (Int32.ofNat kq_)), .val (.ref u)]) rfl kk) ?_
  show OGo p e below (T330.setTop (mkF m 28 #[.val (.ref ca), .val (.int (0 : Int32)), .val (.int (3 : Int32)), .val (.ref ba), .val (.int (Int32.ofNat kq_)), .val (.ref u)] [])) _
  refine OGo.step (fun _ kk => XS.aload X330.here hx rfl (hb hby own_d_jdk_52_method_16_code_28) rfl rfl kk) ?_
  show OGo p e below (T330.setTop (mkF m 30 #[.val (.ref ca), .val (.int (0 : Int32)), .val (.int (3 : Int32)), .val (.ref ba), .val (.int (Int32.ofNat kq_)), .val (.ref u)] [(.ref u)])) _
  refine OGo.step (fun _ kk => XS.iload X330.here hx rfl (hb hby own_d_jdk_52_method_16_code_30) rfl kk) ?_
  show OGo p e below (T330.setTop (mkF m 32 #[.val (.ref ca), .val (.int (0 : Int32)), .val (.int (3 : Int32)), .val (.ref ba), .val (.int (Int32.ofNat kq_)), .val (.ref u)] [(.int (Int32.ofNat kq_)), (.ref u)])) _
  obtain rfl | rfl | rfl : kq_ = 0 ∨ kq_ = 1 ∨ kq_ = 2 := by omega
  · show OGo p e below (T330.setTop (mkF m 32 #[.val (.ref ca), .val (.int (0 : Int32)), .val (.int (3 : Int32)), .val (.ref ba), .val (.int (0 : Int32)), .val (.ref u)] [(.int (0 : Int32)), (.ref u)])) _
    have xt331 := (own_ext_trans xt325 Xe330)
    have fx332 := SA.ext xt331
    have fx333 := SH.ext xt331
    have fx334 := SL.ext xt331
    refine own_callS X330 hx hZ (y := (⟨"java/lang/StringUTF16", "getChar", "([BI)C"⟩ : MethodName)) hown (hw _ (List.mem_of_getElem? (i := 118) rfl)) (hw _ (List.mem_of_getElem? (i := 119) rfl)) (hw _ (List.mem_of_getElem? (i := 82) rfl)) (hw _ (List.mem_of_getElem? (i := 120) rfl)) (by decide) (W := 0) (own_getc0 l Z a0 hw [] u kb _ (StrChars.Road.wideBytes [c0_, c1_, c2_]) (StrChars.lo8 c0_) (StrChars.hi8 c0_) T330.heap n0 sz330 fx332 fx333 fx334 Vu (by decide) (by decide) (by decide) (by decide) rfl rfl) rfl  (pc := 32) (Ls := #[.val (.ref ca), .val (.int (0 : Int32)), .val (.int (3 : Int32)), .val (.ref ba), .val (.int (0 : Int32)), .val (.ref u)]) (argsL := [(.ref u), (.int (0 : Int32))]) (rest := []) (by rw [hml]; rfl) (lenOf own_pd16 rfl) rfl (hb hby own_d_jdk_52_method_16_code_32) (by decide) (by decide) (by decide) (by decide) ?_
    intro v335 T335 L335 X335 hQ335
    obtain ⟨rfl, N335, e335⟩ := hQ335
    show OGo p e below (T335.setTop (mkF m 35 #[.val (.ref ca), .val (.int (0 : Int32)), .val (.int (3 : Int32)), .val (.ref ba), .val (.int (0 : Int32)), .val (.ref u)] [(.int (StrChars.pairCh (StrChars.lo8 c0_) (StrChars.hi8 c0_)))])) _
    have Nc335 := Fr.app Nc330 N335
    rw [StrChars.pair_says hb0.1 hb0.2]
    show OGo p e below (T335.setTop (mkF m 35 #[.val (.ref ca), .val (.int (0 : Int32)), .val (.int (3 : Int32)), .val (.ref ba), .val (.int (0 : Int32)), .val (.ref u)] [(.int c0_)])) _
    refine OGo.step (fun _ kk => XS.sipush X335.here hx rfl (hb hby own_d_jdk_52_method_16_code_35) kk) ?_
    show OGo p e below (T335.setTop (mkF m 38 #[.val (.ref ca), .val (.int (0 : Int32)), .val (.int (3 : Int32)), .val (.ref ba), .val (.int (0 : Int32)), .val (.ref u)] [(.int (255 : Int32)), (.int c0_)])) _
    refine OGo.step (fun _ kk => XS.icmpYes X335.here hx rfl (pc0 := 38) (pc' := 54) rfl (hb hby own_d_jdk_52_method_16_code_38) rfl (tlt hk2).2.2.1 (by decide) (by decide) kk) ?_
    show OGo p e below (T335.setTop (mkF m 54 #[.val (.ref ca), .val (.int (0 : Int32)), .val (.int (3 : Int32)), .val (.ref ba), .val (.int (0 : Int32)), .val (.ref u)] [])) _
    refine OGo.step (fun _ kk => XS.aload X335.here hx rfl (hb hby own_d_jdk_52_method_16_code_54) rfl rfl kk) ?_
    show OGo p e below (T335.setTop (mkF m 56 #[.val (.ref ca), .val (.int (0 : Int32)), .val (.int (3 : Int32)), .val (.ref ba), .val (.int (0 : Int32)), .val (.ref u)] [(.ref u)])) _
    exact own_ret X335 hx hlk hret rfl (Or.inr (Or.inr (Or.inr (Or.inr ⟨rfl, rfl, rfl⟩)))) (hb hby own_d_jdk_52_method_16_code_56) (by rw [e335]; exact ⟨u, kb, rfl, Nc335, xt331, gu0, Vu⟩) (by decide) (by decide)
  · show OGo p e below (T330.setTop (mkF m 32 #[.val (.ref ca), .val (.int (0 : Int32)), .val (.int (3 : Int32)), .val (.ref ba), .val (.int (1 : Int32)), .val (.ref u)] [(.int (1 : Int32)), (.ref u)])) _
    have xt336 := (own_ext_trans xt325 Xe330)
    have fx337 := SA.ext xt336
    have fx338 := SH.ext xt336
    have fx339 := SL.ext xt336
    refine own_callS X330 hx hZ (y := (⟨"java/lang/StringUTF16", "getChar", "([BI)C"⟩ : MethodName)) hown (hw _ (List.mem_of_getElem? (i := 118) rfl)) (hw _ (List.mem_of_getElem? (i := 119) rfl)) (hw _ (List.mem_of_getElem? (i := 82) rfl)) (hw _ (List.mem_of_getElem? (i := 120) rfl)) (by decide) (W := 0) (own_getc1 l Z a0 hw [] u kb _ (StrChars.Road.wideBytes [c0_, c1_, c2_]) (StrChars.lo8 c1_) (StrChars.hi8 c1_) T330.heap n0 sz330 fx337 fx338 fx339 Vu (by decide) (by decide) (by decide) (by decide) rfl rfl) rfl  (pc := 32) (Ls := #[.val (.ref ca), .val (.int (0 : Int32)), .val (.int (3 : Int32)), .val (.ref ba), .val (.int (1 : Int32)), .val (.ref u)]) (argsL := [(.ref u), (.int (1 : Int32))]) (rest := []) (by rw [hml]; rfl) (lenOf own_pd16 rfl) rfl (hb hby own_d_jdk_52_method_16_code_32) (by decide) (by decide) (by decide) (by decide) ?_
    intro v340 T340 L340 X340 hQ340
    obtain ⟨rfl, N340, e340⟩ := hQ340
    show OGo p e below (T340.setTop (mkF m 35 #[.val (.ref ca), .val (.int (0 : Int32)), .val (.int (3 : Int32)), .val (.ref ba), .val (.int (1 : Int32)), .val (.ref u)] [(.int (StrChars.pairCh (StrChars.lo8 c1_) (StrChars.hi8 c1_)))])) _
    have Nc340 := Fr.app Nc330 N340
    rw [StrChars.pair_says hb1.1 hb1.2]
    show OGo p e below (T340.setTop (mkF m 35 #[.val (.ref ca), .val (.int (0 : Int32)), .val (.int (3 : Int32)), .val (.ref ba), .val (.int (1 : Int32)), .val (.ref u)] [(.int c1_)])) _
    refine OGo.step (fun _ kk => XS.sipush X340.here hx rfl (hb hby own_d_jdk_52_method_16_code_35) kk) ?_
    show OGo p e below (T340.setTop (mkF m 38 #[.val (.ref ca), .val (.int (0 : Int32)), .val (.int (3 : Int32)), .val (.ref ba), .val (.int (1 : Int32)), .val (.ref u)] [(.int (255 : Int32)), (.int c1_)])) _
    refine OGo.step (fun _ kk => XS.icmpYes X340.here hx rfl (pc0 := 38) (pc' := 54) rfl (hb hby own_d_jdk_52_method_16_code_38) rfl (tlt hk2).2.2.1 (by decide) (by decide) kk) ?_
    show OGo p e below (T340.setTop (mkF m 54 #[.val (.ref ca), .val (.int (0 : Int32)), .val (.int (3 : Int32)), .val (.ref ba), .val (.int (1 : Int32)), .val (.ref u)] [])) _
    refine OGo.step (fun _ kk => XS.aload X340.here hx rfl (hb hby own_d_jdk_52_method_16_code_54) rfl rfl kk) ?_
    show OGo p e below (T340.setTop (mkF m 56 #[.val (.ref ca), .val (.int (0 : Int32)), .val (.int (3 : Int32)), .val (.ref ba), .val (.int (1 : Int32)), .val (.ref u)] [(.ref u)])) _
    exact own_ret X340 hx hlk hret rfl (Or.inr (Or.inr (Or.inr (Or.inr ⟨rfl, rfl, rfl⟩)))) (hb hby own_d_jdk_52_method_16_code_56) (by rw [e340]; exact ⟨u, kb, rfl, Nc340, xt336, gu0, Vu⟩) (by decide) (by decide)
  · show OGo p e below (T330.setTop (mkF m 32 #[.val (.ref ca), .val (.int (0 : Int32)), .val (.int (3 : Int32)), .val (.ref ba), .val (.int (2 : Int32)), .val (.ref u)] [(.int (2 : Int32)), (.ref u)])) _
    have xt341 := (own_ext_trans xt325 Xe330)
    have fx342 := SA.ext xt341
    have fx343 := SH.ext xt341
    have fx344 := SL.ext xt341
    refine own_callS X330 hx hZ (y := (⟨"java/lang/StringUTF16", "getChar", "([BI)C"⟩ : MethodName)) hown (hw _ (List.mem_of_getElem? (i := 118) rfl)) (hw _ (List.mem_of_getElem? (i := 119) rfl)) (hw _ (List.mem_of_getElem? (i := 82) rfl)) (hw _ (List.mem_of_getElem? (i := 120) rfl)) (by decide) (W := 0) (own_getc2 l Z a0 hw [] u kb _ (StrChars.Road.wideBytes [c0_, c1_, c2_]) (StrChars.lo8 c2_) (StrChars.hi8 c2_) T330.heap n0 sz330 fx342 fx343 fx344 Vu (by decide) (by decide) (by decide) (by decide) rfl rfl) rfl  (pc := 32) (Ls := #[.val (.ref ca), .val (.int (0 : Int32)), .val (.int (3 : Int32)), .val (.ref ba), .val (.int (2 : Int32)), .val (.ref u)]) (argsL := [(.ref u), (.int (2 : Int32))]) (rest := []) (by rw [hml]; rfl) (lenOf own_pd16 rfl) rfl (hb hby own_d_jdk_52_method_16_code_32) (by decide) (by decide) (by decide) (by decide) ?_
    intro v345 T345 L345 X345 hQ345
    obtain ⟨rfl, N345, e345⟩ := hQ345
    show OGo p e below (T345.setTop (mkF m 35 #[.val (.ref ca), .val (.int (0 : Int32)), .val (.int (3 : Int32)), .val (.ref ba), .val (.int (2 : Int32)), .val (.ref u)] [(.int (StrChars.pairCh (StrChars.lo8 c2_) (StrChars.hi8 c2_)))])) _
    have Nc345 := Fr.app Nc330 N345
    rw [StrChars.pair_says hb2.1 hb2.2]
    show OGo p e below (T345.setTop (mkF m 35 #[.val (.ref ca), .val (.int (0 : Int32)), .val (.int (3 : Int32)), .val (.ref ba), .val (.int (2 : Int32)), .val (.ref u)] [(.int c2_)])) _
    refine OGo.step (fun _ kk => XS.sipush X345.here hx rfl (hb hby own_d_jdk_52_method_16_code_35) kk) ?_
    show OGo p e below (T345.setTop (mkF m 38 #[.val (.ref ca), .val (.int (0 : Int32)), .val (.int (3 : Int32)), .val (.ref ba), .val (.int (2 : Int32)), .val (.ref u)] [(.int (255 : Int32)), (.int c2_)])) _
    refine OGo.step (fun _ kk => XS.icmpYes X345.here hx rfl (pc0 := 38) (pc' := 54) rfl (hb hby own_d_jdk_52_method_16_code_38) rfl (tlt hk2).2.2.1 (by decide) (by decide) kk) ?_
    show OGo p e below (T345.setTop (mkF m 54 #[.val (.ref ca), .val (.int (0 : Int32)), .val (.int (3 : Int32)), .val (.ref ba), .val (.int (2 : Int32)), .val (.ref u)] [])) _
    refine OGo.step (fun _ kk => XS.aload X345.here hx rfl (hb hby own_d_jdk_52_method_16_code_54) rfl rfl kk) ?_
    show OGo p e below (T345.setTop (mkF m 56 #[.val (.ref ca), .val (.int (0 : Int32)), .val (.int (3 : Int32)), .val (.ref ba), .val (.int (2 : Int32)), .val (.ref u)] [(.ref u)])) _
    exact own_ret X345 hx hlk hret rfl (Or.inr (Or.inr (Or.inr (Or.inr ⟨rfl, rfl, rfl⟩)))) (hb hby own_d_jdk_52_method_16_code_56) (by rw [e345]; exact ⟨u, kb, rfl, Nc345, xt341, gu0, Vu⟩) (by decide) (by decide)

set_option maxRecDepth 65536 in
set_option maxHeartbeats 40000000 in
theorem own_codl3 (l : Launch) (Z : State) (a0 : Array Value) (hw : ∀ d ∈ tables_1, d.before a0 Z = true) (ws : List Jvm.Cond) (u : Addr) (kb : ClassId) (vs : List Value) (h0 : Heap) (n0 : Nat) (Z0 : n0 ≤ h0.size) (Vu : Arv Z h0 u kb .byte (6 : Int32) vs (.int (0 : Int32))) :
    OMet l Z (⟨"java/lang/StringUTF16", "coderFromArrayLen", "([BI)B"⟩ : MethodName) jdk_52_method_15_code 2 (some .byte) ws ({ frames := 0, cells := 0, slots := 0, locals := 0 } : Room) #[(.ref u), (.int (3 : Int32))] h0 (fun v h L => v = some (.int (1 : Int32)) ∧ Fr n0 L ∧ h = h0) := by
  refine OMet.body (plainFor_of_name own_pn4) ?_
  intro p e s m below meth c s₁ hx hby hml hown hnm hret hlk hZ X0 e0
  refine OGo.step (fun _ kk => castTop (show entryFrame m #[(.ref u), (.int (3 : Int32))] 2 = (mkF m 0 #[.val (.ref u), .val (.int (3 : Int32))] []) from by first | (simp [entryFrame, mkF, argsToLocals, Value.category]; done) | rfl) kk) ?_
  show OGo p e below (s₁.setTop (mkF m 0 #[.val (.ref u), .val (.int (3 : Int32))] [])) _
  obtain ⟨cu, Au, qu, Su, Mu, Hu, Gu⟩ := id Vu
  refine OGo.step (fun _ kk => XS.iloadN X0.here hx rfl (hb hby own_d_jdk_52_method_15_code_0) rfl kk) ?_
  show OGo p e below (s₁.setTop (mkF m 1 #[.val (.ref u), .val (.int (3 : Int32))] [(.int (3 : Int32))])) _
  refine OGo.step (fun _ kk => XS.aloadN X0.here hx rfl (hb hby own_d_jdk_52_method_15_code_1) rfl rfl kk) ?_
  show OGo p e below (s₁.setTop (mkF m 2 #[.val (.ref u), .val (.int (3 : Int32))] [(.ref u), (.int (3 : Int32))])) _
  refine OGo.step (fun _ kk => X0.arraylength hx (by rw [e0]; exact (Au).1) (State.isArrayOf_alike hZ.alike (Au).2.1) (g := (mkF m 2 #[.val (.ref u), .val (.int (3 : Int32))] [(.ref u), (.int (3 : Int32))])) rfl rfl (hb hby own_d_jdk_52_method_15_code_2) _ kk) ?_
  rw [len_of Su Mu]
  show OGo p e below (s₁.setTop (mkF m 3 #[.val (.ref u), .val (.int (3 : Int32))] [(.int (6 : Int32)), (.int (3 : Int32))])) _
  refine OGo.step (fun _ kk => XS.isub X0.here hx rfl (hb hby own_d_jdk_52_method_15_code_3) rfl kk) ?_
  show OGo p e below (s₁.setTop (mkF m 4 #[.val (.ref u), .val (.int (3 : Int32))] [(.int ((3 : Int32) - (6 : Int32)))])) _
  refine OGo.step (fun _ kk => XS.bipush X0.here hx rfl (hb hby own_d_jdk_52_method_15_code_4) kk) ?_
  show OGo p e below (s₁.setTop (mkF m 6 #[.val (.ref u), .val (.int (3 : Int32))] [(.int (31 : Int32)), (.int ((3 : Int32) - (6 : Int32)))])) _
  refine OGo.step (fun _ kk => XS.iushr X0.here hx rfl (hb hby own_d_jdk_52_method_15_code_6) rfl kk) ?_
  show OGo p e below (s₁.setTop (mkF m 7 #[.val (.ref u), .val (.int (3 : Int32))] [(.int ((((3 : Int32) - (6 : Int32)).toUInt32 >>> ((31 : Int32) &&& 31).toUInt32).toInt32))])) _
  refine OGo.step (fun _ kk => XS.i2b X0.here hx rfl (hb hby own_d_jdk_52_method_15_code_7) rfl kk) ?_
  show OGo p e below (s₁.setTop (mkF m 8 #[.val (.ref u), .val (.int (3 : Int32))] [(.int (((((3 : Int32) - (6 : Int32)).toUInt32 >>> ((31 : Int32) &&& 31).toUInt32).toInt32).toInt8.toInt32))])) _
  exact own_retN X0 hx hlk hret (by simp) (hb hby own_d_jdk_52_method_15_code_8) ⟨rfl, Fr.nil n0, e0⟩ (by decide) (by decide)

theorem own_ex3 {c0_ c1_ c2_ : Int32} (hex : (255 : Int32) < c0_ ∨ (255 : Int32) < c1_ ∨ (255 : Int32) < c2_) : ∃ c ∈ ([c0_, c1_, c2_] : List Int32), (255 : Int32) < c := by
  rcases hex with h | h | h
  · exact ⟨_, List.mem_of_getElem? (i := 0) rfl, h⟩
  · exact ⟨_, List.mem_of_getElem? (i := 1) rfl, h⟩
  · exact ⟨_, List.mem_of_getElem? (i := 2) rfl, h⟩
set_option maxRecDepth 65536 in
set_option maxHeartbeats 40000000 in
theorem own_new4U3 (l : Launch) (Z : State) (a0 : Array Value) (hw : ∀ d ∈ tables_1, d.before a0 Z = true) (ws : List Jvm.Cond) (a ca : Addr) (kc : ClassId) (c0_ c1_ c2_ : Int32) (zc : Int32) (h0 : Heap) (n0 : Nat) (Z0 : n0 ≤ h0.size) (SC : Sta Z h0 "java/lang/String" "COMPACT_STRINGS" "Z" (.int zc)) (hzc : ¬ zc = 0) (SA : Sta Z h0 "java/lang/StringUTF16" "$assertionsDisabled" "Z" (.int (1 : Int32))) (SH : Sta Z h0 "java/lang/StringUTF16" "HI_BYTE_SHIFT" "I" (.int (0 : Int32))) (SL : Sta Z h0 "java/lang/StringUTF16" "LO_BYTE_SHIFT" "I" (.int (8 : Int32))) (E1 : Exa Z h0 a "java/lang/String") (Fv : Fld Z h0 a "java/lang/String" "value" "[B" .null) (Fc : Fld Z h0 a "java/lang/String" "coder" "B" (.int (0 : Int32))) (ga : n0 ≤ a) (Vc : Arv Z h0 ca kc .char (3 : Int32) [(.int c0_), (.int c1_), (.int c2_)] (.int (0 : Int32))) (hb0 : ¬ c0_ < 0 ∧ ¬ (65535 : Int32) < c0_) (hb1 : ¬ c1_ < 0 ∧ ¬ (65535 : Int32) < c1_) (hb2 : ¬ c2_ < 0 ∧ ¬ (65535 : Int32) < c2_) (hex : (255 : Int32) < c0_ ∨ (255 : Int32) < c1_ ∨ (255 : Int32) < c2_) :
    OMet l Z (⟨"java/lang/String", "<init>", "([CIILjava/lang/Void;)V"⟩ : MethodName) jdk_42_method_149_code 6 none ws ({ frames := 4, cells := 2, slots := 9, locals := 57 } : Room) #[(.ref a), (.ref ca), (.int (0 : Int32)), (.int (3 : Int32)), .null] h0 (fun v h L => v = none ∧ Fr n0 L ∧ Keep h0 h [a] ∧ OStr Z h a [c0_, c1_, c2_]) := by
  refine OMet.body (plainFor_of_name own_pn3) ?_
  intro p e s m below meth c s₁ hx hby hml hown hnm hret hlk hZ X0 e0
  refine OGo.step (fun _ kk => castTop (show entryFrame m #[(.ref a), (.ref ca), (.int (0 : Int32)), (.int (3 : Int32)), .null] 6 = (mkF m 0 #[.val (.ref a), .val (.ref ca), .val (.int (0 : Int32)), .val (.int (3 : Int32)), .val .null, .unset] []) from by first | (simp [entryFrame, mkF, argsToLocals, Value.category]; done) | rfl) kk) ?_
  show OGo p e below (s₁.setTop (mkF m 0 #[.val (.ref a), .val (.ref ca), .val (.int (0 : Int32)), .val (.int (3 : Int32)), .val .null, .unset] [])) _
  refine OGo.step (fun _ kk => XS.aloadN X0.here hx rfl (hb hby own_d_jdk_42_method_149_code_0) rfl rfl kk) ?_
  show OGo p e below (s₁.setTop (mkF m 1 #[.val (.ref a), .val (.ref ca), .val (.int (0 : Int32)), .val (.int (3 : Int32)), .val .null, .unset] [(.ref a)])) _
  obtain ⟨T346, X346, e346, st346⟩ := initO X0 hx hZ hown (hw _ (List.mem_of_getElem? (i := 17) rfl)) (hw _ (List.mem_of_getElem? (i := 18) rfl)) (hw _ (List.mem_of_getElem? (i := 19) rfl)) e0 (g := (mkF m 1 #[.val (.ref a), .val (.ref ca), .val (.int (0 : Int32)), .val (.int (3 : Int32)), .val .null, .unset] [(.ref a)])) rfl (by rw [hml]; rfl) rfl (hb hby own_d_jdk_42_method_149_code_1) (by decide) (W := 0) (by show 2 * 0 + _ ≤ _; exact Nat.le_of_eq rfl) (by decide)
  refine OGo.step st346 ?_
  show OGo p e below (T346.setTop (mkF m 4 #[.val (.ref a), .val (.ref ca), .val (.int (0 : Int32)), .val (.int (3 : Int32)), .val .null, .unset] [])) _
  refine OGo.step (fun _ kk => XS.iloadN X346.here hx rfl (hb hby own_d_jdk_42_method_149_code_4) rfl kk) ?_
  show OGo p e below (T346.setTop (mkF m 5 #[.val (.ref a), .val (.ref ca), .val (.int (0 : Int32)), .val (.int (3 : Int32)), .val .null, .unset] [(.int (3 : Int32))])) _
  refine OGo.step (fun _ kk => XS.ifYes X346.here hx rfl (pc0 := 5) (pc' := 27) rfl (hb hby own_d_jdk_42_method_149_code_5) rfl ((if0 _ _).trans (feq (by decide)).2) (by decide) (by decide) kk) ?_
  show OGo p e below (T346.setTop (mkF m 27 #[.val (.ref a), .val (.ref ca), .val (.int (0 : Int32)), .val (.int (3 : Int32)), .val .null, .unset] [])) _
  obtain ⟨T347, X347, e347, st347⟩ := getS2 X346 hx hZ hown (host := "") (Or.inl (hw _ (List.mem_of_getElem? (i := 60) rfl))) Via.refl e346 SC (g := (mkF m 27 #[.val (.ref a), .val (.ref ca), .val (.int (0 : Int32)), .val (.int (3 : Int32)), .val .null, .unset] [])) rfl (hb hby own_d_jdk_42_method_149_code_27)
  refine OGo.step st347 ?_
  show OGo p e below (T347.setTop (mkF m 30 #[.val (.ref a), .val (.ref ca), .val (.int (0 : Int32)), .val (.int (3 : Int32)), .val .null, .unset] [(.int zc)])) _
  refine OGo.step (fun _ kk => XS.ifNo X347.here hx rfl (hb hby own_d_jdk_42_method_149_code_30) rfl ((if0 _ _).trans (feq hzc).1) kk) ?_
  show OGo p e below (T347.setTop (mkF m 33 #[.val (.ref a), .val (.ref ca), .val (.int (0 : Int32)), .val (.int (3 : Int32)), .val .null, .unset] [])) _
  refine OGo.step (fun _ kk => XS.aloadN X347.here hx rfl (hb hby own_d_jdk_42_method_149_code_33) rfl rfl kk) ?_
  show OGo p e below (T347.setTop (mkF m 34 #[.val (.ref a), .val (.ref ca), .val (.int (0 : Int32)), .val (.int (3 : Int32)), .val .null, .unset] [(.ref ca)])) _
  refine OGo.step (fun _ kk => XS.iloadN X347.here hx rfl (hb hby own_d_jdk_42_method_149_code_34) rfl kk) ?_
  show OGo p e below (T347.setTop (mkF m 35 #[.val (.ref a), .val (.ref ca), .val (.int (0 : Int32)), .val (.int (3 : Int32)), .val .null, .unset] [(.int (0 : Int32)), (.ref ca)])) _
  refine OGo.step (fun _ kk => XS.iloadN X347.here hx rfl (hb hby own_d_jdk_42_method_149_code_35) rfl kk) ?_
  show OGo p e below (T347.setTop (mkF m 36 #[.val (.ref a), .val (.ref ca), .val (.int (0 : Int32)), .val (.int (3 : Int32)), .val .null, .unset] [(.int (3 : Int32)), (.int (0 : Int32)), (.ref ca)])) _
  refine own_callS X347 hx hZ (y := (⟨"java/lang/StringUTF16", "compress", "([CII)[B"⟩ : MethodName)) hown (hw _ (List.mem_of_getElem? (i := 80) rfl)) (hw _ (List.mem_of_getElem? (i := 81) rfl)) (hw _ (List.mem_of_getElem? (i := 82) rfl)) (hw _ (List.mem_of_getElem? (i := 83) rfl)) (by decide) (W := 0) (own_cmp3_3 l Z a0 hw [] ca kc c0_ c1_ c2_ h0 n0 Z0 SA SH SL Vc hb0 hb1 hb2 hex) e347  (pc := 36) (Ls := #[.val (.ref a), .val (.ref ca), .val (.int (0 : Int32)), .val (.int (3 : Int32)), .val .null, .unset]) (argsL := [(.ref ca), (.int (0 : Int32)), (.int (3 : Int32))]) (rest := []) (by rw [hml]; rfl) (lenOf own_pd15 rfl) rfl (hb hby own_d_jdk_42_method_149_code_36) (by decide) (by decide) (by decide) (by decide) ?_
  intro v348 T348 L348 X348 hQ348
  obtain ⟨u, kb, rfl, N348, Xe348, gu, Vu⟩ := hQ348
  show OGo p e below (T348.setTop (mkF m 39 #[.val (.ref a), .val (.ref ca), .val (.int (0 : Int32)), .val (.int (3 : Int32)), .val .null, .unset] [(.ref u)])) _
  have nau : a ≠ u := Nat.ne_of_lt (Nat.lt_of_lt_of_le E1.lt gu)
  have Nc348 := Fr.app (Fr.nil n0) N348
  have sz348 : n0 ≤ T348.heap.size := Nat.le_trans Z0 Xe348.1
  refine OGo.step (fun _ kk => XS.astore X348.here hx rfl (hb hby own_d_jdk_42_method_149_code_39) rfl rfl (l' := #[.val (.ref a), .val (.ref ca), .val (.int (0 : Int32)), .val (.int (3 : Int32)), .val .null, .val (.ref u)]) rfl kk) ?_
  show OGo p e below (T348.setTop (mkF m 41 #[.val (.ref a), .val (.ref ca), .val (.int (0 : Int32)), .val (.int (3 : Int32)), .val .null, .val (.ref u)] [])) _
  refine OGo.step (fun _ kk => XS.aloadN X348.here hx rfl (hb hby own_d_jdk_42_method_149_code_41) rfl rfl kk) ?_
  show OGo p e below (T348.setTop (mkF m 42 #[.val (.ref a), .val (.ref ca), .val (.int (0 : Int32)), .val (.int (3 : Int32)), .val .null, .val (.ref u)] [(.ref a)])) _
  refine OGo.step (fun _ kk => XS.aload X348.here hx rfl (hb hby own_d_jdk_42_method_149_code_42) rfl rfl kk) ?_
  show OGo p e below (T348.setTop (mkF m 44 #[.val (.ref a), .val (.ref ca), .val (.int (0 : Int32)), .val (.int (3 : Int32)), .val .null, .val (.ref u)] [(.ref u), (.ref a)])) _
  refine OGo.step (fun _ kk => XS.iloadN X348.here hx rfl (hb hby own_d_jdk_42_method_149_code_44) rfl kk) ?_
  show OGo p e below (T348.setTop (mkF m 45 #[.val (.ref a), .val (.ref ca), .val (.int (0 : Int32)), .val (.int (3 : Int32)), .val .null, .val (.ref u)] [(.int (3 : Int32)), (.ref u), (.ref a)])) _
  refine own_callS X348 hx hZ (y := (⟨"java/lang/StringUTF16", "coderFromArrayLen", "([BI)B"⟩ : MethodName)) hown (hw _ (List.mem_of_getElem? (i := 87) rfl)) (hw _ (List.mem_of_getElem? (i := 88) rfl)) (hw _ (List.mem_of_getElem? (i := 82) rfl)) (hw _ (List.mem_of_getElem? (i := 89) rfl)) (by decide) (W := 1) (own_codl3 l Z a0 hw [] u kb _ T348.heap n0 sz348 Vu) rfl  (pc := 45) (Ls := #[.val (.ref a), .val (.ref ca), .val (.int (0 : Int32)), .val (.int (3 : Int32)), .val .null, .val (.ref u)]) (argsL := [(.ref u), (.int (3 : Int32))]) (rest := [(.ref a)]) (by rw [hml]; rfl) (lenOf own_pd17 rfl) rfl (hb hby own_d_jdk_42_method_149_code_45) (by decide) (by decide) (by decide) (by decide) ?_
  intro v349 T349 L349 X349 hQ349
  obtain ⟨rfl, N349, e349⟩ := hQ349
  show OGo p e below (T349.setTop (mkF m 48 #[.val (.ref a), .val (.ref ca), .val (.int (0 : Int32)), .val (.int (3 : Int32)), .val .null, .val (.ref u)] [(.int (1 : Int32)), (.ref a)])) _
  have Nc349 := Fr.app Nc348 N349
  have fc350 := (Fc.ext Xe348)
  have fc351 := (E1.ext Xe348)
  obtain ⟨T352, h352, X352, e352, W352, st352⟩ := putFN X349 hx hZ hown (hw _ (List.mem_of_getElem? (i := 27) rfl)) Via.refl e349 fc350 fc351 (Or.inr ⟨(hw _ (List.mem_of_getElem? (i := 23) rfl)), rfl, hnm⟩) (hw _ (List.mem_of_getElem? (i := 7) rfl)) (ty := .byte) (v' := (.int (1 : Int32))) (by decide) rfl rfl (g := (mkF m 48 #[.val (.ref a), .val (.ref ca), .val (.int (0 : Int32)), .val (.int (3 : Int32)), .val .null, .val (.ref u)] [(.int (1 : Int32)), (.ref a)])) rfl rfl (hb hby own_d_jdk_42_method_149_code_48)
  refine OGo.step st352 ?_
  show OGo p e below (T352.setTop (mkF m 51 #[.val (.ref a), .val (.ref ca), .val (.int (0 : Int32)), .val (.int (3 : Int32)), .val .null, .val (.ref u)] [])) _
  have Fw352 := fc350.same W352
  have Nf352 := Fr.snoc X352 Nc349 ga
  have sz352 : n0 ≤ h352.size := by rw [W352.size]; exact sz348
  refine OGo.step (fun _ kk => XS.aloadN X352.here hx rfl (hb hby own_d_jdk_42_method_149_code_51) rfl rfl kk) ?_
  show OGo p e below (T352.setTop (mkF m 52 #[.val (.ref a), .val (.ref ca), .val (.int (0 : Int32)), .val (.int (3 : Int32)), .val .null, .val (.ref u)] [(.ref a)])) _
  refine OGo.step (fun _ kk => XS.aload X352.here hx rfl (hb hby own_d_jdk_42_method_149_code_52) rfl rfl kk) ?_
  show OGo p e below (T352.setTop (mkF m 54 #[.val (.ref a), .val (.ref ca), .val (.int (0 : Int32)), .val (.int (3 : Int32)), .val .null, .val (.ref u)] [(.ref u), (.ref a)])) _
  have fc353 := ((Fv.ext Xe348).other W352 (Or.inr (slot_ne (Or.inr (hw _ (List.mem_of_getElem? (i := 22) rfl))) (Or.inr (hw _ (List.mem_of_getElem? (i := 23) rfl))) (by decide) (t := (.array .byte)) (t' := .byte) (by decide) (by decide))))
  have fc354 := (fc351.wr W352)
  obtain ⟨T355, h355, X355, e355, W355, st355⟩ := putF X352 hx hZ hown (host := "") (Or.inl (hw _ (List.mem_of_getElem? (i := 26) rfl))) Via.refl e352 fc353 fc354 (Or.inr ⟨(hw _ (List.mem_of_getElem? (i := 22) rfl)), rfl, hnm⟩) (hw _ (List.mem_of_getElem? (i := 7) rfl)) (ty := (.array .byte)) (by decide) rfl rfl (g := (mkF m 54 #[.val (.ref a), .val (.ref ca), .val (.int (0 : Int32)), .val (.int (3 : Int32)), .val .null, .val (.ref u)] [(.ref u), (.ref a)])) rfl rfl (hb hby own_d_jdk_42_method_149_code_54)
  refine OGo.step st355 ?_
  show OGo p e below (T355.setTop (mkF m 57 #[.val (.ref a), .val (.ref ca), .val (.int (0 : Int32)), .val (.int (3 : Int32)), .val .null, .val (.ref u)] [])) _
  have Fw355 := fc353.same W355
  have Nf355 := Fr.snoc X355 Nf352 ga
  have sz355 : n0 ≤ h355.size := by rw [W355.size]; exact sz352
  have fc356 := (fc354.wr W355)
  have fc357 := (Fw352.other W355 (Or.inr (slot_ne (Or.inr (hw _ (List.mem_of_getElem? (i := 23) rfl))) (Or.inr (hw _ (List.mem_of_getElem? (i := 22) rfl))) (by decide) (t := .byte) (t' := (.array .byte)) (by decide) (by decide))))
  have fc358 := ((Vu.other W352 (Ne.symm nau)).other W355 (Ne.symm nau))
  have HO : OStr Z h355 a [c0_, c1_, c2_] := ⟨u, kb, 1, (6 : Int32), _, fc356, Fw355, fc357, fc358, Or.inr ⟨rfl, rfl, rfl, own_ex3 hex⟩, (own_allS hb0 (own_allS hb1 (own_allS hb2 own_all0))), Nat.le_of_ble_eq_true rfl⟩
  have HK := ((((Keep.refl h0 [a]).ext Xe348).wr W352 (Or.inl (List.mem_of_getElem? (i := 0) rfl))).wr W355 (Or.inl (List.mem_of_getElem? (i := 0) rfl)))
  exact own_ret0 X355 hx hlk hret (hb hby own_d_jdk_42_method_149_code_57) (by rw [e355]; exact ⟨rfl, Nf355, HK, HO⟩) (by decide) (by decide)

set_option maxRecDepth 65536 in
set_option maxHeartbeats 40000000 in
theorem own_new1U3 (l : Launch) (Z : State) (a0 : Array Value) (hw : ∀ d ∈ tables_1, d.before a0 Z = true) (ws : List Jvm.Cond) (a ca : Addr) (kc : ClassId) (c0_ c1_ c2_ : Int32) (zc : Int32) (h0 : Heap) (n0 : Nat) (Z0 : n0 ≤ h0.size) (SC : Sta Z h0 "java/lang/String" "COMPACT_STRINGS" "Z" (.int zc)) (hzc : ¬ zc = 0) (SA : Sta Z h0 "java/lang/StringUTF16" "$assertionsDisabled" "Z" (.int (1 : Int32))) (SH : Sta Z h0 "java/lang/StringUTF16" "HI_BYTE_SHIFT" "I" (.int (0 : Int32))) (SL : Sta Z h0 "java/lang/StringUTF16" "LO_BYTE_SHIFT" "I" (.int (8 : Int32))) (E1 : Exa Z h0 a "java/lang/String") (Fv : Fld Z h0 a "java/lang/String" "value" "[B" .null) (Fc : Fld Z h0 a "java/lang/String" "coder" "B" (.int (0 : Int32))) (ga : n0 ≤ a) (Vc : Arv Z h0 ca kc .char (3 : Int32) [(.int c0_), (.int c1_), (.int c2_)] (.int (0 : Int32))) (hb0 : ¬ c0_ < 0 ∧ ¬ (65535 : Int32) < c0_) (hb1 : ¬ c1_ < 0 ∧ ¬ (65535 : Int32) < c1_) (hb2 : ¬ c2_ < 0 ∧ ¬ (65535 : Int32) < c2_) (hex : (255 : Int32) < c0_ ∨ (255 : Int32) < c1_ ∨ (255 : Int32) < c2_) :
    OMet l Z (⟨"java/lang/String", "<init>", "([C)V"⟩ : MethodName) jdk_42_method_3_code 2 none ws ({ frames := 5, cells := 2, slots := 9, locals := 74 } : Room) #[(.ref a), (.ref ca)] h0 (fun v h L => v = none ∧ Fr n0 L ∧ Keep h0 h [a] ∧ OStr Z h a [c0_, c1_, c2_]) := by
  refine OMet.body (plainFor_of_name own_pn3) ?_
  intro p e s m below meth c s₁ hx hby hml hown hnm hret hlk hZ X0 e0
  refine OGo.step (fun _ kk => castTop (show entryFrame m #[(.ref a), (.ref ca)] 2 = (mkF m 0 #[.val (.ref a), .val (.ref ca)] []) from by first | (simp [entryFrame, mkF, argsToLocals, Value.category]; done) | rfl) kk) ?_
  show OGo p e below (s₁.setTop (mkF m 0 #[.val (.ref a), .val (.ref ca)] [])) _
  obtain ⟨cb, Ab, qb, Sb, Mb, Hb, Gb⟩ := id Vc
  refine OGo.step (fun _ kk => XS.aloadN X0.here hx rfl (hb hby own_d_jdk_42_method_3_code_0) rfl rfl kk) ?_
  show OGo p e below (s₁.setTop (mkF m 1 #[.val (.ref a), .val (.ref ca)] [(.ref a)])) _
  refine OGo.step (fun _ kk => XS.aloadN X0.here hx rfl (hb hby own_d_jdk_42_method_3_code_1) rfl rfl kk) ?_
  show OGo p e below (s₁.setTop (mkF m 2 #[.val (.ref a), .val (.ref ca)] [(.ref ca), (.ref a)])) _
  refine OGo.step (fun _ kk => XS.iconst X0.here hx rfl (hb hby own_d_jdk_42_method_3_code_2) kk) ?_
  show OGo p e below (s₁.setTop (mkF m 3 #[.val (.ref a), .val (.ref ca)] [(.int (0 : Int32)), (.ref ca), (.ref a)])) _
  refine OGo.step (fun _ kk => XS.aloadN X0.here hx rfl (hb hby own_d_jdk_42_method_3_code_3) rfl rfl kk) ?_
  show OGo p e below (s₁.setTop (mkF m 4 #[.val (.ref a), .val (.ref ca)] [(.ref ca), (.int (0 : Int32)), (.ref ca), (.ref a)])) _
  refine OGo.step (fun _ kk => X0.arraylength hx (by rw [e0]; exact (Ab).1) (State.isArrayOf_alike hZ.alike (Ab).2.1) (g := (mkF m 4 #[.val (.ref a), .val (.ref ca)] [(.ref ca), (.int (0 : Int32)), (.ref ca), (.ref a)])) rfl rfl (hb hby own_d_jdk_42_method_3_code_4) _ kk) ?_
  rw [len_of Sb Mb]
  show OGo p e below (s₁.setTop (mkF m 5 #[.val (.ref a), .val (.ref ca)] [(.int (3 : Int32)), (.int (0 : Int32)), (.ref ca), (.ref a)])) _
  refine OGo.step (fun _ kk => XS.aconstNull X0.here hx rfl (hb hby own_d_jdk_42_method_3_code_5) kk) ?_
  show OGo p e below (s₁.setTop (mkF m 6 #[.val (.ref a), .val (.ref ca)] [.null, (.int (3 : Int32)), (.int (0 : Int32)), (.ref ca), (.ref a)])) _
  refine own_special X0 hx hZ (y := (⟨"java/lang/String", "<init>", "([CIILjava/lang/Void;)V"⟩ : MethodName)) rfl hown (hw _ (List.mem_of_getElem? (i := 13) rfl)) (hw _ (List.mem_of_getElem? (i := 14) rfl)) (hw _ (List.mem_of_getElem? (i := 16) rfl)) (hw _ (List.mem_of_getElem? (i := 8) rfl)) (by decide) (a := a) (W := 0) (own_new4U3 l Z a0 hw [] a ca kc c0_ c1_ c2_ zc h0 n0 Z0 SC hzc SA SH SL E1 Fv Fc ga Vc hb0 hb1 hb2 hex) e0  (pc := 6) (Ls := #[.val (.ref a), .val (.ref ca)]) (argsL := [(.ref ca), (.int (0 : Int32)), (.int (3 : Int32)), .null]) (rest := []) (by rw [hml]; rfl) (lenOf own_pd10 rfl) rfl (hb hby own_d_jdk_42_method_3_code_6) (by decide) (by decide) (by decide) (by decide) ?_
  intro v359 T359 L359 X359 hQ359
  obtain ⟨rfl, N359, K359, O359⟩ := hQ359
  show OGo p e below (T359.setTop (mkF m 9 #[.val (.ref a), .val (.ref ca)] [])) _
  exact own_ret0 X359 hx hlk hret (hb hby own_d_jdk_42_method_3_code_9) ⟨rfl, Fr.app (Fr.nil n0) N359, K359, O359⟩ (by decide) (by decide)

set_option maxRecDepth 65536 in
set_option maxHeartbeats 40000000 in
theorem own_canEnc (l : Launch) (Z : State) (a0 : Array Value) (hw : ∀ d ∈ tables_1, d.before a0 Z = true) (ws : List Jvm.Cond) (ch : Int32) (h0 : Heap) (n0 : Nat) (Z0 : n0 ≤ h0.size) (hc : ¬ (255 : Int32) < ch) :
    OMet l Z (⟨"java/lang/StringLatin1", "canEncode", "(C)Z"⟩ : MethodName) jdk_43_method_3_code 1 (some .boolean) ws ({ frames := 0, cells := 0, slots := 0, locals := 0 } : Room) #[(.int ch)] h0 (fun v h L => v = some (.int (1 : Int32)) ∧ Fr n0 L ∧ h = h0) := by
  refine OMet.body (plainFor_of_name own_pn5) ?_
  intro p e s m below meth c s₁ hx hby hml hown hnm hret hlk hZ X0 e0
  refine OGo.step (fun _ kk => castTop (show entryFrame m #[(.int ch)] 1 = (mkF m 0 #[.val (.int ch)] []) from by first | (simp [entryFrame, mkF, argsToLocals, Value.category]; done) | rfl) kk) ?_
  show OGo p e below (s₁.setTop (mkF m 0 #[.val (.int ch)] [])) _
  refine OGo.step (fun _ kk => XS.iloadN X0.here hx rfl (hb hby own_d_jdk_43_method_3_code_0) rfl kk) ?_
  show OGo p e below (s₁.setTop (mkF m 1 #[.val (.int ch)] [(.int ch)])) _
  refine OGo.step (fun _ kk => XS.sipush X0.here hx rfl (hb hby own_d_jdk_43_method_3_code_1) kk) ?_
  show OGo p e below (s₁.setTop (mkF m 4 #[.val (.int ch)] [(.int (255 : Int32)), (.int ch)])) _
  refine OGo.step (fun _ kk => XS.icmpNo X0.here hx rfl (hb hby own_d_jdk_43_method_3_code_4) rfl (flt hc).2.2.1 kk) ?_
  show OGo p e below (s₁.setTop (mkF m 7 #[.val (.int ch)] [])) _
  refine OGo.step (fun _ kk => XS.iconst X0.here hx rfl (hb hby own_d_jdk_43_method_3_code_7) kk) ?_
  show OGo p e below (s₁.setTop (mkF m 8 #[.val (.int ch)] [(.int (1 : Int32))])) _
  refine OGo.step (fun _ kk => XS.goto X0.here hx rfl (pc0 := 8) (pc' := 12) rfl (hb hby own_d_jdk_43_method_3_code_8) (by decide) (by decide) kk) ?_
  show OGo p e below (s₁.setTop (mkF m 12 #[.val (.int ch)] [(.int (1 : Int32))])) _
  exact own_retN X0 hx hlk hret (by simp) (hb hby own_d_jdk_43_method_3_code_12) ⟨by rw [own_nar1], Fr.nil n0, e0⟩ (by decide) (by decide)

set_option maxRecDepth 65536 in
set_option maxHeartbeats 40000000 in
theorem own_l1b (l : Launch) (Z : State) (a0 : Array Value) (hw : ∀ d ∈ tables_1, d.before a0 Z = true) (ws : List Jvm.Cond) (ch : Int32) (h0 : Heap) (n0 : Nat) (Z0 : n0 ≤ h0.size)  :
    OMet l Z (⟨"java/lang/StringLatin1", "toBytes", "(C)[B"⟩ : MethodName) jdk_43_method_46_code 1 (some (.array .byte)) ws ({ frames := 0, cells := 1, slots := 1, locals := 0 } : Room) #[(.int ch)] h0 (fun v h L => ∃ (t : Addr) (kb : ClassId), v = some (.ref t) ∧ Fr n0 L ∧ Ext h0 h ∧ h0.size ≤ t ∧ Arv Z h t kb .byte (1 : Int32) [.int ch.toInt8.toInt32] (.int (0 : Int32))) := by
  refine OMet.body (plainFor_of_name own_pn5) ?_
  intro p e s m below meth c s₁ hx hby hml hown hnm hret hlk hZ X0 e0
  refine OGo.step (fun _ kk => castTop (show entryFrame m #[(.int ch)] 1 = (mkF m 0 #[.val (.int ch)] []) from by first | (simp [entryFrame, mkF, argsToLocals, Value.category]; done) | rfl) kk) ?_
  show OGo p e below (s₁.setTop (mkF m 0 #[.val (.int ch)] [])) _
  refine OGo.step (fun _ kk => XS.iconst X0.here hx rfl (hb hby own_d_jdk_43_method_46_code_0) kk) ?_
  show OGo p e below (s₁.setTop (mkF m 1 #[.val (.int ch)] [(.int (1 : Int32))])) _
  obtain ⟨T360, h360, k360, X360, e360, E360, A360, st360⟩ := newP X0 hx hZ (hw _ (List.mem_of_getElem? (i := 21) rfl)) e0 (g := (mkF m 1 #[.val (.int ch)] [(.int (1 : Int32))])) rfl (hb hby own_d_jdk_43_method_46_code_1) rfl (by decide) (cap := 1) (by decide) (by decide) (by decide) (by decide)
  obtain ⟨t, g360⟩ : ∃ z, z = h0.size := ⟨_, rfl⟩
  rw [← g360] at A360 st360
  refine OGo.step st360 ?_
  show OGo p e below (T360.setTop (mkF m 3 #[.val (.int ch)] [(.ref t)])) _
  have gf_t : n0 ≤ t := Nat.le_trans Z0 (Nat.le_of_eq g360.symm)
  have sz360 : n0 ≤ h360.size := Nat.le_trans Z0 E360.1
  have Va361 : Arv Z h360 t k360 .byte (1 : Int32) [(.int (0 : Int32))] (.int (0 : Int32)) := (Arv.new A360 (by decide)).pad (pad_rep [] (.int (0 : Int32)) 1)
  refine OGo.step (fun _ kk => XS.dup X360.here hx rfl (hb hby own_d_jdk_43_method_46_code_3) rfl rfl kk) ?_
  show OGo p e below (T360.setTop (mkF m 4 #[.val (.int ch)] [(.ref t), (.ref t)])) _
  refine OGo.step (fun _ kk => XS.iconst X360.here hx rfl (hb hby own_d_jdk_43_method_46_code_4) kk) ?_
  show OGo p e below (T360.setTop (mkF m 5 #[.val (.int ch)] [(.int (0 : Int32)), (.ref t), (.ref t)])) _
  refine OGo.step (fun _ kk => XS.iloadN X360.here hx rfl (hb hby own_d_jdk_43_method_46_code_5) rfl kk) ?_
  show OGo p e below (T360.setTop (mkF m 6 #[.val (.int ch)] [(.int ch), (.int (0 : Int32)), (.ref t), (.ref t)])) _
  refine OGo.step (fun _ kk => XS.i2b X360.here hx rfl (hb hby own_d_jdk_43_method_46_code_6) rfl kk) ?_
  show OGo p e below (T360.setTop (mkF m 7 #[.val (.int ch)] [(.int (ch.toInt8.toInt32)), (.int (0 : Int32)), (.ref t), (.ref t)])) _
  obtain ⟨cA362, A362, q362, S362, M362, H362, G362⟩ := id Va361
  obtain ⟨T363, h363, X363, e363, W363, st363⟩ := stB X360 hx hZ e360 A362 (j := (0 : Int32)) (inb_of S362 ⟨by decide, by decide⟩) (g := (mkF m 7 #[.val (.int ch)] [(.int (ch.toInt8.toInt32)), (.int (0 : Int32)), (.ref t), (.ref t)])) rfl rfl (hb hby own_d_jdk_43_method_46_code_7)
  refine OGo.step st363 ?_
  show OGo p e below (T363.setTop (mkF m 8 #[.val (.int ch)] [(.ref t)])) _
  have Va362 : Arv Z h363 t k360 .byte (1 : Int32) [(.int (nar .byte (ch.toInt8.toInt32)))] (.int (0 : Int32)) := Arv.set A362 q362 S362 M362 H362 G362 (fits_nar_byte _) W363 0 rfl (Nat.le_of_ble_eq_true rfl)
  have Nf363 := Fr.snoc X363 (Fr.nil n0) gf_t
  have sz363 : n0 ≤ h363.size := by rw [W363.size]; exact sz360
  rw [own_narb] at Va362
  have xt364 := (own_ext_wr E360 W363 (Nat.le_of_eq g360.symm))
  exact own_ret X363 hx hlk hret rfl (Or.inr (Or.inr (Or.inr (Or.inr ⟨rfl, rfl, rfl⟩)))) (hb hby own_d_jdk_43_method_46_code_8) (by rw [e363]; exact ⟨t, _, rfl, Nf363, xt364, (Nat.le_of_eq g360.symm), Va362⟩) (by decide) (by decide)

set_option maxRecDepth 65536 in
set_option maxHeartbeats 40000000 in
theorem own_initBB0 (l : Launch) (Z : State) (a0 : Array Value) (hw : ∀ d ∈ tables_1, d.before a0 Z = true) (ws : List Jvm.Cond) (a t : Addr) (h0 : Heap) (n0 : Nat) (Z0 : n0 ≤ h0.size) (E1 : Exa Z h0 a "java/lang/String") (Fv : Fld Z h0 a "java/lang/String" "value" "[B" .null) (Fc : Fld Z h0 a "java/lang/String" "coder" "B" (.int (0 : Int32))) (ga : n0 ≤ a) :
    OMet l Z (⟨"java/lang/String", "<init>", "([BB)V"⟩ : MethodName) jdk_42_method_151_code 3 none ws ({ frames := 1, cells := 0, slots := 0, locals := 12 } : Room) #[(.ref a), (.ref t), (.int (0 : Int32))] h0 (fun v h L => v = none ∧ Fr n0 L ∧ Keep h0 h [a] ∧ Exa Z h a "java/lang/String" ∧ Fld Z h a "java/lang/String" "value" "[B" (.ref t) ∧ Fld Z h a "java/lang/String" "coder" "B" (.int (0 : Int32))) := by
  refine OMet.body (plainFor_of_name own_pn3) ?_
  intro p e s m below meth c s₁ hx hby hml hown hnm hret hlk hZ X0 e0
  refine OGo.step (fun _ kk => castTop (show entryFrame m #[(.ref a), (.ref t), (.int (0 : Int32))] 3 = (mkF m 0 #[.val (.ref a), .val (.ref t), .val (.int (0 : Int32))] []) from by first | (simp [entryFrame, mkF, argsToLocals, Value.category]; done) | rfl) kk) ?_
  show OGo p e below (s₁.setTop (mkF m 0 #[.val (.ref a), .val (.ref t), .val (.int (0 : Int32))] [])) _
  refine OGo.step (fun _ kk => XS.aloadN X0.here hx rfl (hb hby own_d_jdk_42_method_151_code_0) rfl rfl kk) ?_
  show OGo p e below (s₁.setTop (mkF m 1 #[.val (.ref a), .val (.ref t), .val (.int (0 : Int32))] [(.ref a)])) _
  obtain ⟨T376, X376, e376, st376⟩ := initO X0 hx hZ hown (hw _ (List.mem_of_getElem? (i := 17) rfl)) (hw _ (List.mem_of_getElem? (i := 18) rfl)) (hw _ (List.mem_of_getElem? (i := 19) rfl)) e0 (g := (mkF m 1 #[.val (.ref a), .val (.ref t), .val (.int (0 : Int32))] [(.ref a)])) rfl (by rw [hml]; rfl) rfl (hb hby own_d_jdk_42_method_151_code_1) (by decide) (W := 0) (by show 2 * 0 + _ ≤ _; exact Nat.le_of_eq rfl) (by decide)
  refine OGo.step st376 ?_
  show OGo p e below (T376.setTop (mkF m 4 #[.val (.ref a), .val (.ref t), .val (.int (0 : Int32))] [])) _
  refine OGo.step (fun _ kk => XS.aloadN X376.here hx rfl (hb hby own_d_jdk_42_method_151_code_4) rfl rfl kk) ?_
  show OGo p e below (T376.setTop (mkF m 5 #[.val (.ref a), .val (.ref t), .val (.int (0 : Int32))] [(.ref a)])) _
  refine OGo.step (fun _ kk => XS.aloadN X376.here hx rfl (hb hby own_d_jdk_42_method_151_code_5) rfl rfl kk) ?_
  show OGo p e below (T376.setTop (mkF m 6 #[.val (.ref a), .val (.ref t), .val (.int (0 : Int32))] [(.ref t), (.ref a)])) _
  obtain ⟨T377, h377, X377, e377, W377, st377⟩ := putF X376 hx hZ hown (host := "") (Or.inl (hw _ (List.mem_of_getElem? (i := 26) rfl))) Via.refl e376 Fv E1 (Or.inr ⟨(hw _ (List.mem_of_getElem? (i := 22) rfl)), rfl, hnm⟩) (hw _ (List.mem_of_getElem? (i := 7) rfl)) (ty := (.array .byte)) (by decide) rfl rfl (g := (mkF m 6 #[.val (.ref a), .val (.ref t), .val (.int (0 : Int32))] [(.ref t), (.ref a)])) rfl rfl (hb hby own_d_jdk_42_method_151_code_6)
  refine OGo.step st377 ?_
  show OGo p e below (T377.setTop (mkF m 9 #[.val (.ref a), .val (.ref t), .val (.int (0 : Int32))] [])) _
  have Fw377 := Fv.same W377
  have Nf377 := Fr.snoc X377 (Fr.nil n0) ga
  have sz377 : n0 ≤ h377.size := by rw [W377.size]; exact Z0
  refine OGo.step (fun _ kk => XS.aloadN X377.here hx rfl (hb hby own_d_jdk_42_method_151_code_9) rfl rfl kk) ?_
  show OGo p e below (T377.setTop (mkF m 10 #[.val (.ref a), .val (.ref t), .val (.int (0 : Int32))] [(.ref a)])) _
  refine OGo.step (fun _ kk => XS.iloadN X377.here hx rfl (hb hby own_d_jdk_42_method_151_code_10) rfl kk) ?_
  show OGo p e below (T377.setTop (mkF m 11 #[.val (.ref a), .val (.ref t), .val (.int (0 : Int32))] [(.int (0 : Int32)), (.ref a)])) _
  have fc378 := (Fc.other W377 (Or.inr (slot_ne (Or.inr (hw _ (List.mem_of_getElem? (i := 23) rfl))) (Or.inr (hw _ (List.mem_of_getElem? (i := 22) rfl))) (by decide) (t := .byte) (t' := (.array .byte)) (by decide) (by decide))))
  have fc379 := (E1.wr W377)
  obtain ⟨T380, h380, X380, e380, W380, st380⟩ := putFN X377 hx hZ hown (hw _ (List.mem_of_getElem? (i := 27) rfl)) Via.refl e377 fc378 fc379 (Or.inr ⟨(hw _ (List.mem_of_getElem? (i := 23) rfl)), rfl, hnm⟩) (hw _ (List.mem_of_getElem? (i := 7) rfl)) (ty := .byte) (v' := (.int (0 : Int32))) (by decide) rfl rfl (g := (mkF m 11 #[.val (.ref a), .val (.ref t), .val (.int (0 : Int32))] [(.int (0 : Int32)), (.ref a)])) rfl rfl (hb hby own_d_jdk_42_method_151_code_11)
  refine OGo.step st380 ?_
  show OGo p e below (T380.setTop (mkF m 14 #[.val (.ref a), .val (.ref t), .val (.int (0 : Int32))] [])) _
  have Fw380 := fc378.same W380
  have Nf380 := Fr.snoc X380 Nf377 ga
  have sz380 : n0 ≤ h380.size := by rw [W380.size]; exact sz377
  have fc381 := (fc379.wr W380)
  have fc382 := (Fw377.other W380 (Or.inr (slot_ne (Or.inr (hw _ (List.mem_of_getElem? (i := 22) rfl))) (Or.inr (hw _ (List.mem_of_getElem? (i := 23) rfl))) (by decide) (t := (.array .byte)) (t' := .byte) (by decide) (by decide))))
  have HK := (((Keep.refl h0 [a]).wr W377 (Or.inl (List.mem_of_getElem? (i := 0) rfl))).wr W380 (Or.inl (List.mem_of_getElem? (i := 0) rfl)))
  exact own_ret0 X380 hx hlk hret (hb hby own_d_jdk_42_method_151_code_14) (by rw [e380]; exact ⟨rfl, Nf380, HK, fc381, fc382, Fw380⟩) (by decide) (by decide)

set_option maxRecDepth 65536 in
set_option maxHeartbeats 40000000 in
theorem own_valueOf (l : Launch) (Z : State) (a0 : Array Value) (hw : ∀ d ∈ tables_1, d.before a0 Z = true) (ws : List Jvm.Cond) (ch zc : Int32) (h0 : Heap) (n0 : Nat) (Z0 : n0 ≤ h0.size) (SC : Sta Z h0 "java/lang/String" "COMPACT_STRINGS" "Z" (.int zc)) (hzc : ¬ zc = 0) (hc : ¬ ch < 0 ∧ ¬ (255 : Int32) < ch) :
    OMet l Z (⟨"java/lang/String", "valueOf", "(C)Ljava/lang/String;"⟩ : MethodName) jdk_42_method_139_code 1 (some (.object "java/lang/String")) ws ({ frames := 2, cells := 2, slots := 5, locals := 27 } : Room) #[(.int ch)] h0 (fun v h L => ∃ x : Addr, v = some (.ref x) ∧ Fr n0 L ∧ Ext h0 h ∧ OStr Z h x [ch]) := by
  refine OMet.body (plainFor_of_name own_pn3) ?_
  intro p e s m below meth c s₁ hx hby hml hown hnm hret hlk hZ X0 e0
  refine OGo.step (fun _ kk => castTop (show entryFrame m #[(.int ch)] 1 = (mkF m 0 #[.val (.int ch)] []) from by first | (simp [entryFrame, mkF, argsToLocals, Value.category]; done) | rfl) kk) ?_
  show OGo p e below (s₁.setTop (mkF m 0 #[.val (.int ch)] [])) _
  obtain ⟨T365, X365, e365, st365⟩ := getS2 X0 hx hZ hown (host := "") (Or.inl (hw _ (List.mem_of_getElem? (i := 60) rfl))) Via.refl e0 SC (g := (mkF m 0 #[.val (.int ch)] [])) rfl (hb hby own_d_jdk_42_method_139_code_0)
  refine OGo.step st365 ?_
  show OGo p e below (T365.setTop (mkF m 3 #[.val (.int ch)] [(.int zc)])) _
  refine OGo.step (fun _ kk => XS.ifNo X365.here hx rfl (hb hby own_d_jdk_42_method_139_code_3) rfl ((if0 _ _).trans (feq hzc).1) kk) ?_
  show OGo p e below (T365.setTop (mkF m 6 #[.val (.int ch)] [])) _
  refine OGo.step (fun _ kk => XS.iloadN X365.here hx rfl (hb hby own_d_jdk_42_method_139_code_6) rfl kk) ?_
  show OGo p e below (T365.setTop (mkF m 7 #[.val (.int ch)] [(.int ch)])) _
  refine own_callS X365 hx hZ (y := (⟨"java/lang/StringLatin1", "canEncode", "(C)Z"⟩ : MethodName)) hown (hw _ (List.mem_of_getElem? (i := 93) rfl)) (hw _ (List.mem_of_getElem? (i := 94) rfl)) (hw _ (List.mem_of_getElem? (i := 63) rfl)) (hw _ (List.mem_of_getElem? (i := 95) rfl)) (by decide) (W := 0) (own_canEnc l Z a0 hw [] ch h0 n0 Z0 hc.2) e365  (pc := 7) (Ls := #[.val (.int ch)]) (argsL := [(.int ch)]) (rest := []) (by rw [hml]; rfl) (lenOf own_pd18 rfl) rfl (hb hby own_d_jdk_42_method_139_code_7) (by decide) (by decide) (by decide) (by decide) ?_
  intro v366 T366 L366 X366 hQ366
  obtain ⟨rfl, N366, e366⟩ := hQ366
  show OGo p e below (T366.setTop (mkF m 10 #[.val (.int ch)] [(.int (1 : Int32))])) _
  have Nc366 := Fr.app (Fr.nil n0) N366
  refine OGo.step (fun _ kk => XS.ifNo X366.here hx rfl (hb hby own_d_jdk_42_method_139_code_10) rfl ((if0 _ _).trans (feq (by decide)).1) kk) ?_
  show OGo p e below (T366.setTop (mkF m 13 #[.val (.int ch)] [])) _
  obtain ⟨T367, h367, X367, e367, E367, A367, D367, U367, st367⟩ := newO X366 hx hZ hown (hw _ (List.mem_of_getElem? (i := 59) rfl)) (hw _ (List.mem_of_getElem? (i := 7) rfl)) (hw _ (List.mem_of_getElem? (i := 8) rfl)) e366 (g := (mkF m 13 #[.val (.int ch)] [])) rfl (hb hby own_d_jdk_42_method_139_code_13) (by decide) (by decide)
  obtain ⟨x, g367⟩ : ∃ z, z = h0.size := ⟨_, rfl⟩
  rw [← g367] at A367 D367 U367 st367
  refine OGo.step st367 ?_
  show OGo p e below (T367.setTop (mkF m 16 #[.val (.int ch)] [(.ref x)])) _
  have gf_x : n0 ≤ x := Nat.le_trans Z0 (Nat.le_of_eq g367.symm)
  have sz367 : n0 ≤ h367.size := Nat.le_trans Z0 E367.1
  have F367_value : Fld Z h367 x "java/lang/String" "value" "[B" .null := D367 (Or.inr (hw _ (List.mem_of_getElem? (i := 22) rfl))) (ty := (.array .byte)) (by decide)
  have F367_coder : Fld Z h367 x "java/lang/String" "coder" "B" (.int (0 : Int32)) := D367 (Or.inr (hw _ (List.mem_of_getElem? (i := 23) rfl))) (ty := .byte) (by decide)
  refine OGo.step (fun _ kk => XS.dup X367.here hx rfl (hb hby own_d_jdk_42_method_139_code_16) rfl rfl kk) ?_
  show OGo p e below (T367.setTop (mkF m 17 #[.val (.int ch)] [(.ref x), (.ref x)])) _
  refine OGo.step (fun _ kk => XS.iloadN X367.here hx rfl (hb hby own_d_jdk_42_method_139_code_17) rfl kk) ?_
  show OGo p e below (T367.setTop (mkF m 18 #[.val (.int ch)] [(.int ch), (.ref x), (.ref x)])) _
  refine own_callS X367 hx hZ (y := (⟨"java/lang/StringLatin1", "toBytes", "(C)[B"⟩ : MethodName)) hown (hw _ (List.mem_of_getElem? (i := 121) rfl)) (hw _ (List.mem_of_getElem? (i := 122) rfl)) (hw _ (List.mem_of_getElem? (i := 63) rfl)) (hw _ (List.mem_of_getElem? (i := 123) rfl)) (by decide) (W := 2) (own_l1b l Z a0 hw [] ch h367 n0 sz367) e367  (pc := 18) (Ls := #[.val (.int ch)]) (argsL := [(.int ch)]) (rest := [(.ref x), (.ref x)]) (by rw [hml]; rfl) (lenOf own_pd19 rfl) rfl (hb hby own_d_jdk_42_method_139_code_18) (by decide) (by decide) (by decide) (by decide) ?_
  intro v368 T368 L368 X368 hQ368
  obtain ⟨t, kb368, rfl, N368, Xe368, gt368, Va368⟩ := hQ368
  show OGo p e below (T368.setTop (mkF m 21 #[.val (.int ch)] [(.ref t), (.ref x), (.ref x)])) _
  have nxt : x ≠ t := Nat.ne_of_lt (Nat.lt_of_lt_of_le (A367).lt gt368)
  have Nc368 := Fr.app Nc366 N368
  have sz368 : n0 ≤ T368.heap.size := Nat.le_trans sz367 Xe368.1
  refine OGo.step (fun _ kk => XS.iconst X368.here hx rfl (hb hby own_d_jdk_42_method_139_code_21) kk) ?_
  show OGo p e below (T368.setTop (mkF m 22 #[.val (.int ch)] [(.int (0 : Int32)), (.ref t), (.ref x), (.ref x)])) _
  have fc369 := (A367.ext Xe368)
  have fc370 := (F367_value.ext Xe368)
  have fc371 := (F367_coder.ext Xe368)
  refine own_special X368 hx hZ (y := (⟨"java/lang/String", "<init>", "([BB)V"⟩ : MethodName)) rfl hown (hw _ (List.mem_of_getElem? (i := 105) rfl)) (hw _ (List.mem_of_getElem? (i := 106) rfl)) (hw _ (List.mem_of_getElem? (i := 107) rfl)) (hw _ (List.mem_of_getElem? (i := 8) rfl)) (by decide) (a := x) (W := 1) (own_initBB0 l Z a0 hw [] x t T368.heap n0 sz368 fc369 fc370 fc371 gf_x) rfl  (pc := 22) (Ls := #[.val (.int ch)]) (argsL := [(.ref t), (.int (0 : Int32))]) (rest := [(.ref x)]) (by rw [hml]; rfl) (lenOf own_pd20 rfl) rfl (hb hby own_d_jdk_42_method_139_code_22) (by decide) (by decide) (by decide) (by decide) ?_
  intro v372 T372 L372 X372 hQ372
  obtain ⟨rfl, N372, K372, Ex372, Fv372, Fc372⟩ := hQ372
  show OGo p e below (T372.setTop (mkF m 25 #[.val (.int ch)] [(.ref x)])) _
  have Nc372 := Fr.app Nc368 N372
  have sz372 : n0 ≤ T372.heap.size := Nat.le_trans sz368 K372.1
  have fc373 := (Va368.keep K372 (ninS (Ne.symm nxt) nin0))
  have xt374 := (own_ext_trans E367 Xe368)
  have xt375 := (own_ext_keep xt374 K372 (allS (Nat.le_of_eq g367.symm) all0))
  have HO : OStr Z T372.heap x [ch] := ⟨t, _, 0, (1 : Int32), _, Ex372, Fv372, Fc372, fc373, StrChars.Road.codOf (cs := [ch]) (n := 1) rfl (own_allS hc.2 own_all0), own_up _ (own_allS hc own_all0), Nat.le_of_ble_eq_true rfl⟩
  exact own_ret X372 hx hlk hret rfl (Or.inr (Or.inr (Or.inr (Or.inr ⟨rfl, rfl, rfl⟩)))) (hb hby own_d_jdk_42_method_139_code_25) ⟨x, rfl, Nc372, xt375, HO⟩ (by decide) (by decide)

set_option maxRecDepth 65536 in
set_option maxHeartbeats 40000000 in
theorem own_canEnc0 (l : Launch) (Z : State) (a0 : Array Value) (hw : ∀ d ∈ tables_1, d.before a0 Z = true) (ws : List Jvm.Cond) (ch : Int32) (h0 : Heap) (n0 : Nat) (Z0 : n0 ≤ h0.size) (hc : (255 : Int32) < ch) :
    OMet l Z (⟨"java/lang/StringLatin1", "canEncode", "(C)Z"⟩ : MethodName) jdk_43_method_3_code 1 (some .boolean) ws ({ frames := 0, cells := 0, slots := 0, locals := 0 } : Room) #[(.int ch)] h0 (fun v h L => v = some (.int (0 : Int32)) ∧ Fr n0 L ∧ h = h0) := by
  refine OMet.body (plainFor_of_name own_pn5) ?_
  intro p e s m below meth c s₁ hx hby hml hown hnm hret hlk hZ X0 e0
  refine OGo.step (fun _ kk => castTop (show entryFrame m #[(.int ch)] 1 = (mkF m 0 #[.val (.int ch)] []) from by first | (simp [entryFrame, mkF, argsToLocals, Value.category]; done) | rfl) kk) ?_
  show OGo p e below (s₁.setTop (mkF m 0 #[.val (.int ch)] [])) _
  refine OGo.step (fun _ kk => XS.iloadN X0.here hx rfl (hb hby own_d_jdk_43_method_3_code_0) rfl kk) ?_
  show OGo p e below (s₁.setTop (mkF m 1 #[.val (.int ch)] [(.int ch)])) _
  refine OGo.step (fun _ kk => XS.sipush X0.here hx rfl (hb hby own_d_jdk_43_method_3_code_1) kk) ?_
  show OGo p e below (s₁.setTop (mkF m 4 #[.val (.int ch)] [(.int (255 : Int32)), (.int ch)])) _
  refine OGo.step (fun _ kk => XS.icmpYes X0.here hx rfl (pc0 := 4) (pc' := 11) rfl (hb hby own_d_jdk_43_method_3_code_4) rfl (tlt hc).2.2.1 (by decide) (by decide) kk) ?_
  show OGo p e below (s₁.setTop (mkF m 11 #[.val (.int ch)] [])) _
  refine OGo.step (fun _ kk => XS.iconst X0.here hx rfl (hb hby own_d_jdk_43_method_3_code_11) kk) ?_
  show OGo p e below (s₁.setTop (mkF m 12 #[.val (.int ch)] [(.int (0 : Int32))])) _
  exact own_retN X0 hx hlk hret (by simp) (hb hby own_d_jdk_43_method_3_code_12) ⟨by rw [own_nar0], Fr.nil n0, e0⟩ (by decide) (by decide)

set_option maxRecDepth 65536 in
set_option maxHeartbeats 40000000 in
theorem own_u16b (l : Launch) (Z : State) (a0 : Array Value) (hw : ∀ d ∈ tables_1, d.before a0 Z = true) (ws : List Jvm.Cond) (ch : Int32) (h0 : Heap) (n0 : Nat) (Z0 : n0 ≤ h0.size) (SA : Sta Z h0 "java/lang/StringUTF16" "$assertionsDisabled" "Z" (.int (1 : Int32))) (SH : Sta Z h0 "java/lang/StringUTF16" "HI_BYTE_SHIFT" "I" (.int (0 : Int32))) (SL : Sta Z h0 "java/lang/StringUTF16" "LO_BYTE_SHIFT" "I" (.int (8 : Int32))) :
    OMet l Z (⟨"java/lang/StringUTF16", "toBytes", "(C)[B"⟩ : MethodName) jdk_52_method_24_code 2 (some (.array .byte)) ws ({ frames := 1, cells := 1, slots := 2, locals := 14 } : Room) #[(.int ch)] h0 (fun v h L => ∃ (t : Addr) (kb : ClassId), v = some (.ref t) ∧ Fr n0 L ∧ Ext h0 h ∧ h0.size ≤ t ∧ Arv Z h t kb .byte (2 : Int32) (StrChars.Road.wideBytes [ch]) (.int (0 : Int32))) := by
  refine OMet.body (plainFor_of_name own_pn4) ?_
  intro p e s m below meth c s₁ hx hby hml hown hnm hret hlk hZ X0 e0
  refine OGo.step (fun _ kk => castTop (show entryFrame m #[(.int ch)] 2 = (mkF m 0 #[.val (.int ch), .unset] []) from by first | (simp [entryFrame, mkF, argsToLocals, Value.category]; done) | rfl) kk) ?_
  show OGo p e below (s₁.setTop (mkF m 0 #[.val (.int ch), .unset] [])) _
  refine OGo.step (fun _ kk => XS.iconst X0.here hx rfl (hb hby own_d_jdk_52_method_24_code_0) kk) ?_
  show OGo p e below (s₁.setTop (mkF m 1 #[.val (.int ch), .unset] [(.int (2 : Int32))])) _
  obtain ⟨T383, h383, k383, X383, e383, E383, A383, st383⟩ := newP X0 hx hZ (hw _ (List.mem_of_getElem? (i := 21) rfl)) e0 (g := (mkF m 1 #[.val (.int ch), .unset] [(.int (2 : Int32))])) rfl (hb hby own_d_jdk_52_method_24_code_1) rfl (by decide) (cap := 2) (by decide) (by decide) (by decide) (by decide)
  obtain ⟨u, g383⟩ : ∃ z, z = h0.size := ⟨_, rfl⟩
  rw [← g383] at A383 st383
  refine OGo.step st383 ?_
  show OGo p e below (T383.setTop (mkF m 3 #[.val (.int ch), .unset] [(.ref u)])) _
  have gf_u : n0 ≤ u := Nat.le_trans Z0 (Nat.le_of_eq g383.symm)
  have sz383 : n0 ≤ h383.size := Nat.le_trans Z0 E383.1
  have Va : Arv Z h383 u k383 .byte (2 : Int32) [(.int (0 : Int32)), (.int (0 : Int32))] (.int (0 : Int32)) := (Arv.new A383 (by decide)).pad (pad_rep [] (.int (0 : Int32)) 2)
  refine OGo.step (fun _ kk => XS.astoreN X383.here hx rfl (hb hby own_d_jdk_52_method_24_code_3) rfl rfl (l' := #[.val (.int ch), .val (.ref u)]) rfl kk) ?_
  show OGo p e below (T383.setTop (mkF m 4 #[.val (.int ch), .val (.ref u)] [])) _
  refine OGo.step (fun _ kk => XS.aloadN X383.here hx rfl (hb hby own_d_jdk_52_method_24_code_4) rfl rfl kk) ?_
  show OGo p e below (T383.setTop (mkF m 5 #[.val (.int ch), .val (.ref u)] [(.ref u)])) _
  refine OGo.step (fun _ kk => XS.iconst X383.here hx rfl (hb hby own_d_jdk_52_method_24_code_5) kk) ?_
  show OGo p e below (T383.setTop (mkF m 6 #[.val (.int ch), .val (.ref u)] [(.int (0 : Int32)), (.ref u)])) _
  refine OGo.step (fun _ kk => XS.iloadN X383.here hx rfl (hb hby own_d_jdk_52_method_24_code_6) rfl kk) ?_
  show OGo p e below (T383.setTop (mkF m 7 #[.val (.int ch), .val (.ref u)] [(.int ch), (.int (0 : Int32)), (.ref u)])) _
  have fx384 := SA.ext E383
  have fx385 := SH.ext E383
  have fx386 := SL.ext E383
  refine own_callS X383 hx hZ (y := (⟨"java/lang/StringUTF16", "putChar", "([BII)V"⟩ : MethodName)) hown (hw _ (List.mem_of_getElem? (i := 99) rfl)) (hw _ (List.mem_of_getElem? (i := 100) rfl)) (hw _ (List.mem_of_getElem? (i := 82) rfl)) (hw _ (List.mem_of_getElem? (i := 101) rfl)) (by decide) (W := 0) (own_putc0 l Z a0 hw [] u k383 _ [(.int (0 : Int32)), (.int (0 : Int32))] ch h383 n0 sz383 fx384 fx385 fx386 gf_u Va (Nat.le_of_ble_eq_true rfl) (by decide) (by decide)) e383  (pc := 7) (Ls := #[.val (.int ch), .val (.ref u)]) (argsL := [(.ref u), (.int (0 : Int32)), (.int ch)]) (rest := []) (by rw [hml]; rfl) (lenOf own_pd13 rfl) rfl (hb hby own_d_jdk_52_method_24_code_7) (by decide) (by decide) (by decide) (by decide) ?_
  intro v387 T387 L387 X387 hQ387
  obtain ⟨rfl, N387, K387, Vb387⟩ := hQ387
  show OGo p e below (T387.setTop (mkF m 10 #[.val (.int ch), .val (.ref u)] [])) _
  have Nc387 := Fr.app (Fr.nil n0) N387
  have sz387 : n0 ≤ T387.heap.size := Nat.le_trans sz383 K387.1
  refine OGo.step (fun _ kk => XS.aloadN X387.here hx rfl (hb hby own_d_jdk_52_method_24_code_10) rfl rfl kk) ?_
  show OGo p e below (T387.setTop (mkF m 11 #[.val (.int ch), .val (.ref u)] [(.ref u)])) _
  have xt388 := (own_ext_keep E383 K387 (allS (Nat.le_of_eq g383.symm) all0))
  exact own_ret X387 hx hlk hret rfl (Or.inr (Or.inr (Or.inr (Or.inr ⟨rfl, rfl, rfl⟩)))) (hb hby own_d_jdk_52_method_24_code_11) ⟨u, _, rfl, Nc387, xt388, (Nat.le_of_eq g383.symm), Vb387⟩ (by decide) (by decide)

set_option maxRecDepth 65536 in
set_option maxHeartbeats 40000000 in
theorem own_initBB1 (l : Launch) (Z : State) (a0 : Array Value) (hw : ∀ d ∈ tables_1, d.before a0 Z = true) (ws : List Jvm.Cond) (a t : Addr) (h0 : Heap) (n0 : Nat) (Z0 : n0 ≤ h0.size) (E1 : Exa Z h0 a "java/lang/String") (Fv : Fld Z h0 a "java/lang/String" "value" "[B" .null) (Fc : Fld Z h0 a "java/lang/String" "coder" "B" (.int (0 : Int32))) (ga : n0 ≤ a) :
    OMet l Z (⟨"java/lang/String", "<init>", "([BB)V"⟩ : MethodName) jdk_42_method_151_code 3 none ws ({ frames := 1, cells := 0, slots := 0, locals := 12 } : Room) #[(.ref a), (.ref t), (.int (1 : Int32))] h0 (fun v h L => v = none ∧ Fr n0 L ∧ Keep h0 h [a] ∧ Exa Z h a "java/lang/String" ∧ Fld Z h a "java/lang/String" "value" "[B" (.ref t) ∧ Fld Z h a "java/lang/String" "coder" "B" (.int (1 : Int32))) := by
  refine OMet.body (plainFor_of_name own_pn3) ?_
  intro p e s m below meth c s₁ hx hby hml hown hnm hret hlk hZ X0 e0
  refine OGo.step (fun _ kk => castTop (show entryFrame m #[(.ref a), (.ref t), (.int (1 : Int32))] 3 = (mkF m 0 #[.val (.ref a), .val (.ref t), .val (.int (1 : Int32))] []) from by first | (simp [entryFrame, mkF, argsToLocals, Value.category]; done) | rfl) kk) ?_
  show OGo p e below (s₁.setTop (mkF m 0 #[.val (.ref a), .val (.ref t), .val (.int (1 : Int32))] [])) _
  refine OGo.step (fun _ kk => XS.aloadN X0.here hx rfl (hb hby own_d_jdk_42_method_151_code_0) rfl rfl kk) ?_
  show OGo p e below (s₁.setTop (mkF m 1 #[.val (.ref a), .val (.ref t), .val (.int (1 : Int32))] [(.ref a)])) _
  obtain ⟨T403, X403, e403, st403⟩ := initO X0 hx hZ hown (hw _ (List.mem_of_getElem? (i := 17) rfl)) (hw _ (List.mem_of_getElem? (i := 18) rfl)) (hw _ (List.mem_of_getElem? (i := 19) rfl)) e0 (g := (mkF m 1 #[.val (.ref a), .val (.ref t), .val (.int (1 : Int32))] [(.ref a)])) rfl (by rw [hml]; rfl) rfl (hb hby own_d_jdk_42_method_151_code_1) (by decide) (W := 0) (by show 2 * 0 + _ ≤ _; exact Nat.le_of_eq rfl) (by decide)
  refine OGo.step st403 ?_
  show OGo p e below (T403.setTop (mkF m 4 #[.val (.ref a), .val (.ref t), .val (.int (1 : Int32))] [])) _
  refine OGo.step (fun _ kk => XS.aloadN X403.here hx rfl (hb hby own_d_jdk_42_method_151_code_4) rfl rfl kk) ?_
  show OGo p e below (T403.setTop (mkF m 5 #[.val (.ref a), .val (.ref t), .val (.int (1 : Int32))] [(.ref a)])) _
  refine OGo.step (fun _ kk => XS.aloadN X403.here hx rfl (hb hby own_d_jdk_42_method_151_code_5) rfl rfl kk) ?_
  show OGo p e below (T403.setTop (mkF m 6 #[.val (.ref a), .val (.ref t), .val (.int (1 : Int32))] [(.ref t), (.ref a)])) _
  obtain ⟨T404, h404, X404, e404, W404, st404⟩ := putF X403 hx hZ hown (host := "") (Or.inl (hw _ (List.mem_of_getElem? (i := 26) rfl))) Via.refl e403 Fv E1 (Or.inr ⟨(hw _ (List.mem_of_getElem? (i := 22) rfl)), rfl, hnm⟩) (hw _ (List.mem_of_getElem? (i := 7) rfl)) (ty := (.array .byte)) (by decide) rfl rfl (g := (mkF m 6 #[.val (.ref a), .val (.ref t), .val (.int (1 : Int32))] [(.ref t), (.ref a)])) rfl rfl (hb hby own_d_jdk_42_method_151_code_6)
  refine OGo.step st404 ?_
  show OGo p e below (T404.setTop (mkF m 9 #[.val (.ref a), .val (.ref t), .val (.int (1 : Int32))] [])) _
  have Fw404 := Fv.same W404
  have Nf404 := Fr.snoc X404 (Fr.nil n0) ga
  have sz404 : n0 ≤ h404.size := by rw [W404.size]; exact Z0
  refine OGo.step (fun _ kk => XS.aloadN X404.here hx rfl (hb hby own_d_jdk_42_method_151_code_9) rfl rfl kk) ?_
  show OGo p e below (T404.setTop (mkF m 10 #[.val (.ref a), .val (.ref t), .val (.int (1 : Int32))] [(.ref a)])) _
  refine OGo.step (fun _ kk => XS.iloadN X404.here hx rfl (hb hby own_d_jdk_42_method_151_code_10) rfl kk) ?_
  show OGo p e below (T404.setTop (mkF m 11 #[.val (.ref a), .val (.ref t), .val (.int (1 : Int32))] [(.int (1 : Int32)), (.ref a)])) _
  have fc405 := (Fc.other W404 (Or.inr (slot_ne (Or.inr (hw _ (List.mem_of_getElem? (i := 23) rfl))) (Or.inr (hw _ (List.mem_of_getElem? (i := 22) rfl))) (by decide) (t := .byte) (t' := (.array .byte)) (by decide) (by decide))))
  have fc406 := (E1.wr W404)
  obtain ⟨T407, h407, X407, e407, W407, st407⟩ := putFN X404 hx hZ hown (hw _ (List.mem_of_getElem? (i := 27) rfl)) Via.refl e404 fc405 fc406 (Or.inr ⟨(hw _ (List.mem_of_getElem? (i := 23) rfl)), rfl, hnm⟩) (hw _ (List.mem_of_getElem? (i := 7) rfl)) (ty := .byte) (v' := (.int (1 : Int32))) (by decide) rfl rfl (g := (mkF m 11 #[.val (.ref a), .val (.ref t), .val (.int (1 : Int32))] [(.int (1 : Int32)), (.ref a)])) rfl rfl (hb hby own_d_jdk_42_method_151_code_11)
  refine OGo.step st407 ?_
  show OGo p e below (T407.setTop (mkF m 14 #[.val (.ref a), .val (.ref t), .val (.int (1 : Int32))] [])) _
  have Fw407 := fc405.same W407
  have Nf407 := Fr.snoc X407 Nf404 ga
  have sz407 : n0 ≤ h407.size := by rw [W407.size]; exact sz404
  have fc408 := (fc406.wr W407)
  have fc409 := (Fw404.other W407 (Or.inr (slot_ne (Or.inr (hw _ (List.mem_of_getElem? (i := 22) rfl))) (Or.inr (hw _ (List.mem_of_getElem? (i := 23) rfl))) (by decide) (t := (.array .byte)) (t' := .byte) (by decide) (by decide))))
  have HK := (((Keep.refl h0 [a]).wr W404 (Or.inl (List.mem_of_getElem? (i := 0) rfl))).wr W407 (Or.inl (List.mem_of_getElem? (i := 0) rfl)))
  exact own_ret0 X407 hx hlk hret (hb hby own_d_jdk_42_method_151_code_14) (by rw [e407]; exact ⟨rfl, Nf407, HK, fc408, fc409, Fw407⟩) (by decide) (by decide)

set_option maxRecDepth 65536 in
set_option maxHeartbeats 40000000 in
theorem own_valueOfU (l : Launch) (Z : State) (a0 : Array Value) (hw : ∀ d ∈ tables_1, d.before a0 Z = true) (ws : List Jvm.Cond) (ch zc : Int32) (h0 : Heap) (n0 : Nat) (Z0 : n0 ≤ h0.size) (SC : Sta Z h0 "java/lang/String" "COMPACT_STRINGS" "Z" (.int zc)) (hzc : ¬ zc = 0) (SA : Sta Z h0 "java/lang/StringUTF16" "$assertionsDisabled" "Z" (.int (1 : Int32))) (SH : Sta Z h0 "java/lang/StringUTF16" "HI_BYTE_SHIFT" "I" (.int (0 : Int32))) (SL : Sta Z h0 "java/lang/StringUTF16" "LO_BYTE_SHIFT" "I" (.int (8 : Int32))) (hc : ¬ ch < 0 ∧ ¬ (65535 : Int32) < ch) (hx255 : (255 : Int32) < ch) :
    OMet l Z (⟨"java/lang/String", "valueOf", "(C)Ljava/lang/String;"⟩ : MethodName) jdk_42_method_139_code 1 (some (.object "java/lang/String")) ws ({ frames := 2, cells := 2, slots := 6, locals := 29 } : Room) #[(.int ch)] h0 (fun v h L => ∃ x : Addr, v = some (.ref x) ∧ Fr n0 L ∧ Ext h0 h ∧ OStr Z h x [ch]) := by
  refine OMet.body (plainFor_of_name own_pn3) ?_
  intro p e s m below meth c s₁ hx hby hml hown hnm hret hlk hZ X0 e0
  refine OGo.step (fun _ kk => castTop (show entryFrame m #[(.int ch)] 1 = (mkF m 0 #[.val (.int ch)] []) from by first | (simp [entryFrame, mkF, argsToLocals, Value.category]; done) | rfl) kk) ?_
  show OGo p e below (s₁.setTop (mkF m 0 #[.val (.int ch)] [])) _
  obtain ⟨T389, X389, e389, st389⟩ := getS2 X0 hx hZ hown (host := "") (Or.inl (hw _ (List.mem_of_getElem? (i := 60) rfl))) Via.refl e0 SC (g := (mkF m 0 #[.val (.int ch)] [])) rfl (hb hby own_d_jdk_42_method_139_code_0)
  refine OGo.step st389 ?_
  show OGo p e below (T389.setTop (mkF m 3 #[.val (.int ch)] [(.int zc)])) _
  refine OGo.step (fun _ kk => XS.ifNo X389.here hx rfl (hb hby own_d_jdk_42_method_139_code_3) rfl ((if0 _ _).trans (feq hzc).1) kk) ?_
  show OGo p e below (T389.setTop (mkF m 6 #[.val (.int ch)] [])) _
  refine OGo.step (fun _ kk => XS.iloadN X389.here hx rfl (hb hby own_d_jdk_42_method_139_code_6) rfl kk) ?_
  show OGo p e below (T389.setTop (mkF m 7 #[.val (.int ch)] [(.int ch)])) _
  refine own_callS X389 hx hZ (y := (⟨"java/lang/StringLatin1", "canEncode", "(C)Z"⟩ : MethodName)) hown (hw _ (List.mem_of_getElem? (i := 93) rfl)) (hw _ (List.mem_of_getElem? (i := 94) rfl)) (hw _ (List.mem_of_getElem? (i := 63) rfl)) (hw _ (List.mem_of_getElem? (i := 95) rfl)) (by decide) (W := 0) (own_canEnc0 l Z a0 hw [] ch h0 n0 Z0 hx255) e389  (pc := 7) (Ls := #[.val (.int ch)]) (argsL := [(.int ch)]) (rest := []) (by rw [hml]; rfl) (lenOf own_pd18 rfl) rfl (hb hby own_d_jdk_42_method_139_code_7) (by decide) (by decide) (by decide) (by decide) ?_
  intro v390 T390 L390 X390 hQ390
  obtain ⟨rfl, N390, e390⟩ := hQ390
  show OGo p e below (T390.setTop (mkF m 10 #[.val (.int ch)] [(.int (0 : Int32))])) _
  have Nc390 := Fr.app (Fr.nil n0) N390
  refine OGo.step (fun _ kk => XS.ifYes X390.here hx rfl (pc0 := 10) (pc' := 26) rfl (hb hby own_d_jdk_42_method_139_code_10) rfl ((if0 _ _).trans (teq rfl).1) (by decide) (by decide) kk) ?_
  show OGo p e below (T390.setTop (mkF m 26 #[.val (.int ch)] [])) _
  obtain ⟨T391, h391, X391, e391, E391, A391, D391, U391, st391⟩ := newO X390 hx hZ hown (hw _ (List.mem_of_getElem? (i := 59) rfl)) (hw _ (List.mem_of_getElem? (i := 7) rfl)) (hw _ (List.mem_of_getElem? (i := 8) rfl)) e390 (g := (mkF m 26 #[.val (.int ch)] [])) rfl (hb hby own_d_jdk_42_method_139_code_26) (by decide) (by decide)
  obtain ⟨x, g391⟩ : ∃ z, z = h0.size := ⟨_, rfl⟩
  rw [← g391] at A391 D391 U391 st391
  refine OGo.step st391 ?_
  show OGo p e below (T391.setTop (mkF m 29 #[.val (.int ch)] [(.ref x)])) _
  have gf_x : n0 ≤ x := Nat.le_trans Z0 (Nat.le_of_eq g391.symm)
  have sz391 : n0 ≤ h391.size := Nat.le_trans Z0 E391.1
  have F391_value : Fld Z h391 x "java/lang/String" "value" "[B" .null := D391 (Or.inr (hw _ (List.mem_of_getElem? (i := 22) rfl))) (ty := (.array .byte)) (by decide)
  have F391_coder : Fld Z h391 x "java/lang/String" "coder" "B" (.int (0 : Int32)) := D391 (Or.inr (hw _ (List.mem_of_getElem? (i := 23) rfl))) (ty := .byte) (by decide)
  refine OGo.step (fun _ kk => XS.dup X391.here hx rfl (hb hby own_d_jdk_42_method_139_code_29) rfl rfl kk) ?_
  show OGo p e below (T391.setTop (mkF m 30 #[.val (.int ch)] [(.ref x), (.ref x)])) _
  refine OGo.step (fun _ kk => XS.iloadN X391.here hx rfl (hb hby own_d_jdk_42_method_139_code_30) rfl kk) ?_
  show OGo p e below (T391.setTop (mkF m 31 #[.val (.int ch)] [(.int ch), (.ref x), (.ref x)])) _
  have fx392 := SA.ext E391
  have fx393 := SH.ext E391
  have fx394 := SL.ext E391
  refine own_callS X391 hx hZ (y := (⟨"java/lang/StringUTF16", "toBytes", "(C)[B"⟩ : MethodName)) hown (hw _ (List.mem_of_getElem? (i := 96) rfl)) (hw _ (List.mem_of_getElem? (i := 97) rfl)) (hw _ (List.mem_of_getElem? (i := 82) rfl)) (hw _ (List.mem_of_getElem? (i := 98) rfl)) (by decide) (W := 2) (own_u16b l Z a0 hw [] ch h391 n0 sz391 fx392 fx393 fx394) e391  (pc := 31) (Ls := #[.val (.int ch)]) (argsL := [(.int ch)]) (rest := [(.ref x), (.ref x)]) (by rw [hml]; rfl) (lenOf own_pd19 rfl) rfl (hb hby own_d_jdk_42_method_139_code_31) (by decide) (by decide) (by decide) (by decide) ?_
  intro v395 T395 L395 X395 hQ395
  obtain ⟨t, kb395, rfl, N395, Xe395, gt395, Va395⟩ := hQ395
  show OGo p e below (T395.setTop (mkF m 34 #[.val (.int ch)] [(.ref t), (.ref x), (.ref x)])) _
  have nxt : x ≠ t := Nat.ne_of_lt (Nat.lt_of_lt_of_le (A391).lt gt395)
  have Nc395 := Fr.app Nc390 N395
  have sz395 : n0 ≤ T395.heap.size := Nat.le_trans sz391 Xe395.1
  refine OGo.step (fun _ kk => XS.iconst X395.here hx rfl (hb hby own_d_jdk_42_method_139_code_34) kk) ?_
  show OGo p e below (T395.setTop (mkF m 35 #[.val (.int ch)] [(.int (1 : Int32)), (.ref t), (.ref x), (.ref x)])) _
  have fc396 := (A391.ext Xe395)
  have fc397 := (F391_value.ext Xe395)
  have fc398 := (F391_coder.ext Xe395)
  refine own_special X395 hx hZ (y := (⟨"java/lang/String", "<init>", "([BB)V"⟩ : MethodName)) rfl hown (hw _ (List.mem_of_getElem? (i := 105) rfl)) (hw _ (List.mem_of_getElem? (i := 106) rfl)) (hw _ (List.mem_of_getElem? (i := 107) rfl)) (hw _ (List.mem_of_getElem? (i := 8) rfl)) (by decide) (a := x) (W := 1) (own_initBB1 l Z a0 hw [] x t T395.heap n0 sz395 fc396 fc397 fc398 gf_x) rfl  (pc := 35) (Ls := #[.val (.int ch)]) (argsL := [(.ref t), (.int (1 : Int32))]) (rest := [(.ref x)]) (by rw [hml]; rfl) (lenOf own_pd20 rfl) rfl (hb hby own_d_jdk_42_method_139_code_35) (by decide) (by decide) (by decide) (by decide) ?_
  intro v399 T399 L399 X399 hQ399
  obtain ⟨rfl, N399, K399, Ex399, Fv399, Fc399⟩ := hQ399
  show OGo p e below (T399.setTop (mkF m 38 #[.val (.int ch)] [(.ref x)])) _
  have Nc399 := Fr.app Nc395 N399
  have sz399 : n0 ≤ T399.heap.size := Nat.le_trans sz395 K399.1
  have fc400 := (Va395.keep K399 (ninS (Ne.symm nxt) nin0))
  have xt401 := (own_ext_trans E391 Xe395)
  have xt402 := (own_ext_keep xt401 K399 (allS (Nat.le_of_eq g391.symm) all0))
  have HO : OStr Z T399.heap x [ch] := ⟨t, _, 1, (2 : Int32), _, Ex399, Fv399, Fc399, fc400, Or.inr ⟨rfl, rfl, rfl, own_ex1 hx255⟩, own_allS hc own_all0, Nat.le_of_ble_eq_true rfl⟩
  exact own_ret X399 hx hlk hret rfl (Or.inr (Or.inr (Or.inr (Or.inr ⟨rfl, rfl, rfl⟩)))) (hb hby own_d_jdk_42_method_139_code_38) ⟨x, rfl, Nc399, xt402, HO⟩ (by decide) (by decide)

set_option maxRecDepth 65536 in
set_option maxHeartbeats 40000000 in
theorem own_make (l : Launch) (Z : State) (a0 : Array Value) (hw : ∀ d ∈ tables_1, d.before a0 Z = true) (ws : List Jvm.Cond) (n c0_ c1_ c2_ zc : Int32) (h0 : Heap) (n0 : Nat) (Z0 : n0 ≤ h0.size) (SC : Sta Z h0 "java/lang/String" "COMPACT_STRINGS" "Z" (.int zc)) (hzc : ¬ zc = 0) (SA : Sta Z h0 "java/lang/StringUTF16" "$assertionsDisabled" "Z" (.int (1 : Int32))) (SH : Sta Z h0 "java/lang/StringUTF16" "HI_BYTE_SHIFT" "I" (.int (0 : Int32))) (SL : Sta Z h0 "java/lang/StringUTF16" "LO_BYTE_SHIFT" "I" (.int (8 : Int32))) (hb0 : ¬ c0_ < 0 ∧ ¬ (65535 : Int32) < c0_) :
    OMetW l Z consts_1 (⟨"com/example/lease/lease/model/AddTokenKeptForPinLaw", "make", "(ICCC)Ljava/lang/String;"⟩ : MethodName) method_3_code 5 (some (.object "java/lang/String")) ws ({ frames := 6, cells := 6, slots := 20, locals := 88 } : Room) #[(.int n), (.int c0_), (.int c1_), (.int c2_)] h0 (fun v h L => ∃ x : Addr, v = some (.ref x) ∧ Fr n0 L ∧ Ext h0 h ∧ OStr Z h x (own_mk n c0_ c1_ c2_)) := by
  refine OMetW.body (plainFor_of_name own_pn0) ?_
  intro p e s m below meth c s₁ hx hby hml hown hnm hret hlk hZ X0 e0 OW0
  have hEL := own_hEL hw
  have wS := own_wS hw
  refine OGo.step (fun _ kk => castTop (show entryFrame m #[(.int n), (.int c0_), (.int c1_), (.int c2_)] 5 = (mkF m 0 #[.val (.int n), .val (.int c0_), .val (.int c1_), .val (.int c2_), .unset] []) from by first | (simp [entryFrame, mkF, argsToLocals, Value.category]; done) | rfl) kk) ?_
  show OGo p e below (s₁.setTop (mkF m 0 #[.val (.int n), .val (.int c0_), .val (.int c1_), .val (.int c2_), .unset] [])) _
  refine OGo.step (fun _ kk => XS.iloadN X0.here hx rfl (hb hby own_d_method_3_code_0) rfl kk) ?_
  show OGo p e below (s₁.setTop (mkF m 1 #[.val (.int n), .val (.int c0_), .val (.int c1_), .val (.int c2_), .unset] [(.int n)])) _
  by_cases hn0 : n = (0 : Int32)
  · refine OGo.step (fun _ kk => XS.ifNo X0.here hx rfl (hb hby own_d_method_3_code_1) rfl ((if0 _ _).trans (teq hn0).2) kk) ?_
    show OGo p e below (s₁.setTop (mkF m 4 #[.val (.int n), .val (.int c0_), .val (.int c1_), .val (.int c2_), .unset] [])) _
    obtain ⟨T1, h1, X1, e1, E1, A1, D1, U1, st1⟩ := newO X0 hx hZ hown (hw _ (List.mem_of_getElem? (i := 6) rfl)) (hw _ (List.mem_of_getElem? (i := 7) rfl)) (hw _ (List.mem_of_getElem? (i := 8) rfl)) e0 (g := (mkF m 4 #[.val (.int n), .val (.int c0_), .val (.int c1_), .val (.int c2_), .unset] [])) rfl (hb hby own_d_method_3_code_4) (by decide) (by decide)
    obtain ⟨x, g1⟩ : ∃ z, z = h0.size := ⟨_, rfl⟩
    rw [← g1] at A1 D1 U1 st1
    refine OGo.step st1 ?_
    show OGo p e below (T1.setTop (mkF m 7 #[.val (.int n), .val (.int c0_), .val (.int c1_), .val (.int c2_), .unset] [(.ref x)])) _
    have gf_x : n0 ≤ x := Nat.le_trans Z0 (Nat.le_of_eq g1.symm)
    have sz1 : n0 ≤ h1.size := Nat.le_trans Z0 E1.1
    have OW2 := OW0.ext E1
    have F1_value : Fld Z h1 x "java/lang/String" "value" "[B" .null := D1 (Or.inr (hw _ (List.mem_of_getElem? (i := 22) rfl))) (ty := (.array .byte)) (by decide)
    have F1_coder : Fld Z h1 x "java/lang/String" "coder" "B" (.int (0 : Int32)) := D1 (Or.inr (hw _ (List.mem_of_getElem? (i := 23) rfl))) (ty := .byte) (by decide)
    have sf3 := own_safe_null (EL := consts_1) OW2.2.1.alike A1 F1_value
    refine OGo.step (fun _ kk => XS.dup X1.here hx rfl (hb hby own_d_method_3_code_7) rfl rfl kk) ?_
    show OGo p e below (T1.setTop (mkF m 8 #[.val (.int n), .val (.int c0_), .val (.int c1_), .val (.int c2_), .unset] [(.ref x), (.ref x)])) _
    refine OGo.step (fun _ kk => XS.iconst X1.here hx rfl (hb hby own_d_method_3_code_8) kk) ?_
    show OGo p e below (T1.setTop (mkF m 9 #[.val (.int n), .val (.int c0_), .val (.int c1_), .val (.int c2_), .unset] [(.int (0 : Int32)), (.ref x), (.ref x)])) _
    obtain ⟨T4, h4, k4, X4, e4, E4, A4, st4⟩ := newP X1 hx hZ (hw _ (List.mem_of_getElem? (i := 9) rfl)) e1 (g := (mkF m 9 #[.val (.int n), .val (.int c0_), .val (.int c1_), .val (.int c2_), .unset] [(.int (0 : Int32)), (.ref x), (.ref x)])) rfl (hb hby own_d_method_3_code_9) rfl (by decide) (cap := 0) (by decide) (by decide) (by decide) (by decide)
    obtain ⟨b, g4⟩ : ∃ z, z = h1.size := ⟨_, rfl⟩
    rw [← g4] at A4 st4
    refine OGo.step st4 ?_
    show OGo p e below (T4.setTop (mkF m 11 #[.val (.int n), .val (.int c0_), .val (.int c1_), .val (.int c2_), .unset] [(.ref b), (.ref x), (.ref x)])) _
    have ne_x_b : x ≠ b := Nat.ne_of_lt (Nat.lt_of_lt_of_le A1.lt (Nat.le_of_eq g4.symm))
    have gf_b : n0 ≤ b := Nat.le_trans sz1 (Nat.le_of_eq g4.symm)
    have sz4 : n0 ≤ h4.size := Nat.le_trans sz1 E4.1
    have sf5 := Safe.ext E4 OW2.chv sf3
    have OW6 := OW2.ext E4
    have Va7 : Arv Z h4 b k4 .char (0 : Int32) [] (.int (0 : Int32)) := (Arv.new A4 (by decide)).pad (pad_rep [] (.int (0 : Int32)) 0)
    have fc8 := (A1.ext E4)
    have fc9 := (F1_value.ext E4)
    have fc10 := (F1_coder.ext E4)
    refine own_specialW X4 hx hZ (y := (⟨"java/lang/String", "<init>", "([C)V"⟩ : MethodName)) rfl hown (hw _ (List.mem_of_getElem? (i := 10) rfl)) (hw _ (List.mem_of_getElem? (i := 11) rfl)) (hw _ (List.mem_of_getElem? (i := 12) rfl)) (hw _ (List.mem_of_getElem? (i := 8) rfl)) (by decide) hEL OW6 (a := x) (W := 1) (own_new1E l Z a0 hw [] x b _ h4 n0 sz4 fc8 fc9 fc10 gf_x Va7) e4  (pc := 11) (Ls := #[.val (.int n), .val (.int c0_), .val (.int c1_), .val (.int c2_), .unset]) (argsL := [(.ref b)]) (rest := [(.ref x)]) (by rw [hml]; rfl) (lenOf own_pd0 rfl) rfl (hb hby own_d_method_3_code_11) (by decide) (by decide) (by decide) (by decide) ?_
    intro v11 T11 L11 X11 hQ11 OW11 hZ hown CH11
    obtain ⟨rfl, N11, K11, O11⟩ := hQ11
    have sf12 := CH11.safe (fc8).lt sf5
    show OGo p e below (T11.setTop (mkF m 14 #[.val (.int n), .val (.int c0_), .val (.int c1_), .val (.int c2_), .unset] [(.ref x)])) _
    have Nc11 := Fr.app (Fr.nil n0) N11
    have sz11 : n0 ≤ T11.heap.size := Nat.le_trans sz4 K11.1
    have xt13 := (own_ext_trans E1 E4)
    have xt14 := (own_ext_keep xt13 K11 (allS (Nat.le_of_eq g1.symm) all0))
    exact own_retW X11 hx hlk hEL OW11 rfl hret rfl (Or.inr (Or.inr (Or.inr (Or.inr ⟨rfl, rfl, rfl⟩)))) (hb hby own_d_method_3_code_14) ⟨x, rfl, Nc11, xt14, by rw [own_mk, if_pos hn0]; exact O11⟩ (by decide) (by decide)
  · refine OGo.step (fun _ kk => XS.ifYes X0.here hx rfl (pc0 := 1) (pc' := 15) rfl (hb hby own_d_method_3_code_1) rfl ((if0 _ _).trans (feq hn0).2) (by decide) (by decide) kk) ?_
    show OGo p e below (s₁.setTop (mkF m 15 #[.val (.int n), .val (.int c0_), .val (.int c1_), .val (.int c2_), .unset] [])) _
    refine OGo.step (fun _ kk => XS.iloadN X0.here hx rfl (hb hby own_d_method_3_code_15) rfl kk) ?_
    show OGo p e below (s₁.setTop (mkF m 16 #[.val (.int n), .val (.int c0_), .val (.int c1_), .val (.int c2_), .unset] [(.int n)])) _
    refine OGo.step (fun _ kk => XS.iconst X0.here hx rfl (hb hby own_d_method_3_code_16) kk) ?_
    show OGo p e below (s₁.setTop (mkF m 17 #[.val (.int n), .val (.int c0_), .val (.int c1_), .val (.int c2_), .unset] [(.int (1 : Int32)), (.int n)])) _
    by_cases hn1 : n = (1 : Int32)
    · refine OGo.step (fun _ kk => XS.icmpNo X0.here hx rfl (hb hby own_d_method_3_code_17) rfl (teq hn1).2 kk) ?_
      show OGo p e below (s₁.setTop (mkF m 20 #[.val (.int n), .val (.int c0_), .val (.int c1_), .val (.int c2_), .unset] [])) _
      refine OGo.step (fun _ kk => XS.iloadN X0.here hx rfl (hb hby own_d_method_3_code_20) rfl kk) ?_
      show OGo p e below (s₁.setTop (mkF m 21 #[.val (.int n), .val (.int c0_), .val (.int c1_), .val (.int c2_), .unset] [(.int c0_)])) _
      by_cases h255 : (255 : Int32) < c0_
      · refine own_callS X0 hx hZ (y := (⟨"java/lang/String", "valueOf", "(C)Ljava/lang/String;"⟩ : MethodName)) hown (hw _ (List.mem_of_getElem? (i := 90) rfl)) (hw _ (List.mem_of_getElem? (i := 91) rfl)) (hw _ (List.mem_of_getElem? (i := 8) rfl)) (hw _ (List.mem_of_getElem? (i := 92) rfl)) (by decide) (W := 0) (own_valueOfU l Z a0 hw [] c0_ zc h0 n0 Z0 SC hzc SA SH SL hb0 h255) e0  (pc := 21) (Ls := #[.val (.int n), .val (.int c0_), .val (.int c1_), .val (.int c2_), .unset]) (argsL := [(.int c0_)]) (rest := []) (by rw [hml]; rfl) (lenOf own_pd1 rfl) rfl (hb hby own_d_method_3_code_21) (by decide) (by decide) (by decide) (by decide) ?_
        intro v15 T15 L15 X15 hQ15
        obtain ⟨x, rfl, N15, Xe15, Ov15⟩ := hQ15
        show OGo p e below (T15.setTop (mkF m 24 #[.val (.int n), .val (.int c0_), .val (.int c1_), .val (.int c2_), .unset] [(.ref x)])) _
        have Nc15 := Fr.app (Fr.nil n0) N15
        have sz15 : n0 ≤ T15.heap.size := Nat.le_trans Z0 Xe15.1
        have OW16 := OW0.ext Xe15
        exact own_retW X15 hx hlk hEL OW16 rfl hret rfl (Or.inr (Or.inr (Or.inr (Or.inr ⟨rfl, rfl, rfl⟩)))) (hb hby own_d_method_3_code_24) ⟨x, rfl, Nc15, Xe15, by rw [own_mk, if_neg hn0, if_pos hn1]; exact Ov15⟩ (by decide) (by decide)
      · refine own_callS X0 hx hZ (y := (⟨"java/lang/String", "valueOf", "(C)Ljava/lang/String;"⟩ : MethodName)) hown (hw _ (List.mem_of_getElem? (i := 90) rfl)) (hw _ (List.mem_of_getElem? (i := 91) rfl)) (hw _ (List.mem_of_getElem? (i := 8) rfl)) (hw _ (List.mem_of_getElem? (i := 92) rfl)) (by decide) (W := 0) (own_valueOf l Z a0 hw [] c0_ zc h0 n0 Z0 SC hzc ⟨hb0.1, h255⟩) e0  (pc := 21) (Ls := #[.val (.int n), .val (.int c0_), .val (.int c1_), .val (.int c2_), .unset]) (argsL := [(.int c0_)]) (rest := []) (by rw [hml]; rfl) (lenOf own_pd1 rfl) rfl (hb hby own_d_method_3_code_21) (by decide) (by decide) (by decide) (by decide) ?_
        intro v17 T17 L17 X17 hQ17
        obtain ⟨x, rfl, N17, Xe17, Ov17⟩ := hQ17
        show OGo p e below (T17.setTop (mkF m 24 #[.val (.int n), .val (.int c0_), .val (.int c1_), .val (.int c2_), .unset] [(.ref x)])) _
        have Nc17 := Fr.app (Fr.nil n0) N17
        have sz17 : n0 ≤ T17.heap.size := Nat.le_trans Z0 Xe17.1
        have OW18 := OW0.ext Xe17
        exact own_retW X17 hx hlk hEL OW18 rfl hret rfl (Or.inr (Or.inr (Or.inr (Or.inr ⟨rfl, rfl, rfl⟩)))) (hb hby own_d_method_3_code_24) ⟨x, rfl, Nc17, Xe17, by rw [own_mk, if_neg hn0, if_pos hn1]; exact Ov17⟩ (by decide) (by decide)
    · refine OGo.step (fun _ kk => XS.icmpYes X0.here hx rfl (pc0 := 17) (pc' := 25) rfl (hb hby own_d_method_3_code_17) rfl (feq hn1).2 (by decide) (by decide) kk) ?_
      show OGo p e below (s₁.setTop (mkF m 25 #[.val (.int n), .val (.int c0_), .val (.int c1_), .val (.int c2_), .unset] [])) _
      refine OGo.step (fun _ kk => XS.iloadN X0.here hx rfl (hb hby own_d_method_3_code_25) rfl kk) ?_
      show OGo p e below (s₁.setTop (mkF m 26 #[.val (.int n), .val (.int c0_), .val (.int c1_), .val (.int c2_), .unset] [(.int n)])) _
      refine OGo.step (fun _ kk => XS.iconst X0.here hx rfl (hb hby own_d_method_3_code_26) kk) ?_
      show OGo p e below (s₁.setTop (mkF m 27 #[.val (.int n), .val (.int c0_), .val (.int c1_), .val (.int c2_), .unset] [(.int (2 : Int32)), (.int n)])) _
      by_cases hn2 : n = (2 : Int32)
      · refine OGo.step (fun _ kk => XS.icmpNo X0.here hx rfl (hb hby own_d_method_3_code_27) rfl (teq hn2).2 kk) ?_
        show OGo p e below (s₁.setTop (mkF m 30 #[.val (.int n), .val (.int c0_), .val (.int c1_), .val (.int c2_), .unset] [])) _
        refine OGo.step (fun _ kk => XS.iconst X0.here hx rfl (hb hby own_d_method_3_code_30) kk) ?_
        show OGo p e below (s₁.setTop (mkF m 31 #[.val (.int n), .val (.int c0_), .val (.int c1_), .val (.int c2_), .unset] [(.int (2 : Int32))])) _
        obtain ⟨T19, h19, k19, X19, e19, E19, A19, st19⟩ := newP X0 hx hZ (hw _ (List.mem_of_getElem? (i := 9) rfl)) e0 (g := (mkF m 31 #[.val (.int n), .val (.int c0_), .val (.int c1_), .val (.int c2_), .unset] [(.int (2 : Int32))])) rfl (hb hby own_d_method_3_code_31) rfl (by decide) (cap := 2) (by decide) (by decide) (by decide) (by decide)
        obtain ⟨b, g19⟩ : ∃ z, z = h0.size := ⟨_, rfl⟩
        rw [← g19] at A19 st19
        refine OGo.step st19 ?_
        show OGo p e below (T19.setTop (mkF m 33 #[.val (.int n), .val (.int c0_), .val (.int c1_), .val (.int c2_), .unset] [(.ref b)])) _
        have gf_b : n0 ≤ b := Nat.le_trans Z0 (Nat.le_of_eq g19.symm)
        have sz19 : n0 ≤ h19.size := Nat.le_trans Z0 E19.1
        have OW20 := OW0.ext E19
        have Va21 : Arv Z h19 b k19 .char (2 : Int32) [(.int (0 : Int32)), (.int (0 : Int32))] (.int (0 : Int32)) := (Arv.new A19 (by decide)).pad (pad_rep [] (.int (0 : Int32)) 2)
        refine OGo.step (fun _ kk => XS.astore X19.here hx rfl (hb hby own_d_method_3_code_33) rfl rfl (l' := #[.val (.int n), .val (.int c0_), .val (.int c1_), .val (.int c2_), .val (.ref b)]) rfl kk) ?_
        show OGo p e below (T19.setTop (mkF m 35 #[.val (.int n), .val (.int c0_), .val (.int c1_), .val (.int c2_), .val (.ref b)] [])) _
        refine OGo.step (fun _ kk => XS.aload X19.here hx rfl (hb hby own_d_method_3_code_35) rfl rfl kk) ?_
        show OGo p e below (T19.setTop (mkF m 37 #[.val (.int n), .val (.int c0_), .val (.int c1_), .val (.int c2_), .val (.ref b)] [(.ref b)])) _
        refine OGo.step (fun _ kk => XS.iconst X19.here hx rfl (hb hby own_d_method_3_code_37) kk) ?_
        show OGo p e below (T19.setTop (mkF m 38 #[.val (.int n), .val (.int c0_), .val (.int c1_), .val (.int c2_), .val (.ref b)] [(.int (0 : Int32)), (.ref b)])) _
        refine OGo.step (fun _ kk => XS.iloadN X19.here hx rfl (hb hby own_d_method_3_code_38) rfl kk) ?_
        show OGo p e below (T19.setTop (mkF m 39 #[.val (.int n), .val (.int c0_), .val (.int c1_), .val (.int c2_), .val (.ref b)] [(.int c0_), (.int (0 : Int32)), (.ref b)])) _
        obtain ⟨cA22, A22, q22, S22, M22, H22, G22⟩ := Va21
        obtain ⟨T23, h23, X23, e23, W23, st23⟩ := stC X19 hx hZ e19 A22 (j := (0 : Int32)) (inb_of S22 ⟨by decide, by decide⟩) (g := (mkF m 39 #[.val (.int n), .val (.int c0_), .val (.int c1_), .val (.int c2_), .val (.ref b)] [(.int c0_), (.int (0 : Int32)), (.ref b)])) rfl rfl (hb hby own_d_method_3_code_39)
        refine OGo.step st23 ?_
        show OGo p e below (T23.setTop (mkF m 40 #[.val (.int n), .val (.int c0_), .val (.int c1_), .val (.int c2_), .val (.ref b)] [])) _
        have Va22 : Arv Z h23 b k19 .char (2 : Int32) [(.int (nar .char c0_)), (.int (0 : Int32))] (.int (0 : Int32)) := Arv.set A22 q22 S22 M22 H22 G22 (fits_nar_char _) W23 0 rfl (Nat.le_of_ble_eq_true rfl)
        have Nf23 := Fr.snoc X23 (Fr.nil n0) gf_b
        have sz23 : n0 ≤ h23.size := by rw [W23.size]; exact sz19
        have sw24 := (Safe.arr (EL := consts_1) OW20.2.1.alike A22 (by decide))
        have OW25 := OW20.wr W23 sw24
        refine OGo.step (fun _ kk => XS.aload X23.here hx rfl (hb hby own_d_method_3_code_40) rfl rfl kk) ?_
        show OGo p e below (T23.setTop (mkF m 42 #[.val (.int n), .val (.int c0_), .val (.int c1_), .val (.int c2_), .val (.ref b)] [(.ref b)])) _
        refine OGo.step (fun _ kk => XS.iconst X23.here hx rfl (hb hby own_d_method_3_code_42) kk) ?_
        show OGo p e below (T23.setTop (mkF m 43 #[.val (.int n), .val (.int c0_), .val (.int c1_), .val (.int c2_), .val (.ref b)] [(.int (1 : Int32)), (.ref b)])) _
        refine OGo.step (fun _ kk => XS.iloadN X23.here hx rfl (hb hby own_d_method_3_code_43) rfl kk) ?_
        show OGo p e below (T23.setTop (mkF m 44 #[.val (.int n), .val (.int c0_), .val (.int c1_), .val (.int c2_), .val (.ref b)] [(.int c1_), (.int (1 : Int32)), (.ref b)])) _
        obtain ⟨cA26, A26, q26, S26, M26, H26, G26⟩ := Va22
        obtain ⟨T27, h27, X27, e27, W27, st27⟩ := stC X23 hx hZ e23 A26 (j := (1 : Int32)) (inb_of S26 ⟨by decide, by decide⟩) (g := (mkF m 44 #[.val (.int n), .val (.int c0_), .val (.int c1_), .val (.int c2_), .val (.ref b)] [(.int c1_), (.int (1 : Int32)), (.ref b)])) rfl rfl (hb hby own_d_method_3_code_44)
        refine OGo.step st27 ?_
        show OGo p e below (T27.setTop (mkF m 45 #[.val (.int n), .val (.int c0_), .val (.int c1_), .val (.int c2_), .val (.ref b)] [])) _
        have Va26 : Arv Z h27 b k19 .char (2 : Int32) [(.int (nar .char c0_)), (.int (nar .char c1_))] (.int (0 : Int32)) := Arv.set A26 q26 S26 M26 H26 G26 (fits_nar_char _) W27 1 rfl (Nat.le_of_ble_eq_true rfl)
        have Nf27 := Fr.snoc X27 Nf23 gf_b
        have sz27 : n0 ≤ h27.size := by rw [W27.size]; exact sz23
        have sw28 := (Safe.arr (EL := consts_1) OW25.2.1.alike A26 (by decide))
        have OW29 := OW25.wr W27 sw28
        obtain ⟨T30, h30, X30, e30, E30, A30, D30, U30, st30⟩ := newO X27 hx hZ hown (hw _ (List.mem_of_getElem? (i := 6) rfl)) (hw _ (List.mem_of_getElem? (i := 7) rfl)) (hw _ (List.mem_of_getElem? (i := 8) rfl)) e27 (g := (mkF m 45 #[.val (.int n), .val (.int c0_), .val (.int c1_), .val (.int c2_), .val (.ref b)] [])) rfl (hb hby own_d_method_3_code_45) (by decide) (by decide)
        obtain ⟨x, g30⟩ : ∃ z, z = h27.size := ⟨_, rfl⟩
        rw [← g30] at A30 D30 U30 st30
        refine OGo.step st30 ?_
        show OGo p e below (T30.setTop (mkF m 48 #[.val (.int n), .val (.int c0_), .val (.int c1_), .val (.int c2_), .val (.ref b)] [(.ref x)])) _
        have ne_b_x : b ≠ x := Nat.ne_of_lt (Nat.lt_of_lt_of_le Va26.lt (Nat.le_of_eq g30.symm))
        have gf_x : n0 ≤ x := Nat.le_trans sz27 (Nat.le_of_eq g30.symm)
        have sz30 : n0 ≤ h30.size := Nat.le_trans sz27 E30.1
        have OW31 := OW29.ext E30
        have F30_value : Fld Z h30 x "java/lang/String" "value" "[B" .null := D30 (Or.inr (hw _ (List.mem_of_getElem? (i := 22) rfl))) (ty := (.array .byte)) (by decide)
        have F30_coder : Fld Z h30 x "java/lang/String" "coder" "B" (.int (0 : Int32)) := D30 (Or.inr (hw _ (List.mem_of_getElem? (i := 23) rfl))) (ty := .byte) (by decide)
        have sf32 := own_safe_null (EL := consts_1) OW31.2.1.alike A30 F30_value
        refine OGo.step (fun _ kk => XS.dup X30.here hx rfl (hb hby own_d_method_3_code_48) rfl rfl kk) ?_
        show OGo p e below (T30.setTop (mkF m 49 #[.val (.int n), .val (.int c0_), .val (.int c1_), .val (.int c2_), .val (.ref b)] [(.ref x), (.ref x)])) _
        refine OGo.step (fun _ kk => XS.aload X30.here hx rfl (hb hby own_d_method_3_code_49) rfl rfl kk) ?_
        show OGo p e below (T30.setTop (mkF m 51 #[.val (.int n), .val (.int c0_), .val (.int c1_), .val (.int c2_), .val (.ref b)] [(.ref b), (.ref x), (.ref x)])) _
        have fc33 := (Va26.ext E30)
        have xt34 := (own_ext_wr E19 W23 (Nat.le_of_eq g19.symm))
        have xt35 := (own_ext_wr xt34 W27 (Nat.le_of_eq g19.symm))
        have xt36 := (own_ext_trans xt35 E30)
        have fx37 := SC.ext xt36
        have fx38 := SA.ext xt36
        have fx39 := SH.ext xt36
        have fx40 := SL.ext xt36
        by_cases hall : (255 : Int32) < (nar .char c0_) ∨ (255 : Int32) < (nar .char c1_)
        · refine own_special X30 hx hZ (y := (⟨"java/lang/String", "<init>", "([C)V"⟩ : MethodName)) rfl hown (hw _ (List.mem_of_getElem? (i := 10) rfl)) (hw _ (List.mem_of_getElem? (i := 11) rfl)) (hw _ (List.mem_of_getElem? (i := 12) rfl)) (hw _ (List.mem_of_getElem? (i := 8) rfl)) (by decide) (a := x) (W := 1) (own_new1U2 l Z a0 hw [] x b _ (nar .char c0_) (nar .char c1_) zc h30 n0 sz30 fx37 hzc fx38 fx39 fx40 A30 F30_value F30_coder gf_x fc33 (own_nar16 _) (own_nar16 _) hall) e30  (pc := 51) (Ls := #[.val (.int n), .val (.int c0_), .val (.int c1_), .val (.int c2_), .val (.ref b)]) (argsL := [(.ref b)]) (rest := [(.ref x)]) (by rw [hml]; rfl) (lenOf own_pd0 rfl) rfl (hb hby own_d_method_3_code_51) (by decide) (by decide) (by decide) (by decide) ?_
          intro v41 T41 L41 X41 hQ41
          obtain ⟨rfl, N41, K41, O41⟩ := hQ41
          show OGo p e below (T41.setTop (mkF m 54 #[.val (.int n), .val (.int c0_), .val (.int c1_), .val (.int c2_), .val (.ref b)] [(.ref x)])) _
          have Nc41 := Fr.app Nf27 N41
          have sz41 : n0 ≤ T41.heap.size := Nat.le_trans sz30 K41.1
          have sf42 := Safe.keep K41 (sfS sf32 sf0) OW31.chv sf32
          have OW43 := OW31.keep K41 (sfS sf32 sf0)
          have xt44 := (own_ext_keep xt36 K41 (allS (Nat.le_trans xt35.1 (Nat.le_of_eq g30.symm)) all0))
          exact own_retW X41 hx hlk hEL OW43 rfl hret rfl (Or.inr (Or.inr (Or.inr (Or.inr ⟨rfl, rfl, rfl⟩)))) (hb hby own_d_method_3_code_54) ⟨x, rfl, Nc41, xt44, by rw [own_mk, if_neg hn0, if_neg hn1, if_pos hn2]; exact O41⟩ (by decide) (by decide)
        · have hpx : ∀ c ∈ ([(nar .char c0_), (nar .char c1_)] : List Int32), ¬ c < 0 ∧ ¬ (255 : Int32) < c := (own_allS ⟨(own_nar16 _).1, (fun z => hall (Or.inl z))⟩ (own_allS ⟨(own_nar16 _).1, (fun z => hall (Or.inr z))⟩ own_all0))
          refine own_specialK X30 hx hZ (y := (⟨"java/lang/String", "<init>", "([C)V"⟩ : MethodName)) rfl hown (hw _ (List.mem_of_getElem? (i := 10) rfl)) (hw _ (List.mem_of_getElem? (i := 11) rfl)) (hw _ (List.mem_of_getElem? (i := 12) rfl)) (by decide) (a := x) (W := 1) (StrChars.Road.backV (W := 1) hZ (fun d hd => hw d ((by decide +kernel : ∀ d ∈ StrChars.Road.words, d ∈ tables_1) d hd)) (kI := 4) (hw _ (List.mem_of_getElem? (i := 7) rfl)) (cs := ([(nar .char c0_), (nar .char c1_)] : List Int32)) (bs := (([(nar .char c0_), (nar .char c1_)] : List Int32)).map (fun c => c.toInt8.toInt32)) (n := 2) gf_x sz30 A30 F30_value F30_coder fc33 fx37 hzc rfl rfl (by decide) (by decide) hpx rfl (by decide) (by decide)) e30 (pc := 51) (Ls := #[.val (.int n), .val (.int c0_), .val (.int c1_), .val (.int c2_), .val (.ref b)]) (argsL := [(.ref b)]) (rest := [(.ref x)]) (by rw [hml]; rfl) (lenOf own_pd0 rfl) rfl (hb hby own_d_method_3_code_51) (by decide) (by decide) ?_
          intro v45 T45 L45 X45 hQ45
          obtain ⟨rfl, N45, K45, Ex45, Fc45, t45, kb45, u145, u245, u345, Fv45, Av45⟩ := hQ45
          show OGo p e below (T45.setTop (mkF m 54 #[.val (.int n), .val (.int c0_), .val (.int c1_), .val (.int c2_), .val (.ref b)] [(.ref x)])) _
          have Nc45 := Fr.app Nf27 N45
          have sz45 : n0 ≤ T45.heap.size := Nat.le_trans sz30 K45.1
          have sf46 := Safe.keep K45 (sfS sf32 sf0) OW31.chv sf32
          have OW47 := OW31.keep K45 (sfS sf32 sf0)
          have O45 : OStr Z T45.heap x ([(nar .char c0_), (nar .char c1_)] : List Int32) := ⟨t45, kb45, 0, (2 : Int32), _, Ex45, Fv45, Fc45, Av45, StrChars.Road.codOf (n := 2) rfl (fun c hc => (hpx c hc).2), own_up _ hpx, Nat.le_of_ble_eq_true rfl⟩
          have xt48 := (own_ext_keep xt36 K45 (allS (Nat.le_trans xt35.1 (Nat.le_of_eq g30.symm)) all0))
          exact own_retW X45 hx hlk hEL OW47 rfl hret rfl (Or.inr (Or.inr (Or.inr (Or.inr ⟨rfl, rfl, rfl⟩)))) (hb hby own_d_method_3_code_54) ⟨x, rfl, Nc45, xt48, by rw [own_mk, if_neg hn0, if_neg hn1, if_pos hn2]; exact O45⟩ (by decide) (by decide)
      · refine OGo.step (fun _ kk => XS.icmpYes X0.here hx rfl (pc0 := 27) (pc' := 55) rfl (hb hby own_d_method_3_code_27) rfl (feq hn2).2 (by decide) (by decide) kk) ?_
        show OGo p e below (s₁.setTop (mkF m 55 #[.val (.int n), .val (.int c0_), .val (.int c1_), .val (.int c2_), .unset] [])) _
        refine OGo.step (fun _ kk => XS.iconst X0.here hx rfl (hb hby own_d_method_3_code_55) kk) ?_
        show OGo p e below (s₁.setTop (mkF m 56 #[.val (.int n), .val (.int c0_), .val (.int c1_), .val (.int c2_), .unset] [(.int (3 : Int32))])) _
        obtain ⟨T49, h49, k49, X49, e49, E49, A49, st49⟩ := newP X0 hx hZ (hw _ (List.mem_of_getElem? (i := 9) rfl)) e0 (g := (mkF m 56 #[.val (.int n), .val (.int c0_), .val (.int c1_), .val (.int c2_), .unset] [(.int (3 : Int32))])) rfl (hb hby own_d_method_3_code_56) rfl (by decide) (cap := 3) (by decide) (by decide) (by decide) (by decide)
        obtain ⟨b, g49⟩ : ∃ z, z = h0.size := ⟨_, rfl⟩
        rw [← g49] at A49 st49
        refine OGo.step st49 ?_
        show OGo p e below (T49.setTop (mkF m 58 #[.val (.int n), .val (.int c0_), .val (.int c1_), .val (.int c2_), .unset] [(.ref b)])) _
        have gf_b : n0 ≤ b := Nat.le_trans Z0 (Nat.le_of_eq g49.symm)
        have sz49 : n0 ≤ h49.size := Nat.le_trans Z0 E49.1
        have OW50 := OW0.ext E49
        have Va51 : Arv Z h49 b k49 .char (3 : Int32) [(.int (0 : Int32)), (.int (0 : Int32)), (.int (0 : Int32))] (.int (0 : Int32)) := (Arv.new A49 (by decide)).pad (pad_rep [] (.int (0 : Int32)) 3)
        refine OGo.step (fun _ kk => XS.astore X49.here hx rfl (hb hby own_d_method_3_code_58) rfl rfl (l' := #[.val (.int n), .val (.int c0_), .val (.int c1_), .val (.int c2_), .val (.ref b)]) rfl kk) ?_
        show OGo p e below (T49.setTop (mkF m 60 #[.val (.int n), .val (.int c0_), .val (.int c1_), .val (.int c2_), .val (.ref b)] [])) _
        refine OGo.step (fun _ kk => XS.aload X49.here hx rfl (hb hby own_d_method_3_code_60) rfl rfl kk) ?_
        show OGo p e below (T49.setTop (mkF m 62 #[.val (.int n), .val (.int c0_), .val (.int c1_), .val (.int c2_), .val (.ref b)] [(.ref b)])) _
        refine OGo.step (fun _ kk => XS.iconst X49.here hx rfl (hb hby own_d_method_3_code_62) kk) ?_
        show OGo p e below (T49.setTop (mkF m 63 #[.val (.int n), .val (.int c0_), .val (.int c1_), .val (.int c2_), .val (.ref b)] [(.int (0 : Int32)), (.ref b)])) _
        refine OGo.step (fun _ kk => XS.iloadN X49.here hx rfl (hb hby own_d_method_3_code_63) rfl kk) ?_
        show OGo p e below (T49.setTop (mkF m 64 #[.val (.int n), .val (.int c0_), .val (.int c1_), .val (.int c2_), .val (.ref b)] [(.int c0_), (.int (0 : Int32)), (.ref b)])) _
        obtain ⟨cA52, A52, q52, S52, M52, H52, G52⟩ := Va51
        obtain ⟨T53, h53, X53, e53, W53, st53⟩ := stC X49 hx hZ e49 A52 (j := (0 : Int32)) (inb_of S52 ⟨by decide, by decide⟩) (g := (mkF m 64 #[.val (.int n), .val (.int c0_), .val (.int c1_), .val (.int c2_), .val (.ref b)] [(.int c0_), (.int (0 : Int32)), (.ref b)])) rfl rfl (hb hby own_d_method_3_code_64)
        refine OGo.step st53 ?_
        show OGo p e below (T53.setTop (mkF m 65 #[.val (.int n), .val (.int c0_), .val (.int c1_), .val (.int c2_), .val (.ref b)] [])) _
        have Va52 : Arv Z h53 b k49 .char (3 : Int32) [(.int (nar .char c0_)), (.int (0 : Int32)), (.int (0 : Int32))] (.int (0 : Int32)) := Arv.set A52 q52 S52 M52 H52 G52 (fits_nar_char _) W53 0 rfl (Nat.le_of_ble_eq_true rfl)
        have Nf53 := Fr.snoc X53 (Fr.nil n0) gf_b
        have sz53 : n0 ≤ h53.size := by rw [W53.size]; exact sz49
        have sw54 := (Safe.arr (EL := consts_1) OW50.2.1.alike A52 (by decide))
        have OW55 := OW50.wr W53 sw54
        refine OGo.step (fun _ kk => XS.aload X53.here hx rfl (hb hby own_d_method_3_code_65) rfl rfl kk) ?_
        show OGo p e below (T53.setTop (mkF m 67 #[.val (.int n), .val (.int c0_), .val (.int c1_), .val (.int c2_), .val (.ref b)] [(.ref b)])) _
        refine OGo.step (fun _ kk => XS.iconst X53.here hx rfl (hb hby own_d_method_3_code_67) kk) ?_
        show OGo p e below (T53.setTop (mkF m 68 #[.val (.int n), .val (.int c0_), .val (.int c1_), .val (.int c2_), .val (.ref b)] [(.int (1 : Int32)), (.ref b)])) _
        refine OGo.step (fun _ kk => XS.iloadN X53.here hx rfl (hb hby own_d_method_3_code_68) rfl kk) ?_
        show OGo p e below (T53.setTop (mkF m 69 #[.val (.int n), .val (.int c0_), .val (.int c1_), .val (.int c2_), .val (.ref b)] [(.int c1_), (.int (1 : Int32)), (.ref b)])) _
        obtain ⟨cA56, A56, q56, S56, M56, H56, G56⟩ := Va52
        obtain ⟨T57, h57, X57, e57, W57, st57⟩ := stC X53 hx hZ e53 A56 (j := (1 : Int32)) (inb_of S56 ⟨by decide, by decide⟩) (g := (mkF m 69 #[.val (.int n), .val (.int c0_), .val (.int c1_), .val (.int c2_), .val (.ref b)] [(.int c1_), (.int (1 : Int32)), (.ref b)])) rfl rfl (hb hby own_d_method_3_code_69)
        refine OGo.step st57 ?_
        show OGo p e below (T57.setTop (mkF m 70 #[.val (.int n), .val (.int c0_), .val (.int c1_), .val (.int c2_), .val (.ref b)] [])) _
        have Va56 : Arv Z h57 b k49 .char (3 : Int32) [(.int (nar .char c0_)), (.int (nar .char c1_)), (.int (0 : Int32))] (.int (0 : Int32)) := Arv.set A56 q56 S56 M56 H56 G56 (fits_nar_char _) W57 1 rfl (Nat.le_of_ble_eq_true rfl)
        have Nf57 := Fr.snoc X57 Nf53 gf_b
        have sz57 : n0 ≤ h57.size := by rw [W57.size]; exact sz53
        have sw58 := (Safe.arr (EL := consts_1) OW55.2.1.alike A56 (by decide))
        have OW59 := OW55.wr W57 sw58
        refine OGo.step (fun _ kk => XS.aload X57.here hx rfl (hb hby own_d_method_3_code_70) rfl rfl kk) ?_
        show OGo p e below (T57.setTop (mkF m 72 #[.val (.int n), .val (.int c0_), .val (.int c1_), .val (.int c2_), .val (.ref b)] [(.ref b)])) _
        refine OGo.step (fun _ kk => XS.iconst X57.here hx rfl (hb hby own_d_method_3_code_72) kk) ?_
        show OGo p e below (T57.setTop (mkF m 73 #[.val (.int n), .val (.int c0_), .val (.int c1_), .val (.int c2_), .val (.ref b)] [(.int (2 : Int32)), (.ref b)])) _
        refine OGo.step (fun _ kk => XS.iloadN X57.here hx rfl (hb hby own_d_method_3_code_73) rfl kk) ?_
        show OGo p e below (T57.setTop (mkF m 74 #[.val (.int n), .val (.int c0_), .val (.int c1_), .val (.int c2_), .val (.ref b)] [(.int c2_), (.int (2 : Int32)), (.ref b)])) _
        obtain ⟨cA60, A60, q60, S60, M60, H60, G60⟩ := Va56
        obtain ⟨T61, h61, X61, e61, W61, st61⟩ := stC X57 hx hZ e57 A60 (j := (2 : Int32)) (inb_of S60 ⟨by decide, by decide⟩) (g := (mkF m 74 #[.val (.int n), .val (.int c0_), .val (.int c1_), .val (.int c2_), .val (.ref b)] [(.int c2_), (.int (2 : Int32)), (.ref b)])) rfl rfl (hb hby own_d_method_3_code_74)
        refine OGo.step st61 ?_
        show OGo p e below (T61.setTop (mkF m 75 #[.val (.int n), .val (.int c0_), .val (.int c1_), .val (.int c2_), .val (.ref b)] [])) _
        have Va60 : Arv Z h61 b k49 .char (3 : Int32) [(.int (nar .char c0_)), (.int (nar .char c1_)), (.int (nar .char c2_))] (.int (0 : Int32)) := Arv.set A60 q60 S60 M60 H60 G60 (fits_nar_char _) W61 2 rfl (Nat.le_of_ble_eq_true rfl)
        have Nf61 := Fr.snoc X61 Nf57 gf_b
        have sz61 : n0 ≤ h61.size := by rw [W61.size]; exact sz57
        have sw62 := (Safe.arr (EL := consts_1) OW59.2.1.alike A60 (by decide))
        have OW63 := OW59.wr W61 sw62
        obtain ⟨T64, h64, X64, e64, E64, A64, D64, U64, st64⟩ := newO X61 hx hZ hown (hw _ (List.mem_of_getElem? (i := 6) rfl)) (hw _ (List.mem_of_getElem? (i := 7) rfl)) (hw _ (List.mem_of_getElem? (i := 8) rfl)) e61 (g := (mkF m 75 #[.val (.int n), .val (.int c0_), .val (.int c1_), .val (.int c2_), .val (.ref b)] [])) rfl (hb hby own_d_method_3_code_75) (by decide) (by decide)
        obtain ⟨x, g64⟩ : ∃ z, z = h61.size := ⟨_, rfl⟩
        rw [← g64] at A64 D64 U64 st64
        refine OGo.step st64 ?_
        show OGo p e below (T64.setTop (mkF m 78 #[.val (.int n), .val (.int c0_), .val (.int c1_), .val (.int c2_), .val (.ref b)] [(.ref x)])) _
        have ne_b_x : b ≠ x := Nat.ne_of_lt (Nat.lt_of_lt_of_le Va60.lt (Nat.le_of_eq g64.symm))
        have gf_x : n0 ≤ x := Nat.le_trans sz61 (Nat.le_of_eq g64.symm)
        have sz64 : n0 ≤ h64.size := Nat.le_trans sz61 E64.1
        have OW65 := OW63.ext E64
        have F64_value : Fld Z h64 x "java/lang/String" "value" "[B" .null := D64 (Or.inr (hw _ (List.mem_of_getElem? (i := 22) rfl))) (ty := (.array .byte)) (by decide)
        have F64_coder : Fld Z h64 x "java/lang/String" "coder" "B" (.int (0 : Int32)) := D64 (Or.inr (hw _ (List.mem_of_getElem? (i := 23) rfl))) (ty := .byte) (by decide)
        have sf66 := own_safe_null (EL := consts_1) OW65.2.1.alike A64 F64_value
        refine OGo.step (fun _ kk => XS.dup X64.here hx rfl (hb hby own_d_method_3_code_78) rfl rfl kk) ?_
        show OGo p e below (T64.setTop (mkF m 79 #[.val (.int n), .val (.int c0_), .val (.int c1_), .val (.int c2_), .val (.ref b)] [(.ref x), (.ref x)])) _
        refine OGo.step (fun _ kk => XS.aload X64.here hx rfl (hb hby own_d_method_3_code_79) rfl rfl kk) ?_
        show OGo p e below (T64.setTop (mkF m 81 #[.val (.int n), .val (.int c0_), .val (.int c1_), .val (.int c2_), .val (.ref b)] [(.ref b), (.ref x), (.ref x)])) _
        have fc67 := (Va60.ext E64)
        have xt68 := (own_ext_wr E49 W53 (Nat.le_of_eq g49.symm))
        have xt69 := (own_ext_wr xt68 W57 (Nat.le_of_eq g49.symm))
        have xt70 := (own_ext_wr xt69 W61 (Nat.le_of_eq g49.symm))
        have xt71 := (own_ext_trans xt70 E64)
        have fx72 := SC.ext xt71
        have fx73 := SA.ext xt71
        have fx74 := SH.ext xt71
        have fx75 := SL.ext xt71
        by_cases hall : (255 : Int32) < (nar .char c0_) ∨ (255 : Int32) < (nar .char c1_) ∨ (255 : Int32) < (nar .char c2_)
        · refine own_special X64 hx hZ (y := (⟨"java/lang/String", "<init>", "([C)V"⟩ : MethodName)) rfl hown (hw _ (List.mem_of_getElem? (i := 10) rfl)) (hw _ (List.mem_of_getElem? (i := 11) rfl)) (hw _ (List.mem_of_getElem? (i := 12) rfl)) (hw _ (List.mem_of_getElem? (i := 8) rfl)) (by decide) (a := x) (W := 1) (own_new1U3 l Z a0 hw [] x b _ (nar .char c0_) (nar .char c1_) (nar .char c2_) zc h64 n0 sz64 fx72 hzc fx73 fx74 fx75 A64 F64_value F64_coder gf_x fc67 (own_nar16 _) (own_nar16 _) (own_nar16 _) hall) e64  (pc := 81) (Ls := #[.val (.int n), .val (.int c0_), .val (.int c1_), .val (.int c2_), .val (.ref b)]) (argsL := [(.ref b)]) (rest := [(.ref x)]) (by rw [hml]; rfl) (lenOf own_pd0 rfl) rfl (hb hby own_d_method_3_code_81) (by decide) (by decide) (by decide) (by decide) ?_
          intro v76 T76 L76 X76 hQ76
          obtain ⟨rfl, N76, K76, O76⟩ := hQ76
          show OGo p e below (T76.setTop (mkF m 84 #[.val (.int n), .val (.int c0_), .val (.int c1_), .val (.int c2_), .val (.ref b)] [(.ref x)])) _
          have Nc76 := Fr.app Nf61 N76
          have sz76 : n0 ≤ T76.heap.size := Nat.le_trans sz64 K76.1
          have sf77 := Safe.keep K76 (sfS sf66 sf0) OW65.chv sf66
          have OW78 := OW65.keep K76 (sfS sf66 sf0)
          have xt79 := (own_ext_keep xt71 K76 (allS (Nat.le_trans xt70.1 (Nat.le_of_eq g64.symm)) all0))
          exact own_retW X76 hx hlk hEL OW78 rfl hret rfl (Or.inr (Or.inr (Or.inr (Or.inr ⟨rfl, rfl, rfl⟩)))) (hb hby own_d_method_3_code_84) ⟨x, rfl, Nc76, xt79, by rw [own_mk, if_neg hn0, if_neg hn1, if_neg hn2]; exact O76⟩ (by decide) (by decide)
        · have hpx : ∀ c ∈ ([(nar .char c0_), (nar .char c1_), (nar .char c2_)] : List Int32), ¬ c < 0 ∧ ¬ (255 : Int32) < c := (own_allS ⟨(own_nar16 _).1, (fun z => hall (Or.inl z))⟩ (own_allS ⟨(own_nar16 _).1, (fun z => hall (Or.inr (Or.inl z)))⟩ (own_allS ⟨(own_nar16 _).1, (fun z => hall (Or.inr (Or.inr z)))⟩ own_all0)))
          refine own_specialK X64 hx hZ (y := (⟨"java/lang/String", "<init>", "([C)V"⟩ : MethodName)) rfl hown (hw _ (List.mem_of_getElem? (i := 10) rfl)) (hw _ (List.mem_of_getElem? (i := 11) rfl)) (hw _ (List.mem_of_getElem? (i := 12) rfl)) (by decide) (a := x) (W := 1) (StrChars.Road.backV (W := 1) hZ (fun d hd => hw d ((by decide +kernel : ∀ d ∈ StrChars.Road.words, d ∈ tables_1) d hd)) (kI := 4) (hw _ (List.mem_of_getElem? (i := 7) rfl)) (cs := ([(nar .char c0_), (nar .char c1_), (nar .char c2_)] : List Int32)) (bs := (([(nar .char c0_), (nar .char c1_), (nar .char c2_)] : List Int32)).map (fun c => c.toInt8.toInt32)) (n := 3) gf_x sz64 A64 F64_value F64_coder fc67 fx72 hzc rfl rfl (by decide) (by decide) hpx rfl (by decide) (by decide)) e64 (pc := 81) (Ls := #[.val (.int n), .val (.int c0_), .val (.int c1_), .val (.int c2_), .val (.ref b)]) (argsL := [(.ref b)]) (rest := [(.ref x)]) (by rw [hml]; rfl) (lenOf own_pd0 rfl) rfl (hb hby own_d_method_3_code_81) (by decide) (by decide) ?_
          intro v80 T80 L80 X80 hQ80
          obtain ⟨rfl, N80, K80, Ex80, Fc80, t80, kb80, u180, u280, u380, Fv80, Av80⟩ := hQ80
          show OGo p e below (T80.setTop (mkF m 84 #[.val (.int n), .val (.int c0_), .val (.int c1_), .val (.int c2_), .val (.ref b)] [(.ref x)])) _
          have Nc80 := Fr.app Nf61 N80
          have sz80 : n0 ≤ T80.heap.size := Nat.le_trans sz64 K80.1
          have sf81 := Safe.keep K80 (sfS sf66 sf0) OW65.chv sf66
          have OW82 := OW65.keep K80 (sfS sf66 sf0)
          have O80 : OStr Z T80.heap x ([(nar .char c0_), (nar .char c1_), (nar .char c2_)] : List Int32) := ⟨t80, kb80, 0, (3 : Int32), _, Ex80, Fv80, Fc80, Av80, StrChars.Road.codOf (n := 3) rfl (fun c hc => (hpx c hc).2), own_up _ hpx, Nat.le_of_ble_eq_true rfl⟩
          have xt83 := (own_ext_keep xt71 K80 (allS (Nat.le_trans xt70.1 (Nat.le_of_eq g64.symm)) all0))
          exact own_retW X80 hx hlk hEL OW82 rfl hret rfl (Or.inr (Or.inr (Or.inr (Or.inr ⟨rfl, rfl, rfl⟩)))) (hb hby own_d_method_3_code_84) ⟨x, rfl, Nc80, xt83, by rw [own_mk, if_neg hn0, if_neg hn1, if_neg hn2]; exact O80⟩ (by decide) (by decide)

set_option maxRecDepth 65536 in
set_option maxHeartbeats 40000000 in
theorem own_rnn2 (l : Launch) (Z : State) (a0 : Array Value) (hw : ∀ d ∈ tables_1, d.before a0 Z = true) (ws : List Jvm.Cond) (a1 b1 : Addr) (h0 : Heap) (n0 : Nat) (Z0 : n0 ≤ h0.size)  :
    OMet l Z (⟨"java/util/Objects", "requireNonNull", "(Ljava/lang/Object;Ljava/lang/String;)Ljava/lang/Object;"⟩ : MethodName) jdk_31_method_11_code 2 (some (.object "java/lang/Object")) ws ({ frames := 0, cells := 0, slots := 0, locals := 0 } : Room) #[(.ref a1), (.ref b1)] h0 (fun v h L => v = some (.ref a1) ∧ Fr n0 L ∧ h = h0) := by
  refine OMet.body (plainFor_of_name own_pn1) ?_
  intro p e s m below meth c s₁ hx hby hml hown hnm hret hlk hZ X0 e0
  refine OGo.step (fun _ kk => castTop (show entryFrame m #[(.ref a1), (.ref b1)] 2 = (mkF m 0 #[.val (.ref a1), .val (.ref b1)] []) from by first | (simp [entryFrame, mkF, argsToLocals, Value.category]; done) | rfl) kk) ?_
  show OGo p e below (s₁.setTop (mkF m 0 #[.val (.ref a1), .val (.ref b1)] [])) _
  refine OGo.step (fun _ kk => XS.aloadN X0.here hx rfl (hb hby own_d_jdk_31_method_11_code_0) rfl rfl kk) ?_
  show OGo p e below (s₁.setTop (mkF m 1 #[.val (.ref a1), .val (.ref b1)] [(.ref a1)])) _
  refine OGo.step (fun _ kk => XS.ifnonnullYes X0.here hx rfl (pc0 := 1) (pc' := 13) rfl (hb hby own_d_jdk_31_method_11_code_1) rfl (by decide) (by decide) kk) ?_
  show OGo p e below (s₁.setTop (mkF m 13 #[.val (.ref a1), .val (.ref b1)] [])) _
  refine OGo.step (fun _ kk => XS.aloadN X0.here hx rfl (hb hby own_d_jdk_31_method_11_code_13) rfl rfl kk) ?_
  show OGo p e below (s₁.setTop (mkF m 14 #[.val (.ref a1), .val (.ref b1)] [(.ref a1)])) _
  exact own_ret X0 hx hlk hret rfl (Or.inr (Or.inr (Or.inr (Or.inr ⟨rfl, rfl, rfl⟩)))) (hb hby own_d_jdk_31_method_11_code_14) ⟨rfl, Fr.nil n0, e0⟩ (by decide) (by decide)

set_option maxRecDepth 65536 in
set_option maxHeartbeats 40000000 in
theorem own_atinit (l : Launch) (Z : State) (a0 : Array Value) (hw : ∀ d ∈ tables_1, d.before a0 Z = true) (ws : List Jvm.Cond) (a x : Addr) (cs : List Int32) (q1 : Int64) (h0 : Heap) (n0 : Nat) (Z0 : n0 ≤ h0.size) (E1 : Exa Z h0 a "com/example/lease/lease/model/AddToken") (Ft : Fld Z h0 a "com/example/lease/lease/model/AddToken" "text" "Ljava/lang/String;" .null) (Fk : Fld Z h0 a "com/example/lease/lease/model/AddToken" "keptMillis" "J" (.long (0 : Int64))) (ga : n0 ≤ a) (G : OStr Z h0 x cs) :
    OMetW l Z consts_1 (⟨"com/example/lease/lease/model/AddToken", "<init>", "(Ljava/lang/String;J)V"⟩ : MethodName) prog_4_method_1_code 4 none ws ({ frames := 1, cells := 2, slots := 20, locals := 15 } : Room) #[(.ref a), (.ref x), (.long q1)] h0 (fun v h L => v = none ∧ Fr n0 L ∧ Keep h0 h [a] ∧ Exa Z h a "com/example/lease/lease/model/AddToken" ∧ Fld Z h a "com/example/lease/lease/model/AddToken" "text" "Ljava/lang/String;" (.ref x) ∧ Fld Z h a "com/example/lease/lease/model/AddToken" "keptMillis" "J" (.long q1)) := by
  refine OMetW.body (plainFor_of_name own_pn2) ?_
  intro p e s m below meth c s₁ hx hby hml hown hnm hret hlk hZ X0 e0 OW0
  have hEL := own_hEL hw
  have wS := own_wS hw
  refine OGo.step (fun _ kk => castTop (show entryFrame m #[(.ref a), (.ref x), (.long q1)] 4 = (mkF m 0 #[.val (.ref a), .val (.ref x), .val (.long q1), .second] []) from by first | (simp [entryFrame, mkF, argsToLocals, Value.category]; done) | rfl) kk) ?_
  show OGo p e below (s₁.setTop (mkF m 0 #[.val (.ref a), .val (.ref x), .val (.long q1), .second] [])) _
  refine OGo.step (fun _ kk => XS.aloadN X0.here hx rfl (hb hby own_d_prog_4_method_1_code_0) rfl rfl kk) ?_
  show OGo p e below (s₁.setTop (mkF m 1 #[.val (.ref a), .val (.ref x), .val (.long q1), .second] [(.ref a)])) _
  obtain ⟨T84, X84, e84, st84⟩ := initO X0 hx hZ hown (hw _ (List.mem_of_getElem? (i := 38) rfl)) (hw _ (List.mem_of_getElem? (i := 18) rfl)) (hw _ (List.mem_of_getElem? (i := 19) rfl)) e0 (g := (mkF m 1 #[.val (.ref a), .val (.ref x), .val (.long q1), .second] [(.ref a)])) rfl (by rw [hml]; rfl) rfl (hb hby own_d_prog_4_method_1_code_1) (by decide) (W := 0) (by show 2 * 0 + _ ≤ _; exact Nat.le_of_eq rfl) (by decide)
  refine OGo.step st84 ?_
  show OGo p e below (T84.setTop (mkF m 4 #[.val (.ref a), .val (.ref x), .val (.long q1), .second] [])) _
  refine OGo.step (fun _ kk => XS.aloadN X84.here hx rfl (hb hby own_d_prog_4_method_1_code_4) rfl rfl kk) ?_
  show OGo p e below (T84.setTop (mkF m 5 #[.val (.ref a), .val (.ref x), .val (.long q1), .second] [(.ref a)])) _
  refine OGo.step (fun _ kk => XS.aloadN X84.here hx rfl (hb hby own_d_prog_4_method_1_code_5) rfl rfl kk) ?_
  show OGo p e below (T84.setTop (mkF m 6 #[.val (.ref a), .val (.ref x), .val (.long q1), .second] [(.ref x), (.ref a)])) _
  refine own_ldcW X84 hx hown (hw _ (List.mem_of_getElem? (i := 39) rfl)) wS hEL OW0 e84 (by decide) (vs := [.int (116 : Int32), .int (101 : Int32), .int (120 : Int32), .int (116 : Int32)]) (z := (4 : Int32)) ⟨by decide, by decide⟩ (by decide) (by decide) (pc := 6) (Ls := #[.val (.ref a), .val (.ref x), .val (.long q1), .second]) (st := [(.ref x), (.ref a)]) (hb hby own_d_prog_4_method_1_code_6) (n := 16) (by decide) (by decide) (by decide) (by decide) ?_
  intro z zb kb85 T85 X85 E85 OW85 hZ hown CH85 Es85 Fc85 Fv85 Av85 Ns85
  have sz85 : n0 ≤ T85.heap.size := Nat.le_trans Z0 E85.1
  show OGo p e below (T85.setTop (mkF m 8 #[.val (.ref a), .val (.ref x), .val (.long q1), .second] [(.ref z), (.ref x), (.ref a)])) _
  have cd85 : StrChars.Road.CodA ([116, 101, 120, 116] : List Int32) 0 (4 : Int32) [.int (116 : Int32), .int (101 : Int32), .int (120 : Int32), .int (116 : Int32)] := StrChars.Road.codOf (cs := [116, 101, 120, 116]) (n := 4) rfl (by decide)
  have O85 : OStr Z T85.heap z ([116, 101, 120, 116] : List Int32) := ⟨zb, kb85, 0, (4 : Int32), _, Es85, Fv85, Fc85, Av85, cd85, by decide, by decide⟩
  refine own_callS X85 hx hZ (y := (⟨"java/util/Objects", "requireNonNull", "(Ljava/lang/Object;Ljava/lang/String;)Ljava/lang/Object;"⟩ : MethodName)) hown (hw _ (List.mem_of_getElem? (i := 40) rfl)) (hw _ (List.mem_of_getElem? (i := 41) rfl)) (hw _ (List.mem_of_getElem? (i := 42) rfl)) (hw _ (List.mem_of_getElem? (i := 43) rfl)) (by decide) (W := 1) (own_rnn2 l Z a0 hw [] x z T85.heap n0 sz85) rfl  (pc := 8) (Ls := #[.val (.ref a), .val (.ref x), .val (.long q1), .second]) (argsL := [(.ref x), (.ref z)]) (rest := [(.ref a)]) (by rw [hml]; rfl) (lenOf own_pd2 rfl) rfl (hb hby own_d_prog_4_method_1_code_8) (by decide) (by decide) (by decide) (by decide) ?_
  intro v86 T86 L86 X86 hQ86
  obtain ⟨rfl, N86, e86⟩ := hQ86
  show OGo p e below (T86.setTop (mkF m 11 #[.val (.ref a), .val (.ref x), .val (.long q1), .second] [(.ref x), (.ref a)])) _
  have Nc86 := Fr.app (Fr.nil n0) N86
  have fx87 := G.ext E85
  obtain ⟨T88, X88, e88, st88⟩ := castY X86 hx hZ hown (hw _ (List.mem_of_getElem? (i := 44) rfl)) e86 (Ins.self (fx87).exa) (g := (mkF m 11 #[.val (.ref a), .val (.ref x), .val (.long q1), .second] [(.ref x), (.ref a)])) rfl rfl (hb hby own_d_prog_4_method_1_code_11)
  refine OGo.step st88 ?_
  show OGo p e below (T88.setTop (mkF m 14 #[.val (.ref a), .val (.ref x), .val (.long q1), .second] [(.ref x), (.ref a)])) _
  have fc89 := (E1.ext E85)
  have fc90 := (Ft.ext E85)
  obtain ⟨T91, h91, X91, e91, W91, st91⟩ := putF X88 hx hZ hown (host := "") (Or.inl (hw _ (List.mem_of_getElem? (i := 45) rfl))) Via.refl e88 fc90 fc89 (Or.inr ⟨(hw _ (List.mem_of_getElem? (i := 46) rfl)), rfl, hnm⟩) (hw _ (List.mem_of_getElem? (i := 34) rfl)) (ty := (.object "java/lang/String")) (by decide) rfl rfl (g := (mkF m 14 #[.val (.ref a), .val (.ref x), .val (.long q1), .second] [(.ref x), (.ref a)])) rfl rfl (hb hby own_d_prog_4_method_1_code_14)
  refine OGo.step st91 ?_
  show OGo p e below (T91.setTop (mkF m 17 #[.val (.ref a), .val (.ref x), .val (.long q1), .second] [])) _
  have Fw91 := fc90.same W91
  have Nf91 := Fr.snoc X91 Nc86 ga
  have sz91 : n0 ≤ h91.size := by rw [W91.size]; exact sz85
  have sw92 := (Safe.exa (EL := consts_1) OW85.2.1.alike fc89 (by decide) (by decide))
  have OW93 := OW85.wr W91 sw92
  refine OGo.step (fun _ kk => XS.aloadN X91.here hx rfl (hb hby own_d_prog_4_method_1_code_17) rfl rfl kk) ?_
  show OGo p e below (T91.setTop (mkF m 18 #[.val (.ref a), .val (.ref x), .val (.long q1), .second] [(.ref a)])) _
  refine OGo.step (fun _ kk => XS.lloadN X91.here hx rfl (hb hby own_d_prog_4_method_1_code_18) rfl kk) ?_
  show OGo p e below (T91.setTop (mkF m 19 #[.val (.ref a), .val (.ref x), .val (.long q1), .second] [(.long q1), (.ref a)])) _
  have fc94 := (fc89.wr W91)
  have fc95 := ((Fk.ext E85).other W91 (Or.inr (slot_ne (Or.inr (hw _ (List.mem_of_getElem? (i := 48) rfl))) (Or.inr (hw _ (List.mem_of_getElem? (i := 46) rfl))) (by decide) (t := .long) (t' := (.object "java/lang/String")) (by decide) (by decide))))
  obtain ⟨T96, h96, X96, e96, W96, st96⟩ := putF X91 hx hZ hown (host := "") (Or.inl (hw _ (List.mem_of_getElem? (i := 47) rfl))) Via.refl e91 fc95 fc94 (Or.inr ⟨(hw _ (List.mem_of_getElem? (i := 48) rfl)), rfl, hnm⟩) (hw _ (List.mem_of_getElem? (i := 34) rfl)) (ty := .long) (by decide) rfl rfl (g := (mkF m 19 #[.val (.ref a), .val (.ref x), .val (.long q1), .second] [(.long q1), (.ref a)])) rfl rfl (hb hby own_d_prog_4_method_1_code_19)
  refine OGo.step st96 ?_
  show OGo p e below (T96.setTop (mkF m 22 #[.val (.ref a), .val (.ref x), .val (.long q1), .second] [])) _
  have Fw96 := fc95.same W96
  have Nf96 := Fr.snoc X96 Nf91 ga
  have sz96 : n0 ≤ h96.size := by rw [W96.size]; exact sz91
  have sw97 := (Safe.exa (EL := consts_1) OW93.2.1.alike fc94 (by decide) (by decide))
  have OW98 := OW93.wr W96 sw97
  have fc99 := (fc94.wr W96)
  have fc100 := (Fw91.other W96 (Or.inr (slot_ne (Or.inr (hw _ (List.mem_of_getElem? (i := 46) rfl))) (Or.inr (hw _ (List.mem_of_getElem? (i := 48) rfl))) (by decide) (t := (.object "java/lang/String")) (t' := .long) (by decide) (by decide))))
  have HK := ((((Keep.refl h0 [a]).ext E85).wr W91 (Or.inl (List.mem_of_getElem? (i := 0) rfl))).wr W96 (Or.inl (List.mem_of_getElem? (i := 0) rfl)))
  exact own_ret0W X96 hx hlk hEL OW98 e96 hret (hb hby own_d_prog_4_method_1_code_22) (by rw [e96]; exact ⟨rfl, Nf96, HK, fc99, fc100, Fw96⟩) (by decide) (by decide)

set_option maxRecDepth 65536 in
set_option maxHeartbeats 40000000 in
theorem own_of (l : Launch) (Z : State) (a0 : Array Value) (hw : ∀ d ∈ tables_1, d.before a0 Z = true) (ws : List Jvm.Cond) (x : Addr) (cs : List Int32) (q1 : Int64) (h0 : Heap) (n0 : Nat) (Z0 : n0 ≤ h0.size) (G : OStr Z h0 x cs) (hq0 : ¬ q1 < 1) (hq1 : ¬ (4503599627370496 : Int64) < q1) :
    OMetW l Z consts_1 (⟨"com/example/lease/lease/model/AddToken", "keptFor", "(Ljava/lang/String;J)Lcom/example/lease/lease/model/AddToken;"⟩ : MethodName) prog_4_method_3_code 3 (some (.object "com/example/lease/lease/model/AddToken")) ws ({ frames := 2, cells := 3, slots := 22, locals := 31 } : Room) #[(.ref x), (.long q1)] h0 (fun v h L => ∃ a : Addr, v = some (.ref a) ∧ Fr n0 L ∧ Ext h0 h ∧ Exa Z h a "com/example/lease/lease/model/AddToken" ∧ Fld Z h a "com/example/lease/lease/model/AddToken" "text" "Ljava/lang/String;" (.ref x) ∧ Fld Z h a "com/example/lease/lease/model/AddToken" "keptMillis" "J" (.long q1)) := by
  refine OMetW.body (plainFor_of_name own_pn2) ?_
  intro p e s m below meth c s₁ hx hby hml hown hnm hret hlk hZ X0 e0 OW0
  have hEL := own_hEL hw
  have wS := own_wS hw
  refine OGo.step (fun _ kk => castTop (show entryFrame m #[(.ref x), (.long q1)] 3 = (mkF m 0 #[.val (.ref x), .val (.long q1), .second] []) from by first | (simp [entryFrame, mkF, argsToLocals, Value.category]; done) | rfl) kk) ?_
  show OGo p e below (s₁.setTop (mkF m 0 #[.val (.ref x), .val (.long q1), .second] [])) _
  refine OGo.step (fun _ kk => XS.lloadN X0.here hx rfl (hb hby own_d_prog_4_method_3_code_0) rfl kk) ?_
  show OGo p e below (s₁.setTop (mkF m 1 #[.val (.ref x), .val (.long q1), .second] [(.long q1)])) _
  refine OGo.step (fun _ kk => XS.lconst X0.here hx rfl (hb hby own_d_prog_4_method_3_code_1) kk) ?_
  show OGo p e below (s₁.setTop (mkF m 2 #[.val (.ref x), .val (.long q1), .second] [(.long (1 : Int64)), (.long q1)])) _
  refine OGo.step (fun _ kk => XS.lcmp X0.here hx rfl (hb hby own_d_prog_4_method_3_code_2) rfl kk) ?_
  show OGo p e below (s₁.setTop (mkF m 3 #[.val (.ref x), .val (.long q1), .second] [(.int (lcmpW q1 (1 : Int64)))])) _
  refine OGo.step (fun _ kk => XS.ifNo X0.here hx rfl (hb hby own_d_prog_4_method_3_code_3) rfl ((if0 _ _).trans (flt (fun z => hq0 ((lw_lt _ _).mp z))).1) kk) ?_
  show OGo p e below (s₁.setTop (mkF m 6 #[.val (.ref x), .val (.long q1), .second] [])) _
  refine OGo.step (fun _ kk => XS.lloadN X0.here hx rfl (hb hby own_d_prog_4_method_3_code_6) rfl kk) ?_
  show OGo p e below (s₁.setTop (mkF m 7 #[.val (.ref x), .val (.long q1), .second] [(.long q1)])) _
  refine OGo.step (fun _ kk => X0.ldc2Long hx hown (mvT hZ (hw _ (List.mem_of_getElem? (i := 32) rfl))) (g := (mkF m 7 #[.val (.ref x), .val (.long q1), .second] [(.long q1)])) rfl (hb hby own_d_prog_4_method_3_code_7) _ kk) ?_
  show OGo p e below (s₁.setTop (mkF m 10 #[.val (.ref x), .val (.long q1), .second] [(.long (4503599627370496 : Int64)), (.long q1)])) _
  refine OGo.step (fun _ kk => XS.lcmp X0.here hx rfl (hb hby own_d_prog_4_method_3_code_10) rfl kk) ?_
  show OGo p e below (s₁.setTop (mkF m 11 #[.val (.ref x), .val (.long q1), .second] [(.int (lcmpW q1 (4503599627370496 : Int64)))])) _
  refine OGo.step (fun _ kk => XS.ifYes X0.here hx rfl (pc0 := 11) (pc' := 28) rfl (hb hby own_d_prog_4_method_3_code_11) rfl ((if0 _ _).trans (flt (fun z => hq1 ((lw_gt _ _).mp z))).2.2.2) (by decide) (by decide) kk) ?_
  show OGo p e below (s₁.setTop (mkF m 28 #[.val (.ref x), .val (.long q1), .second] [])) _
  obtain ⟨T101, h101, X101, e101, E101, A101, D101, U101, st101⟩ := newO X0 hx hZ hown (hw _ (List.mem_of_getElem? (i := 33) rfl)) (hw _ (List.mem_of_getElem? (i := 34) rfl)) (hw _ (List.mem_of_getElem? (i := 30) rfl)) e0 (g := (mkF m 28 #[.val (.ref x), .val (.long q1), .second] [])) rfl (hb hby own_d_prog_4_method_3_code_28) (by decide) (by decide)
  obtain ⟨a, g101⟩ : ∃ z, z = h0.size := ⟨_, rfl⟩
  rw [← g101] at A101 D101 U101 st101
  refine OGo.step st101 ?_
  show OGo p e below (T101.setTop (mkF m 31 #[.val (.ref x), .val (.long q1), .second] [(.ref a)])) _
  have gf_a : n0 ≤ a := Nat.le_trans Z0 (Nat.le_of_eq g101.symm)
  have sz101 : n0 ≤ h101.size := Nat.le_trans Z0 E101.1
  have OW102 := OW0.ext E101
  have F101_text : Fld Z h101 a "com/example/lease/lease/model/AddToken" "text" "Ljava/lang/String;" .null := D101 (Or.inr (hw _ (List.mem_of_getElem? (i := 46) rfl))) (ty := (.object "java/lang/String")) (by decide)
  have F101_keptMillis : Fld Z h101 a "com/example/lease/lease/model/AddToken" "keptMillis" "J" (.long (0 : Int64)) := D101 (Or.inr (hw _ (List.mem_of_getElem? (i := 48) rfl))) (ty := .long) (by decide)
  refine OGo.step (fun _ kk => XS.dup X101.here hx rfl (hb hby own_d_prog_4_method_3_code_31) rfl rfl kk) ?_
  show OGo p e below (T101.setTop (mkF m 32 #[.val (.ref x), .val (.long q1), .second] [(.ref a), (.ref a)])) _
  refine OGo.step (fun _ kk => XS.aloadN X101.here hx rfl (hb hby own_d_prog_4_method_3_code_32) rfl rfl kk) ?_
  show OGo p e below (T101.setTop (mkF m 33 #[.val (.ref x), .val (.long q1), .second] [(.ref x), (.ref a), (.ref a)])) _
  refine OGo.step (fun _ kk => XS.lloadN X101.here hx rfl (hb hby own_d_prog_4_method_3_code_33) rfl kk) ?_
  show OGo p e below (T101.setTop (mkF m 34 #[.val (.ref x), .val (.long q1), .second] [(.long q1), (.ref x), (.ref a), (.ref a)])) _
  have fx103 := G.ext E101
  refine own_specialW X101 hx hZ (y := (⟨"com/example/lease/lease/model/AddToken", "<init>", "(Ljava/lang/String;J)V"⟩ : MethodName)) rfl hown (hw _ (List.mem_of_getElem? (i := 35) rfl)) (hw _ (List.mem_of_getElem? (i := 36) rfl)) (hw _ (List.mem_of_getElem? (i := 37) rfl)) (hw _ (List.mem_of_getElem? (i := 30) rfl)) (by decide) hEL OW102 (a := a) (W := 1) (own_atinit l Z a0 hw [] a x cs q1 h101 n0 sz101 A101 F101_text F101_keptMillis gf_a fx103) e101  (pc := 34) (Ls := #[.val (.ref x), .val (.long q1), .second]) (argsL := [(.ref x), (.long q1)]) (rest := [(.ref a)]) (by rw [hml]; rfl) (lenOf own_pd3 rfl) rfl (hb hby own_d_prog_4_method_3_code_34) (by decide) (by decide) (by decide) (by decide) ?_
  intro v104 T104 L104 X104 hQ104 OW104 hZ hown CH104
  obtain ⟨rfl, N104, K104, Ea104, Fa104, Fb104⟩ := hQ104
  show OGo p e below (T104.setTop (mkF m 37 #[.val (.ref x), .val (.long q1), .second] [(.ref a)])) _
  have Nc104 := Fr.app (Fr.nil n0) N104
  have sz104 : n0 ≤ T104.heap.size := Nat.le_trans sz101 K104.1
  have xt105 := (own_ext_keep E101 K104 (allS (Nat.le_of_eq g101.symm) all0))
  exact own_retW X104 hx hlk hEL OW104 rfl hret rfl (Or.inr (Or.inr (Or.inr (Or.inr ⟨rfl, rfl, rfl⟩)))) (hb hby own_d_prog_4_method_3_code_37) ⟨a, rfl, Nc104, xt105, Ea104, Fa104, Fb104⟩ (by decide) (by decide)

set_option maxRecDepth 65536 in
set_option maxHeartbeats 40000000 in
theorem own_text (l : Launch) (Z : State) (a0 : Array Value) (hw : ∀ d ∈ tables_1, d.before a0 Z = true) (ws : List Jvm.Cond) (a1 : Addr) (x : Addr) (h0 : Heap) (n0 : Nat) (Z0 : n0 ≤ h0.size) (F1 : Fld Z h0 a1 "com/example/lease/lease/model/AddToken" "text" "Ljava/lang/String;" (.ref x)) :
    OMet l Z (⟨"com/example/lease/lease/model/AddToken", "text", "()Ljava/lang/String;"⟩ : MethodName) prog_4_method_4_code 1 (some (.object "java/lang/String")) ws ({ frames := 0, cells := 0, slots := 0, locals := 0 } : Room) #[(.ref a1)] h0 (fun v h L => v = some (.ref x) ∧ Fr n0 L ∧ h = h0) := by
  refine OMet.body (plainFor_of_name own_pn2) ?_
  intro p e s m below meth c s₁ hx hby hml hown hnm hret hlk hZ X0 e0
  refine OGo.step (fun _ kk => castTop (show entryFrame m #[(.ref a1)] 1 = (mkF m 0 #[.val (.ref a1)] []) from by first | (simp [entryFrame, mkF, argsToLocals, Value.category]; done) | rfl) kk) ?_
  show OGo p e below (s₁.setTop (mkF m 0 #[.val (.ref a1)] [])) _
  refine OGo.step (fun _ kk => XS.aloadN X0.here hx rfl (hb hby own_d_prog_4_method_4_code_0) rfl rfl kk) ?_
  show OGo p e below (s₁.setTop (mkF m 1 #[.val (.ref a1)] [(.ref a1)])) _
  obtain ⟨T106, X106, e106, st106⟩ := getF X0 hx hZ hown (host := "") (Or.inl (hw _ (List.mem_of_getElem? (i := 45) rfl))) Via.refl e0 F1 (g := (mkF m 1 #[.val (.ref a1)] [(.ref a1)])) rfl rfl (hb hby own_d_prog_4_method_4_code_1)
  refine OGo.step st106 ?_
  show OGo p e below (T106.setTop (mkF m 4 #[.val (.ref a1)] [(.ref x)])) _
  exact own_ret X106 hx hlk hret rfl (Or.inr (Or.inr (Or.inr (Or.inr ⟨rfl, rfl, rfl⟩)))) (hb hby own_d_prog_4_method_4_code_4) ⟨rfl, Fr.nil n0, e106⟩ (by decide) (by decide)

set_option maxRecDepth 65536 in
set_option maxHeartbeats 40000000 in
theorem own_kept (l : Launch) (Z : State) (a0 : Array Value) (hw : ∀ d ∈ tables_1, d.before a0 Z = true) (ws : List Jvm.Cond) (a1 : Addr) (q1 : Int64) (h0 : Heap) (n0 : Nat) (Z0 : n0 ≤ h0.size) (F1 : Fld Z h0 a1 "com/example/lease/lease/model/AddToken" "keptMillis" "J" (.long q1)) :
    OMet l Z (⟨"com/example/lease/lease/model/AddToken", "keptMillis", "()J"⟩ : MethodName) prog_4_method_5_code 1 (some .long) ws ({ frames := 0, cells := 0, slots := 0, locals := 0 } : Room) #[(.ref a1)] h0 (fun v h L => v = some (.long q1) ∧ Fr n0 L ∧ h = h0) := by
  refine OMet.body (plainFor_of_name own_pn2) ?_
  intro p e s m below meth c s₁ hx hby hml hown hnm hret hlk hZ X0 e0
  refine OGo.step (fun _ kk => castTop (show entryFrame m #[(.ref a1)] 1 = (mkF m 0 #[.val (.ref a1)] []) from by first | (simp [entryFrame, mkF, argsToLocals, Value.category]; done) | rfl) kk) ?_
  show OGo p e below (s₁.setTop (mkF m 0 #[.val (.ref a1)] [])) _
  refine OGo.step (fun _ kk => XS.aloadN X0.here hx rfl (hb hby own_d_prog_4_method_5_code_0) rfl rfl kk) ?_
  show OGo p e below (s₁.setTop (mkF m 1 #[.val (.ref a1)] [(.ref a1)])) _
  obtain ⟨T107, X107, e107, st107⟩ := getF X0 hx hZ hown (host := "") (Or.inl (hw _ (List.mem_of_getElem? (i := 47) rfl))) Via.refl e0 F1 (g := (mkF m 1 #[.val (.ref a1)] [(.ref a1)])) rfl rfl (hb hby own_d_prog_4_method_5_code_1)
  refine OGo.step st107 ?_
  show OGo p e below (T107.setTop (mkF m 4 #[.val (.ref a1)] [(.long q1)])) _
  exact own_ret X107 hx hlk hret rfl (Or.inr (Or.inl ⟨rfl, rfl, _, rfl⟩)) (hb hby own_d_prog_4_method_5_code_4) ⟨rfl, Fr.nil n0, e107⟩ (by decide) (by decide)

set_option maxRecDepth 65536 in
set_option maxHeartbeats 40000000 in
theorem own_rm0 (l : Launch) (Z : State) (a0 : Array Value) (hw : ∀ d ∈ tables_1, d.before a0 Z = true) (ws : List Jvm.Cond) (p1 p2 p3 : Int32) (j1 : Int64) (p5 zc : Int32) (h0 : Heap) (n0 : Nat) (Z0 : n0 ≤ h0.size) (SC : Sta Z h0 "java/lang/String" "COMPACT_STRINGS" "Z" (.int zc)) (hzc : ¬ zc = 0) (SA : Sta Z h0 "java/lang/StringUTF16" "$assertionsDisabled" "Z" (.int (1 : Int32))) (SH : Sta Z h0 "java/lang/StringUTF16" "HI_BYTE_SHIFT" "I" (.int (0 : Int32))) (SL : Sta Z h0 "java/lang/StringUTF16" "LO_BYTE_SHIFT" "I" (.int (8 : Int32))) :
    OMetW l Z consts_1 x code maxLocals ret ws room_1 #[(.int p1), (.int p2), (.int p3), (.long j1), (.int p5)] h0 (fun v h L => v = some (.int (1 : Int32)) ∧ Fr n0 L) := by
  refine OMetW.body (plainFor_of_name own_pn0) ?_
  intro p e s m below meth c s₁ hx hby hml hown hnm hret hlk hZ X0 e0 OW0
  have hml : c.maxLocals = 19 := hml
  have hEL := own_hEL hw
  have wS := own_wS hw
  refine OGo.step (fun _ kk => castTop (show entryFrame m #[(.int p1), (.int p2), (.int p3), (.long j1), (.int p5)] maxLocals = (mkF m 0 #[.val (.int p1), .val (.int p2), .val (.int p3), .val (.long j1), .second, .val (.int p5), .unset, .unset, .unset, .unset, .unset, .unset, .unset, .unset, .unset, .unset, .unset, .unset, .unset] []) from by first | (simp [entryFrame, mkF, argsToLocals, Value.category, maxLocals]; done) | rfl) kk) ?_
  show OGo p e below (s₁.setTop (mkF m 0 #[.val (.int p1), .val (.int p2), .val (.int p3), .val (.long j1), .second, .val (.int p5), .unset, .unset, .unset, .unset, .unset, .unset, .unset, .unset, .unset, .unset, .unset, .unset, .unset] [])) _
  refine OGo.step (fun _ kk => X0.ldc2Long hx hown (mvT hZ (hw _ (List.mem_of_getElem? (i := 0) rfl))) (g := (mkF m 0 #[.val (.int p1), .val (.int p2), .val (.int p3), .val (.long j1), .second, .val (.int p5), .unset, .unset, .unset, .unset, .unset, .unset, .unset, .unset, .unset, .unset, .unset, .unset, .unset] [])) rfl (hb hby at_0) _ kk) ?_
  show OGo p e below (s₁.setTop (mkF m 3 #[.val (.int p1), .val (.int p2), .val (.int p3), .val (.long j1), .second, .val (.int p5), .unset, .unset, .unset, .unset, .unset, .unset, .unset, .unset, .unset, .unset, .unset, .unset, .unset] [(.long (4503599627370496 : Int64))])) _
  refine OGo.step (fun _ kk => XS.lstore X0.here hx rfl (hb hby at_3) rfl (l' := #[.val (.int p1), .val (.int p2), .val (.int p3), .val (.long j1), .second, .val (.int p5), .val (.long (4503599627370496 : Int64)), .second, .unset, .unset, .unset, .unset, .unset, .unset, .unset, .unset, .unset, .unset, .unset]) rfl kk) ?_
  show OGo p e below (s₁.setTop (mkF m 5 #[.val (.int p1), .val (.int p2), .val (.int p3), .val (.long j1), .second, .val (.int p5), .val (.long (4503599627370496 : Int64)), .second, .unset, .unset, .unset, .unset, .unset, .unset, .unset, .unset, .unset, .unset, .unset] [])) _
  refine OGo.step (fun _ kk => XS.iload X0.here hx rfl (hb hby at_5) rfl kk) ?_
  show OGo p e below (s₁.setTop (mkF m 7 #[.val (.int p1), .val (.int p2), .val (.int p3), .val (.long j1), .second, .val (.int p5), .val (.long (4503599627370496 : Int64)), .second, .unset, .unset, .unset, .unset, .unset, .unset, .unset, .unset, .unset, .unset, .unset] [(.int p5)])) _
  refine OGo.step (fun _ kk => XS.iconst X0.here hx rfl (hb hby at_7) kk) ?_
  show OGo p e below (s₁.setTop (mkF m 8 #[.val (.int p1), .val (.int p2), .val (.int p3), .val (.long j1), .second, .val (.int p5), .val (.long (4503599627370496 : Int64)), .second, .unset, .unset, .unset, .unset, .unset, .unset, .unset, .unset, .unset, .unset, .unset] [(.int (3 : Int32)), (.int p5)])) _
  refine OGo.step (fun _ kk => XS.iand X0.here hx rfl (hb hby at_8) rfl kk) ?_
  show OGo p e below (s₁.setTop (mkF m 9 #[.val (.int p1), .val (.int p2), .val (.int p3), .val (.long j1), .second, .val (.int p5), .val (.long (4503599627370496 : Int64)), .second, .unset, .unset, .unset, .unset, .unset, .unset, .unset, .unset, .unset, .unset, .unset] [(.int (p5 &&& (3 : Int32)))])) _
  refine OGo.step (fun _ kk => XS.istore X0.here hx rfl (hb hby at_9) rfl (l' := #[.val (.int p1), .val (.int p2), .val (.int p3), .val (.long j1), .second, .val (.int p5), .val (.long (4503599627370496 : Int64)), .second, .val (.int (p5 &&& (3 : Int32))), .unset, .unset, .unset, .unset, .unset, .unset, .unset, .unset, .unset, .unset]) rfl kk) ?_
  show OGo p e below (s₁.setTop (mkF m 11 #[.val (.int p1), .val (.int p2), .val (.int p3), .val (.long j1), .second, .val (.int p5), .val (.long (4503599627370496 : Int64)), .second, .val (.int (p5 &&& (3 : Int32))), .unset, .unset, .unset, .unset, .unset, .unset, .unset, .unset, .unset, .unset] [])) _
  refine OGo.step (fun _ kk => XS.iload X0.here hx rfl (hb hby at_11) rfl kk) ?_
  show OGo p e below (s₁.setTop (mkF m 13 #[.val (.int p1), .val (.int p2), .val (.int p3), .val (.long j1), .second, .val (.int p5), .val (.long (4503599627370496 : Int64)), .second, .val (.int (p5 &&& (3 : Int32))), .unset, .unset, .unset, .unset, .unset, .unset, .unset, .unset, .unset, .unset] [(.int (p5 &&& (3 : Int32)))])) _
  have K60 : ∀ q1 : Int64, ¬ q1 < 1 → ¬ (4503599627370496 : Int64) < q1 → OGo p e below (s₁.setTop (mkF m 60 #[.val (.int p1), .val (.int p2), .val (.int p3), .val (.long j1), .second, .val (.int p5), .val (.long (4503599627370496 : Int64)), .second, .val (.int (p5 &&& (3 : Int32))), .val (.long q1), .second, .unset, .unset, .unset, .unset, .unset, .unset, .unset, .unset] [])) (OEndW s Z consts_1 (fun v h L => v = some (.int (1 : Int32)) ∧ Fr n0 L) room_1.cells room_1.slots) := by
    intro q1 hq0 hq1
    show OGo p e below (s₁.setTop (mkF m 60 #[.val (.int p1), .val (.int p2), .val (.int p3), .val (.long j1), .second, .val (.int p5), .val (.long (4503599627370496 : Int64)), .second, .val (.int (p5 &&& (3 : Int32))), .val (.long q1), .second, .unset, .unset, .unset, .unset, .unset, .unset, .unset, .unset] [])) _
    refine OGo.step (fun _ kk => XS.iload X0.here hx rfl (hb hby at_60) rfl kk) ?_
    show OGo p e below (s₁.setTop (mkF m 62 #[.val (.int p1), .val (.int p2), .val (.int p3), .val (.long j1), .second, .val (.int p5), .val (.long (4503599627370496 : Int64)), .second, .val (.int (p5 &&& (3 : Int32))), .val (.long q1), .second, .unset, .unset, .unset, .unset, .unset, .unset, .unset, .unset] [(.int p5)])) _
    refine OGo.step (fun _ kk => XS.iconst X0.here hx rfl (hb hby at_62) kk) ?_
    show OGo p e below (s₁.setTop (mkF m 63 #[.val (.int p1), .val (.int p2), .val (.int p3), .val (.long j1), .second, .val (.int p5), .val (.long (4503599627370496 : Int64)), .second, .val (.int (p5 &&& (3 : Int32))), .val (.long q1), .second, .unset, .unset, .unset, .unset, .unset, .unset, .unset, .unset] [(.int (2 : Int32)), (.int p5)])) _
    refine OGo.step (fun _ kk => XS.iushr X0.here hx rfl (hb hby at_63) rfl kk) ?_
    show OGo p e below (s₁.setTop (mkF m 64 #[.val (.int p1), .val (.int p2), .val (.int p3), .val (.long j1), .second, .val (.int p5), .val (.long (4503599627370496 : Int64)), .second, .val (.int (p5 &&& (3 : Int32))), .val (.long q1), .second, .unset, .unset, .unset, .unset, .unset, .unset, .unset, .unset] [(.int ((p5.toUInt32 >>> ((2 : Int32) &&& 31).toUInt32).toInt32))])) _
    refine OGo.step (fun _ kk => XS.iconst X0.here hx rfl (hb hby at_64) kk) ?_
    show OGo p e below (s₁.setTop (mkF m 65 #[.val (.int p1), .val (.int p2), .val (.int p3), .val (.long j1), .second, .val (.int p5), .val (.long (4503599627370496 : Int64)), .second, .val (.int (p5 &&& (3 : Int32))), .val (.long q1), .second, .unset, .unset, .unset, .unset, .unset, .unset, .unset, .unset] [(.int (3 : Int32)), (.int ((p5.toUInt32 >>> ((2 : Int32) &&& 31).toUInt32).toInt32))])) _
    refine OGo.step (fun _ kk => XS.iand X0.here hx rfl (hb hby at_65) rfl kk) ?_
    show OGo p e below (s₁.setTop (mkF m 66 #[.val (.int p1), .val (.int p2), .val (.int p3), .val (.long j1), .second, .val (.int p5), .val (.long (4503599627370496 : Int64)), .second, .val (.int (p5 &&& (3 : Int32))), .val (.long q1), .second, .unset, .unset, .unset, .unset, .unset, .unset, .unset, .unset] [(.int (((p5.toUInt32 >>> ((2 : Int32) &&& 31).toUInt32).toInt32) &&& (3 : Int32)))])) _
    have h4 := own_four ((p5.toUInt32 >>> ((2 : Int32) &&& 31).toUInt32).toInt32)
    obtain ⟨n, hn⟩ : ∃ z, z = (((p5.toUInt32 >>> ((2 : Int32) &&& 31).toUInt32).toInt32) &&& (3 : Int32)) := ⟨_, rfl⟩
    rw [← hn] at h4
    rw [← hn]
    show OGo p e below (s₁.setTop (mkF m 66 #[.val (.int p1), .val (.int p2), .val (.int p3), .val (.long j1), .second, .val (.int p5), .val (.long (4503599627370496 : Int64)), .second, .val (.int (p5 &&& (3 : Int32))), .val (.long q1), .second, .unset, .unset, .unset, .unset, .unset, .unset, .unset, .unset] [(.int n)])) _
    refine OGo.step (fun _ kk => XS.istore X0.here hx rfl (hb hby at_66) rfl (l' := #[.val (.int p1), .val (.int p2), .val (.int p3), .val (.long j1), .second, .val (.int p5), .val (.long (4503599627370496 : Int64)), .second, .val (.int (p5 &&& (3 : Int32))), .val (.long q1), .second, .val (.int n), .unset, .unset, .unset, .unset, .unset, .unset, .unset]) rfl kk) ?_
    show OGo p e below (s₁.setTop (mkF m 68 #[.val (.int p1), .val (.int p2), .val (.int p3), .val (.long j1), .second, .val (.int p5), .val (.long (4503599627370496 : Int64)), .second, .val (.int (p5 &&& (3 : Int32))), .val (.long q1), .second, .val (.int n), .unset, .unset, .unset, .unset, .unset, .unset, .unset] [])) _
    refine OGo.step (fun _ kk => XS.iloadN X0.here hx rfl (hb hby at_68) rfl kk) ?_
    show OGo p e below (s₁.setTop (mkF m 69 #[.val (.int p1), .val (.int p2), .val (.int p3), .val (.long j1), .second, .val (.int p5), .val (.long (4503599627370496 : Int64)), .second, .val (.int (p5 &&& (3 : Int32))), .val (.long q1), .second, .val (.int n), .unset, .unset, .unset, .unset, .unset, .unset, .unset] [(.int p1)])) _
    refine OGo.step (fun _ kk => X0.ldcInt hx hown (mvT hZ (hw _ (List.mem_of_getElem? (i := 1) rfl))) (g := (mkF m 69 #[.val (.int p1), .val (.int p2), .val (.int p3), .val (.long j1), .second, .val (.int p5), .val (.long (4503599627370496 : Int64)), .second, .val (.int (p5 &&& (3 : Int32))), .val (.long q1), .second, .val (.int n), .unset, .unset, .unset, .unset, .unset, .unset, .unset] [(.int p1)])) rfl (hb hby at_69) _ kk) ?_
    show OGo p e below (s₁.setTop (mkF m 71 #[.val (.int p1), .val (.int p2), .val (.int p3), .val (.long j1), .second, .val (.int p5), .val (.long (4503599627370496 : Int64)), .second, .val (.int (p5 &&& (3 : Int32))), .val (.long q1), .second, .val (.int n), .unset, .unset, .unset, .unset, .unset, .unset, .unset] [(.int (65535 : Int32)), (.int p1)])) _
    refine OGo.step (fun _ kk => XS.iand X0.here hx rfl (hb hby at_71) rfl kk) ?_
    show OGo p e below (s₁.setTop (mkF m 72 #[.val (.int p1), .val (.int p2), .val (.int p3), .val (.long j1), .second, .val (.int p5), .val (.long (4503599627370496 : Int64)), .second, .val (.int (p5 &&& (3 : Int32))), .val (.long q1), .second, .val (.int n), .unset, .unset, .unset, .unset, .unset, .unset, .unset] [(.int (p1 &&& (65535 : Int32)))])) _
    refine OGo.step (fun _ kk => XS.i2c X0.here hx rfl (hb hby at_72) rfl kk) ?_
    show OGo p e below (s₁.setTop (mkF m 73 #[.val (.int p1), .val (.int p2), .val (.int p3), .val (.long j1), .second, .val (.int p5), .val (.long (4503599627370496 : Int64)), .second, .val (.int (p5 &&& (3 : Int32))), .val (.long q1), .second, .val (.int n), .unset, .unset, .unset, .unset, .unset, .unset, .unset] [(.int ((p1 &&& (65535 : Int32)).toUInt32.toUInt16.toUInt32.toInt32))])) _
    refine OGo.step (fun _ kk => XS.istore X0.here hx rfl (hb hby at_73) rfl (l' := #[.val (.int p1), .val (.int p2), .val (.int p3), .val (.long j1), .second, .val (.int p5), .val (.long (4503599627370496 : Int64)), .second, .val (.int (p5 &&& (3 : Int32))), .val (.long q1), .second, .val (.int n), .val (.int ((p1 &&& (65535 : Int32)).toUInt32.toUInt16.toUInt32.toInt32)), .unset, .unset, .unset, .unset, .unset, .unset]) rfl kk) ?_
    show OGo p e below (s₁.setTop (mkF m 75 #[.val (.int p1), .val (.int p2), .val (.int p3), .val (.long j1), .second, .val (.int p5), .val (.long (4503599627370496 : Int64)), .second, .val (.int (p5 &&& (3 : Int32))), .val (.long q1), .second, .val (.int n), .val (.int ((p1 &&& (65535 : Int32)).toUInt32.toUInt16.toUInt32.toInt32)), .unset, .unset, .unset, .unset, .unset, .unset] [])) _
    refine OGo.step (fun _ kk => XS.iloadN X0.here hx rfl (hb hby at_75) rfl kk) ?_
    show OGo p e below (s₁.setTop (mkF m 76 #[.val (.int p1), .val (.int p2), .val (.int p3), .val (.long j1), .second, .val (.int p5), .val (.long (4503599627370496 : Int64)), .second, .val (.int (p5 &&& (3 : Int32))), .val (.long q1), .second, .val (.int n), .val (.int ((p1 &&& (65535 : Int32)).toUInt32.toUInt16.toUInt32.toInt32)), .unset, .unset, .unset, .unset, .unset, .unset] [(.int p2)])) _
    refine OGo.step (fun _ kk => X0.ldcInt hx hown (mvT hZ (hw _ (List.mem_of_getElem? (i := 1) rfl))) (g := (mkF m 76 #[.val (.int p1), .val (.int p2), .val (.int p3), .val (.long j1), .second, .val (.int p5), .val (.long (4503599627370496 : Int64)), .second, .val (.int (p5 &&& (3 : Int32))), .val (.long q1), .second, .val (.int n), .val (.int ((p1 &&& (65535 : Int32)).toUInt32.toUInt16.toUInt32.toInt32)), .unset, .unset, .unset, .unset, .unset, .unset] [(.int p2)])) rfl (hb hby at_76) _ kk) ?_
    show OGo p e below (s₁.setTop (mkF m 78 #[.val (.int p1), .val (.int p2), .val (.int p3), .val (.long j1), .second, .val (.int p5), .val (.long (4503599627370496 : Int64)), .second, .val (.int (p5 &&& (3 : Int32))), .val (.long q1), .second, .val (.int n), .val (.int ((p1 &&& (65535 : Int32)).toUInt32.toUInt16.toUInt32.toInt32)), .unset, .unset, .unset, .unset, .unset, .unset] [(.int (65535 : Int32)), (.int p2)])) _
    refine OGo.step (fun _ kk => XS.iand X0.here hx rfl (hb hby at_78) rfl kk) ?_
    show OGo p e below (s₁.setTop (mkF m 79 #[.val (.int p1), .val (.int p2), .val (.int p3), .val (.long j1), .second, .val (.int p5), .val (.long (4503599627370496 : Int64)), .second, .val (.int (p5 &&& (3 : Int32))), .val (.long q1), .second, .val (.int n), .val (.int ((p1 &&& (65535 : Int32)).toUInt32.toUInt16.toUInt32.toInt32)), .unset, .unset, .unset, .unset, .unset, .unset] [(.int (p2 &&& (65535 : Int32)))])) _
    refine OGo.step (fun _ kk => XS.i2c X0.here hx rfl (hb hby at_79) rfl kk) ?_
    show OGo p e below (s₁.setTop (mkF m 80 #[.val (.int p1), .val (.int p2), .val (.int p3), .val (.long j1), .second, .val (.int p5), .val (.long (4503599627370496 : Int64)), .second, .val (.int (p5 &&& (3 : Int32))), .val (.long q1), .second, .val (.int n), .val (.int ((p1 &&& (65535 : Int32)).toUInt32.toUInt16.toUInt32.toInt32)), .unset, .unset, .unset, .unset, .unset, .unset] [(.int ((p2 &&& (65535 : Int32)).toUInt32.toUInt16.toUInt32.toInt32))])) _
    refine OGo.step (fun _ kk => XS.istore X0.here hx rfl (hb hby at_80) rfl (l' := #[.val (.int p1), .val (.int p2), .val (.int p3), .val (.long j1), .second, .val (.int p5), .val (.long (4503599627370496 : Int64)), .second, .val (.int (p5 &&& (3 : Int32))), .val (.long q1), .second, .val (.int n), .val (.int ((p1 &&& (65535 : Int32)).toUInt32.toUInt16.toUInt32.toInt32)), .val (.int ((p2 &&& (65535 : Int32)).toUInt32.toUInt16.toUInt32.toInt32)), .unset, .unset, .unset, .unset, .unset]) rfl kk) ?_
    show OGo p e below (s₁.setTop (mkF m 82 #[.val (.int p1), .val (.int p2), .val (.int p3), .val (.long j1), .second, .val (.int p5), .val (.long (4503599627370496 : Int64)), .second, .val (.int (p5 &&& (3 : Int32))), .val (.long q1), .second, .val (.int n), .val (.int ((p1 &&& (65535 : Int32)).toUInt32.toUInt16.toUInt32.toInt32)), .val (.int ((p2 &&& (65535 : Int32)).toUInt32.toUInt16.toUInt32.toInt32)), .unset, .unset, .unset, .unset, .unset] [])) _
    refine OGo.step (fun _ kk => XS.iloadN X0.here hx rfl (hb hby at_82) rfl kk) ?_
    show OGo p e below (s₁.setTop (mkF m 83 #[.val (.int p1), .val (.int p2), .val (.int p3), .val (.long j1), .second, .val (.int p5), .val (.long (4503599627370496 : Int64)), .second, .val (.int (p5 &&& (3 : Int32))), .val (.long q1), .second, .val (.int n), .val (.int ((p1 &&& (65535 : Int32)).toUInt32.toUInt16.toUInt32.toInt32)), .val (.int ((p2 &&& (65535 : Int32)).toUInt32.toUInt16.toUInt32.toInt32)), .unset, .unset, .unset, .unset, .unset] [(.int p3)])) _
    refine OGo.step (fun _ kk => X0.ldcInt hx hown (mvT hZ (hw _ (List.mem_of_getElem? (i := 1) rfl))) (g := (mkF m 83 #[.val (.int p1), .val (.int p2), .val (.int p3), .val (.long j1), .second, .val (.int p5), .val (.long (4503599627370496 : Int64)), .second, .val (.int (p5 &&& (3 : Int32))), .val (.long q1), .second, .val (.int n), .val (.int ((p1 &&& (65535 : Int32)).toUInt32.toUInt16.toUInt32.toInt32)), .val (.int ((p2 &&& (65535 : Int32)).toUInt32.toUInt16.toUInt32.toInt32)), .unset, .unset, .unset, .unset, .unset] [(.int p3)])) rfl (hb hby at_83) _ kk) ?_
    show OGo p e below (s₁.setTop (mkF m 85 #[.val (.int p1), .val (.int p2), .val (.int p3), .val (.long j1), .second, .val (.int p5), .val (.long (4503599627370496 : Int64)), .second, .val (.int (p5 &&& (3 : Int32))), .val (.long q1), .second, .val (.int n), .val (.int ((p1 &&& (65535 : Int32)).toUInt32.toUInt16.toUInt32.toInt32)), .val (.int ((p2 &&& (65535 : Int32)).toUInt32.toUInt16.toUInt32.toInt32)), .unset, .unset, .unset, .unset, .unset] [(.int (65535 : Int32)), (.int p3)])) _
    refine OGo.step (fun _ kk => XS.iand X0.here hx rfl (hb hby at_85) rfl kk) ?_
    show OGo p e below (s₁.setTop (mkF m 86 #[.val (.int p1), .val (.int p2), .val (.int p3), .val (.long j1), .second, .val (.int p5), .val (.long (4503599627370496 : Int64)), .second, .val (.int (p5 &&& (3 : Int32))), .val (.long q1), .second, .val (.int n), .val (.int ((p1 &&& (65535 : Int32)).toUInt32.toUInt16.toUInt32.toInt32)), .val (.int ((p2 &&& (65535 : Int32)).toUInt32.toUInt16.toUInt32.toInt32)), .unset, .unset, .unset, .unset, .unset] [(.int (p3 &&& (65535 : Int32)))])) _
    refine OGo.step (fun _ kk => XS.i2c X0.here hx rfl (hb hby at_86) rfl kk) ?_
    show OGo p e below (s₁.setTop (mkF m 87 #[.val (.int p1), .val (.int p2), .val (.int p3), .val (.long j1), .second, .val (.int p5), .val (.long (4503599627370496 : Int64)), .second, .val (.int (p5 &&& (3 : Int32))), .val (.long q1), .second, .val (.int n), .val (.int ((p1 &&& (65535 : Int32)).toUInt32.toUInt16.toUInt32.toInt32)), .val (.int ((p2 &&& (65535 : Int32)).toUInt32.toUInt16.toUInt32.toInt32)), .unset, .unset, .unset, .unset, .unset] [(.int ((p3 &&& (65535 : Int32)).toUInt32.toUInt16.toUInt32.toInt32))])) _
    refine OGo.step (fun _ kk => XS.istore X0.here hx rfl (hb hby at_87) rfl (l' := #[.val (.int p1), .val (.int p2), .val (.int p3), .val (.long j1), .second, .val (.int p5), .val (.long (4503599627370496 : Int64)), .second, .val (.int (p5 &&& (3 : Int32))), .val (.long q1), .second, .val (.int n), .val (.int ((p1 &&& (65535 : Int32)).toUInt32.toUInt16.toUInt32.toInt32)), .val (.int ((p2 &&& (65535 : Int32)).toUInt32.toUInt16.toUInt32.toInt32)), .val (.int ((p3 &&& (65535 : Int32)).toUInt32.toUInt16.toUInt32.toInt32)), .unset, .unset, .unset, .unset]) rfl kk) ?_
    show OGo p e below (s₁.setTop (mkF m 89 #[.val (.int p1), .val (.int p2), .val (.int p3), .val (.long j1), .second, .val (.int p5), .val (.long (4503599627370496 : Int64)), .second, .val (.int (p5 &&& (3 : Int32))), .val (.long q1), .second, .val (.int n), .val (.int ((p1 &&& (65535 : Int32)).toUInt32.toUInt16.toUInt32.toInt32)), .val (.int ((p2 &&& (65535 : Int32)).toUInt32.toUInt16.toUInt32.toInt32)), .val (.int ((p3 &&& (65535 : Int32)).toUInt32.toUInt16.toUInt32.toInt32)), .unset, .unset, .unset, .unset] [])) _
    refine OGo.step (fun _ kk => XS.iload X0.here hx rfl (hb hby at_89) rfl kk) ?_
    show OGo p e below (s₁.setTop (mkF m 91 #[.val (.int p1), .val (.int p2), .val (.int p3), .val (.long j1), .second, .val (.int p5), .val (.long (4503599627370496 : Int64)), .second, .val (.int (p5 &&& (3 : Int32))), .val (.long q1), .second, .val (.int n), .val (.int ((p1 &&& (65535 : Int32)).toUInt32.toUInt16.toUInt32.toInt32)), .val (.int ((p2 &&& (65535 : Int32)).toUInt32.toUInt16.toUInt32.toInt32)), .val (.int ((p3 &&& (65535 : Int32)).toUInt32.toUInt16.toUInt32.toInt32)), .unset, .unset, .unset, .unset] [(.int n)])) _
    refine OGo.step (fun _ kk => XS.iload X0.here hx rfl (hb hby at_91) rfl kk) ?_
    show OGo p e below (s₁.setTop (mkF m 93 #[.val (.int p1), .val (.int p2), .val (.int p3), .val (.long j1), .second, .val (.int p5), .val (.long (4503599627370496 : Int64)), .second, .val (.int (p5 &&& (3 : Int32))), .val (.long q1), .second, .val (.int n), .val (.int ((p1 &&& (65535 : Int32)).toUInt32.toUInt16.toUInt32.toInt32)), .val (.int ((p2 &&& (65535 : Int32)).toUInt32.toUInt16.toUInt32.toInt32)), .val (.int ((p3 &&& (65535 : Int32)).toUInt32.toUInt16.toUInt32.toInt32)), .unset, .unset, .unset, .unset] [(.int ((p1 &&& (65535 : Int32)).toUInt32.toUInt16.toUInt32.toInt32)), (.int n)])) _
    refine OGo.step (fun _ kk => XS.iload X0.here hx rfl (hb hby at_93) rfl kk) ?_
    show OGo p e below (s₁.setTop (mkF m 95 #[.val (.int p1), .val (.int p2), .val (.int p3), .val (.long j1), .second, .val (.int p5), .val (.long (4503599627370496 : Int64)), .second, .val (.int (p5 &&& (3 : Int32))), .val (.long q1), .second, .val (.int n), .val (.int ((p1 &&& (65535 : Int32)).toUInt32.toUInt16.toUInt32.toInt32)), .val (.int ((p2 &&& (65535 : Int32)).toUInt32.toUInt16.toUInt32.toInt32)), .val (.int ((p3 &&& (65535 : Int32)).toUInt32.toUInt16.toUInt32.toInt32)), .unset, .unset, .unset, .unset] [(.int ((p2 &&& (65535 : Int32)).toUInt32.toUInt16.toUInt32.toInt32)), (.int ((p1 &&& (65535 : Int32)).toUInt32.toUInt16.toUInt32.toInt32)), (.int n)])) _
    refine OGo.step (fun _ kk => XS.iload X0.here hx rfl (hb hby at_95) rfl kk) ?_
    show OGo p e below (s₁.setTop (mkF m 97 #[.val (.int p1), .val (.int p2), .val (.int p3), .val (.long j1), .second, .val (.int p5), .val (.long (4503599627370496 : Int64)), .second, .val (.int (p5 &&& (3 : Int32))), .val (.long q1), .second, .val (.int n), .val (.int ((p1 &&& (65535 : Int32)).toUInt32.toUInt16.toUInt32.toInt32)), .val (.int ((p2 &&& (65535 : Int32)).toUInt32.toUInt16.toUInt32.toInt32)), .val (.int ((p3 &&& (65535 : Int32)).toUInt32.toUInt16.toUInt32.toInt32)), .unset, .unset, .unset, .unset] [(.int ((p3 &&& (65535 : Int32)).toUInt32.toUInt16.toUInt32.toInt32)), (.int ((p2 &&& (65535 : Int32)).toUInt32.toUInt16.toUInt32.toInt32)), (.int ((p1 &&& (65535 : Int32)).toUInt32.toUInt16.toUInt32.toInt32)), (.int n)])) _
    refine own_callSW X0 hx hZ (y := (⟨"com/example/lease/lease/model/AddTokenKeptForPinLaw", "make", "(ICCC)Ljava/lang/String;"⟩ : MethodName)) hown (hw _ (List.mem_of_getElem? (i := 2) rfl)) (hw _ (List.mem_of_getElem? (i := 3) rfl)) (hw _ (List.mem_of_getElem? (i := 4) rfl)) (hw _ (List.mem_of_getElem? (i := 5) rfl)) (by decide) hEL OW0 (W := 0) (own_make l Z a0 hw [] n ((p1 &&& (65535 : Int32)).toUInt32.toUInt16.toUInt32.toInt32) ((p2 &&& (65535 : Int32)).toUInt32.toUInt16.toUInt32.toInt32) ((p3 &&& (65535 : Int32)).toUInt32.toUInt16.toUInt32.toInt32) zc h0 n0 Z0 SC hzc SA SH SL (own_nar16 _)) e0  (pc := 97) (Ls := #[.val (.int p1), .val (.int p2), .val (.int p3), .val (.long j1), .second, .val (.int p5), .val (.long (4503599627370496 : Int64)), .second, .val (.int (p5 &&& (3 : Int32))), .val (.long q1), .second, .val (.int n), .val (.int ((p1 &&& (65535 : Int32)).toUInt32.toUInt16.toUInt32.toInt32)), .val (.int ((p2 &&& (65535 : Int32)).toUInt32.toUInt16.toUInt32.toInt32)), .val (.int ((p3 &&& (65535 : Int32)).toUInt32.toUInt16.toUInt32.toInt32)), .unset, .unset, .unset, .unset]) (argsL := [(.int n), (.int ((p1 &&& (65535 : Int32)).toUInt32.toUInt16.toUInt32.toInt32)), (.int ((p2 &&& (65535 : Int32)).toUInt32.toUInt16.toUInt32.toInt32)), (.int ((p3 &&& (65535 : Int32)).toUInt32.toUInt16.toUInt32.toInt32))]) (rest := []) (by rw [hml]; rfl) (lenOf own_pd4 rfl) rfl (hb hby at_97) (by decide) (by decide) (by decide) (by decide) ?_
    intro v108 T108 L108 X108 hQ108 OW108 hZ hown CH108
    obtain ⟨x, rfl, N108, Xe108, O108⟩ := hQ108
    show OGo p e below (T108.setTop (mkF m 100 #[.val (.int p1), .val (.int p2), .val (.int p3), .val (.long j1), .second, .val (.int p5), .val (.long (4503599627370496 : Int64)), .second, .val (.int (p5 &&& (3 : Int32))), .val (.long q1), .second, .val (.int n), .val (.int ((p1 &&& (65535 : Int32)).toUInt32.toUInt16.toUInt32.toInt32)), .val (.int ((p2 &&& (65535 : Int32)).toUInt32.toUInt16.toUInt32.toInt32)), .val (.int ((p3 &&& (65535 : Int32)).toUInt32.toUInt16.toUInt32.toInt32)), .unset, .unset, .unset, .unset] [(.ref x)])) _
    have Nc108 := Fr.app (Fr.nil n0) N108
    have sz108 : n0 ≤ T108.heap.size := Nat.le_trans Z0 Xe108.1
    refine OGo.step (fun _ kk => XS.astore X108.here hx rfl (hb hby at_100) rfl rfl (l' := #[.val (.int p1), .val (.int p2), .val (.int p3), .val (.long j1), .second, .val (.int p5), .val (.long (4503599627370496 : Int64)), .second, .val (.int (p5 &&& (3 : Int32))), .val (.long q1), .second, .val (.int n), .val (.int ((p1 &&& (65535 : Int32)).toUInt32.toUInt16.toUInt32.toInt32)), .val (.int ((p2 &&& (65535 : Int32)).toUInt32.toUInt16.toUInt32.toInt32)), .val (.int ((p3 &&& (65535 : Int32)).toUInt32.toUInt16.toUInt32.toInt32)), .val (.ref x), .unset, .unset, .unset]) rfl kk) ?_
    show OGo p e below (T108.setTop (mkF m 102 #[.val (.int p1), .val (.int p2), .val (.int p3), .val (.long j1), .second, .val (.int p5), .val (.long (4503599627370496 : Int64)), .second, .val (.int (p5 &&& (3 : Int32))), .val (.long q1), .second, .val (.int n), .val (.int ((p1 &&& (65535 : Int32)).toUInt32.toUInt16.toUInt32.toInt32)), .val (.int ((p2 &&& (65535 : Int32)).toUInt32.toUInt16.toUInt32.toInt32)), .val (.int ((p3 &&& (65535 : Int32)).toUInt32.toUInt16.toUInt32.toInt32)), .val (.ref x), .unset, .unset, .unset] [])) _
    refine OGo.step (fun _ kk => XS.iload X108.here hx rfl (hb hby at_102) rfl kk) ?_
    show OGo p e below (T108.setTop (mkF m 104 #[.val (.int p1), .val (.int p2), .val (.int p3), .val (.long j1), .second, .val (.int p5), .val (.long (4503599627370496 : Int64)), .second, .val (.int (p5 &&& (3 : Int32))), .val (.long q1), .second, .val (.int n), .val (.int ((p1 &&& (65535 : Int32)).toUInt32.toUInt16.toUInt32.toInt32)), .val (.int ((p2 &&& (65535 : Int32)).toUInt32.toUInt16.toUInt32.toInt32)), .val (.int ((p3 &&& (65535 : Int32)).toUInt32.toUInt16.toUInt32.toInt32)), .val (.ref x), .unset, .unset, .unset] [(.int n)])) _
    refine OGo.step (fun _ kk => XS.iload X108.here hx rfl (hb hby at_104) rfl kk) ?_
    show OGo p e below (T108.setTop (mkF m 106 #[.val (.int p1), .val (.int p2), .val (.int p3), .val (.long j1), .second, .val (.int p5), .val (.long (4503599627370496 : Int64)), .second, .val (.int (p5 &&& (3 : Int32))), .val (.long q1), .second, .val (.int n), .val (.int ((p1 &&& (65535 : Int32)).toUInt32.toUInt16.toUInt32.toInt32)), .val (.int ((p2 &&& (65535 : Int32)).toUInt32.toUInt16.toUInt32.toInt32)), .val (.int ((p3 &&& (65535 : Int32)).toUInt32.toUInt16.toUInt32.toInt32)), .val (.ref x), .unset, .unset, .unset] [(.int ((p1 &&& (65535 : Int32)).toUInt32.toUInt16.toUInt32.toInt32)), (.int n)])) _
    refine OGo.step (fun _ kk => XS.iload X108.here hx rfl (hb hby at_106) rfl kk) ?_
    show OGo p e below (T108.setTop (mkF m 108 #[.val (.int p1), .val (.int p2), .val (.int p3), .val (.long j1), .second, .val (.int p5), .val (.long (4503599627370496 : Int64)), .second, .val (.int (p5 &&& (3 : Int32))), .val (.long q1), .second, .val (.int n), .val (.int ((p1 &&& (65535 : Int32)).toUInt32.toUInt16.toUInt32.toInt32)), .val (.int ((p2 &&& (65535 : Int32)).toUInt32.toUInt16.toUInt32.toInt32)), .val (.int ((p3 &&& (65535 : Int32)).toUInt32.toUInt16.toUInt32.toInt32)), .val (.ref x), .unset, .unset, .unset] [(.int ((p2 &&& (65535 : Int32)).toUInt32.toUInt16.toUInt32.toInt32)), (.int ((p1 &&& (65535 : Int32)).toUInt32.toUInt16.toUInt32.toInt32)), (.int n)])) _
    refine OGo.step (fun _ kk => XS.iload X108.here hx rfl (hb hby at_108) rfl kk) ?_
    show OGo p e below (T108.setTop (mkF m 110 #[.val (.int p1), .val (.int p2), .val (.int p3), .val (.long j1), .second, .val (.int p5), .val (.long (4503599627370496 : Int64)), .second, .val (.int (p5 &&& (3 : Int32))), .val (.long q1), .second, .val (.int n), .val (.int ((p1 &&& (65535 : Int32)).toUInt32.toUInt16.toUInt32.toInt32)), .val (.int ((p2 &&& (65535 : Int32)).toUInt32.toUInt16.toUInt32.toInt32)), .val (.int ((p3 &&& (65535 : Int32)).toUInt32.toUInt16.toUInt32.toInt32)), .val (.ref x), .unset, .unset, .unset] [(.int ((p3 &&& (65535 : Int32)).toUInt32.toUInt16.toUInt32.toInt32)), (.int ((p2 &&& (65535 : Int32)).toUInt32.toUInt16.toUInt32.toInt32)), (.int ((p1 &&& (65535 : Int32)).toUInt32.toUInt16.toUInt32.toInt32)), (.int n)])) _
    have fx109 := SC.ext Xe108
    have fx110 := SA.ext Xe108
    have fx111 := SH.ext Xe108
    have fx112 := SL.ext Xe108
    refine own_callSW X108 hx hZ (y := (⟨"com/example/lease/lease/model/AddTokenKeptForPinLaw", "make", "(ICCC)Ljava/lang/String;"⟩ : MethodName)) hown (hw _ (List.mem_of_getElem? (i := 2) rfl)) (hw _ (List.mem_of_getElem? (i := 3) rfl)) (hw _ (List.mem_of_getElem? (i := 4) rfl)) (hw _ (List.mem_of_getElem? (i := 5) rfl)) (by decide) hEL OW108 (W := 0) (own_make l Z a0 hw [] n ((p1 &&& (65535 : Int32)).toUInt32.toUInt16.toUInt32.toInt32) ((p2 &&& (65535 : Int32)).toUInt32.toUInt16.toUInt32.toInt32) ((p3 &&& (65535 : Int32)).toUInt32.toUInt16.toUInt32.toInt32) zc T108.heap n0 sz108 fx109 hzc fx110 fx111 fx112 (own_nar16 _)) rfl  (pc := 110) (Ls := #[.val (.int p1), .val (.int p2), .val (.int p3), .val (.long j1), .second, .val (.int p5), .val (.long (4503599627370496 : Int64)), .second, .val (.int (p5 &&& (3 : Int32))), .val (.long q1), .second, .val (.int n), .val (.int ((p1 &&& (65535 : Int32)).toUInt32.toUInt16.toUInt32.toInt32)), .val (.int ((p2 &&& (65535 : Int32)).toUInt32.toUInt16.toUInt32.toInt32)), .val (.int ((p3 &&& (65535 : Int32)).toUInt32.toUInt16.toUInt32.toInt32)), .val (.ref x), .unset, .unset, .unset]) (argsL := [(.int n), (.int ((p1 &&& (65535 : Int32)).toUInt32.toUInt16.toUInt32.toInt32)), (.int ((p2 &&& (65535 : Int32)).toUInt32.toUInt16.toUInt32.toInt32)), (.int ((p3 &&& (65535 : Int32)).toUInt32.toUInt16.toUInt32.toInt32))]) (rest := []) (by rw [hml]; rfl) (lenOf own_pd4 rfl) rfl (hb hby at_110) (by decide) (by decide) (by decide) (by decide) ?_
    intro v113 T113 L113 X113 hQ113 OW113 hZ hown CH113
    obtain ⟨y, rfl, N113, Xe113, O113⟩ := hQ113
    show OGo p e below (T113.setTop (mkF m 113 #[.val (.int p1), .val (.int p2), .val (.int p3), .val (.long j1), .second, .val (.int p5), .val (.long (4503599627370496 : Int64)), .second, .val (.int (p5 &&& (3 : Int32))), .val (.long q1), .second, .val (.int n), .val (.int ((p1 &&& (65535 : Int32)).toUInt32.toUInt16.toUInt32.toInt32)), .val (.int ((p2 &&& (65535 : Int32)).toUInt32.toUInt16.toUInt32.toInt32)), .val (.int ((p3 &&& (65535 : Int32)).toUInt32.toUInt16.toUInt32.toInt32)), .val (.ref x), .unset, .unset, .unset] [(.ref y)])) _
    have Nc113 := Fr.app Nc108 N113
    have sz113 : n0 ≤ T113.heap.size := Nat.le_trans sz108 Xe113.1
    refine OGo.step (fun _ kk => XS.astore X113.here hx rfl (hb hby at_113) rfl rfl (l' := #[.val (.int p1), .val (.int p2), .val (.int p3), .val (.long j1), .second, .val (.int p5), .val (.long (4503599627370496 : Int64)), .second, .val (.int (p5 &&& (3 : Int32))), .val (.long q1), .second, .val (.int n), .val (.int ((p1 &&& (65535 : Int32)).toUInt32.toUInt16.toUInt32.toInt32)), .val (.int ((p2 &&& (65535 : Int32)).toUInt32.toUInt16.toUInt32.toInt32)), .val (.int ((p3 &&& (65535 : Int32)).toUInt32.toUInt16.toUInt32.toInt32)), .val (.ref x), .val (.ref y), .unset, .unset]) rfl kk) ?_
    show OGo p e below (T113.setTop (mkF m 115 #[.val (.int p1), .val (.int p2), .val (.int p3), .val (.long j1), .second, .val (.int p5), .val (.long (4503599627370496 : Int64)), .second, .val (.int (p5 &&& (3 : Int32))), .val (.long q1), .second, .val (.int n), .val (.int ((p1 &&& (65535 : Int32)).toUInt32.toUInt16.toUInt32.toInt32)), .val (.int ((p2 &&& (65535 : Int32)).toUInt32.toUInt16.toUInt32.toInt32)), .val (.int ((p3 &&& (65535 : Int32)).toUInt32.toUInt16.toUInt32.toInt32)), .val (.ref x), .val (.ref y), .unset, .unset] [])) _
    refine OGo.step (fun _ kk => XS.aload X113.here hx rfl (hb hby at_115) rfl rfl kk) ?_
    show OGo p e below (T113.setTop (mkF m 117 #[.val (.int p1), .val (.int p2), .val (.int p3), .val (.long j1), .second, .val (.int p5), .val (.long (4503599627370496 : Int64)), .second, .val (.int (p5 &&& (3 : Int32))), .val (.long q1), .second, .val (.int n), .val (.int ((p1 &&& (65535 : Int32)).toUInt32.toUInt16.toUInt32.toInt32)), .val (.int ((p2 &&& (65535 : Int32)).toUInt32.toUInt16.toUInt32.toInt32)), .val (.int ((p3 &&& (65535 : Int32)).toUInt32.toUInt16.toUInt32.toInt32)), .val (.ref x), .val (.ref y), .unset, .unset] [(.ref x)])) _
    refine OGo.step (fun _ kk => XS.lload X113.here hx rfl (hb hby at_117) rfl kk) ?_
    show OGo p e below (T113.setTop (mkF m 119 #[.val (.int p1), .val (.int p2), .val (.int p3), .val (.long j1), .second, .val (.int p5), .val (.long (4503599627370496 : Int64)), .second, .val (.int (p5 &&& (3 : Int32))), .val (.long q1), .second, .val (.int n), .val (.int ((p1 &&& (65535 : Int32)).toUInt32.toUInt16.toUInt32.toInt32)), .val (.int ((p2 &&& (65535 : Int32)).toUInt32.toUInt16.toUInt32.toInt32)), .val (.int ((p3 &&& (65535 : Int32)).toUInt32.toUInt16.toUInt32.toInt32)), .val (.ref x), .val (.ref y), .unset, .unset] [(.long q1), (.ref x)])) _
    have fx114 := O108.ext Xe113
    refine own_callSW X113 hx hZ (y := (⟨"com/example/lease/lease/model/AddToken", "keptFor", "(Ljava/lang/String;J)Lcom/example/lease/lease/model/AddToken;"⟩ : MethodName)) hown (hw _ (List.mem_of_getElem? (i := 28) rfl)) (hw _ (List.mem_of_getElem? (i := 29) rfl)) (hw _ (List.mem_of_getElem? (i := 30) rfl)) (hw _ (List.mem_of_getElem? (i := 31) rfl)) (by decide) hEL OW113 (W := 0) (own_of l Z a0 hw [] x (own_mk n ((p1 &&& (65535 : Int32)).toUInt32.toUInt16.toUInt32.toInt32) ((p2 &&& (65535 : Int32)).toUInt32.toUInt16.toUInt32.toInt32) ((p3 &&& (65535 : Int32)).toUInt32.toUInt16.toUInt32.toInt32)) q1 T113.heap n0 sz113 fx114 hq0 hq1) rfl  (pc := 119) (Ls := #[.val (.int p1), .val (.int p2), .val (.int p3), .val (.long j1), .second, .val (.int p5), .val (.long (4503599627370496 : Int64)), .second, .val (.int (p5 &&& (3 : Int32))), .val (.long q1), .second, .val (.int n), .val (.int ((p1 &&& (65535 : Int32)).toUInt32.toUInt16.toUInt32.toInt32)), .val (.int ((p2 &&& (65535 : Int32)).toUInt32.toUInt16.toUInt32.toInt32)), .val (.int ((p3 &&& (65535 : Int32)).toUInt32.toUInt16.toUInt32.toInt32)), .val (.ref x), .val (.ref y), .unset, .unset]) (argsL := [(.ref x), (.long q1)]) (rest := []) (by rw [hml]; rfl) (lenOf own_pd5 rfl) rfl (hb hby at_119) (by decide) (by decide) (by decide) (by decide) ?_
    intro v115 T115 L115 X115 hQ115 OW115 hZ hown CH115
    obtain ⟨a, rfl, N115, Xe115, Ea, Ft, Fk⟩ := hQ115
    show OGo p e below (T115.setTop (mkF m 122 #[.val (.int p1), .val (.int p2), .val (.int p3), .val (.long j1), .second, .val (.int p5), .val (.long (4503599627370496 : Int64)), .second, .val (.int (p5 &&& (3 : Int32))), .val (.long q1), .second, .val (.int n), .val (.int ((p1 &&& (65535 : Int32)).toUInt32.toUInt16.toUInt32.toInt32)), .val (.int ((p2 &&& (65535 : Int32)).toUInt32.toUInt16.toUInt32.toInt32)), .val (.int ((p3 &&& (65535 : Int32)).toUInt32.toUInt16.toUInt32.toInt32)), .val (.ref x), .val (.ref y), .unset, .unset] [(.ref a)])) _
    have Nc115 := Fr.app Nc113 N115
    have sz115 : n0 ≤ T115.heap.size := Nat.le_trans sz113 Xe115.1
    refine OGo.step (fun _ kk => XS.astore X115.here hx rfl (hb hby at_122) rfl rfl (l' := #[.val (.int p1), .val (.int p2), .val (.int p3), .val (.long j1), .second, .val (.int p5), .val (.long (4503599627370496 : Int64)), .second, .val (.int (p5 &&& (3 : Int32))), .val (.long q1), .second, .val (.int n), .val (.int ((p1 &&& (65535 : Int32)).toUInt32.toUInt16.toUInt32.toInt32)), .val (.int ((p2 &&& (65535 : Int32)).toUInt32.toUInt16.toUInt32.toInt32)), .val (.int ((p3 &&& (65535 : Int32)).toUInt32.toUInt16.toUInt32.toInt32)), .val (.ref x), .val (.ref y), .val (.ref a), .unset]) rfl kk) ?_
    show OGo p e below (T115.setTop (mkF m 124 #[.val (.int p1), .val (.int p2), .val (.int p3), .val (.long j1), .second, .val (.int p5), .val (.long (4503599627370496 : Int64)), .second, .val (.int (p5 &&& (3 : Int32))), .val (.long q1), .second, .val (.int n), .val (.int ((p1 &&& (65535 : Int32)).toUInt32.toUInt16.toUInt32.toInt32)), .val (.int ((p2 &&& (65535 : Int32)).toUInt32.toUInt16.toUInt32.toInt32)), .val (.int ((p3 &&& (65535 : Int32)).toUInt32.toUInt16.toUInt32.toInt32)), .val (.ref x), .val (.ref y), .val (.ref a), .unset] [])) _
    refine OGo.step (fun _ kk => XS.aload X115.here hx rfl (hb hby at_124) rfl rfl kk) ?_
    show OGo p e below (T115.setTop (mkF m 126 #[.val (.int p1), .val (.int p2), .val (.int p3), .val (.long j1), .second, .val (.int p5), .val (.long (4503599627370496 : Int64)), .second, .val (.int (p5 &&& (3 : Int32))), .val (.long q1), .second, .val (.int n), .val (.int ((p1 &&& (65535 : Int32)).toUInt32.toUInt16.toUInt32.toInt32)), .val (.int ((p2 &&& (65535 : Int32)).toUInt32.toUInt16.toUInt32.toInt32)), .val (.int ((p3 &&& (65535 : Int32)).toUInt32.toUInt16.toUInt32.toInt32)), .val (.ref x), .val (.ref y), .val (.ref a), .unset] [(.ref a)])) _
    refine OGo.step (fun _ kk => XS.ifnonnullYes X115.here hx rfl (pc0 := 126) (pc' := 131) rfl (hb hby at_126) rfl (by decide) (by decide) kk) ?_
    show OGo p e below (T115.setTop (mkF m 131 #[.val (.int p1), .val (.int p2), .val (.int p3), .val (.long j1), .second, .val (.int p5), .val (.long (4503599627370496 : Int64)), .second, .val (.int (p5 &&& (3 : Int32))), .val (.long q1), .second, .val (.int n), .val (.int ((p1 &&& (65535 : Int32)).toUInt32.toUInt16.toUInt32.toInt32)), .val (.int ((p2 &&& (65535 : Int32)).toUInt32.toUInt16.toUInt32.toInt32)), .val (.int ((p3 &&& (65535 : Int32)).toUInt32.toUInt16.toUInt32.toInt32)), .val (.ref x), .val (.ref y), .val (.ref a), .unset] [])) _
    refine OGo.step (fun _ kk => XS.aload X115.here hx rfl (hb hby at_131) rfl rfl kk) ?_
    show OGo p e below (T115.setTop (mkF m 133 #[.val (.int p1), .val (.int p2), .val (.int p3), .val (.long j1), .second, .val (.int p5), .val (.long (4503599627370496 : Int64)), .second, .val (.int (p5 &&& (3 : Int32))), .val (.long q1), .second, .val (.int n), .val (.int ((p1 &&& (65535 : Int32)).toUInt32.toUInt16.toUInt32.toInt32)), .val (.int ((p2 &&& (65535 : Int32)).toUInt32.toUInt16.toUInt32.toInt32)), .val (.int ((p3 &&& (65535 : Int32)).toUInt32.toUInt16.toUInt32.toInt32)), .val (.ref x), .val (.ref y), .val (.ref a), .unset] [(.ref a)])) _
    refine own_virtual X115 hx hZ (y := (⟨"com/example/lease/lease/model/AddToken", "text", "()Ljava/lang/String;"⟩ : MethodName)) (z := (⟨"com/example/lease/lease/model/AddToken", "text", "()Ljava/lang/String;"⟩ : MethodName)) hown (hw _ (List.mem_of_getElem? (i := 49) rfl)) (hw _ (List.mem_of_getElem? (i := 50) rfl)) (notFace_of_selects (args := #[]) (mvT hZ (hw _ (List.mem_of_getElem? (i := 52) rfl)))) (hw _ (List.mem_of_getElem? (i := 52) rfl)) (hw _ (List.mem_of_getElem? (i := 51) rfl)) (by decide) (hw _ (List.mem_of_getElem? (i := 53) rfl)) (hw _ (List.mem_of_getElem? (i := 30) rfl)) (b := a) Ea (W := 0) (own_text l Z a0 hw [] a x T115.heap n0 sz115 Ft) rfl  (pc := 133) (Ls := #[.val (.int p1), .val (.int p2), .val (.int p3), .val (.long j1), .second, .val (.int p5), .val (.long (4503599627370496 : Int64)), .second, .val (.int (p5 &&& (3 : Int32))), .val (.long q1), .second, .val (.int n), .val (.int ((p1 &&& (65535 : Int32)).toUInt32.toUInt16.toUInt32.toInt32)), .val (.int ((p2 &&& (65535 : Int32)).toUInt32.toUInt16.toUInt32.toInt32)), .val (.int ((p3 &&& (65535 : Int32)).toUInt32.toUInt16.toUInt32.toInt32)), .val (.ref x), .val (.ref y), .val (.ref a), .unset]) (argsL := []) (rest := []) (by rw [hml]; rfl) (lenOf own_pd6 rfl) rfl (hb hby at_133) (by decide) (by decide) (by decide) (by decide) ?_
    intro v116 T116 L116 X116 hQ116
    obtain ⟨rfl, N116, e116⟩ := hQ116
    show OGo p e below (T116.setTop (mkF m 136 #[.val (.int p1), .val (.int p2), .val (.int p3), .val (.long j1), .second, .val (.int p5), .val (.long (4503599627370496 : Int64)), .second, .val (.int (p5 &&& (3 : Int32))), .val (.long q1), .second, .val (.int n), .val (.int ((p1 &&& (65535 : Int32)).toUInt32.toUInt16.toUInt32.toInt32)), .val (.int ((p2 &&& (65535 : Int32)).toUInt32.toUInt16.toUInt32.toInt32)), .val (.int ((p3 &&& (65535 : Int32)).toUInt32.toUInt16.toUInt32.toInt32)), .val (.ref x), .val (.ref y), .val (.ref a), .unset] [(.ref x)])) _
    have Nc116 := Fr.app Nc115 N116
    refine OGo.step (fun _ kk => XS.astore X116.here hx rfl (hb hby at_136) rfl rfl (l' := #[.val (.int p1), .val (.int p2), .val (.int p3), .val (.long j1), .second, .val (.int p5), .val (.long (4503599627370496 : Int64)), .second, .val (.int (p5 &&& (3 : Int32))), .val (.long q1), .second, .val (.int n), .val (.int ((p1 &&& (65535 : Int32)).toUInt32.toUInt16.toUInt32.toInt32)), .val (.int ((p2 &&& (65535 : Int32)).toUInt32.toUInt16.toUInt32.toInt32)), .val (.int ((p3 &&& (65535 : Int32)).toUInt32.toUInt16.toUInt32.toInt32)), .val (.ref x), .val (.ref y), .val (.ref a), .val (.ref x)]) rfl kk) ?_
    show OGo p e below (T116.setTop (mkF m 138 #[.val (.int p1), .val (.int p2), .val (.int p3), .val (.long j1), .second, .val (.int p5), .val (.long (4503599627370496 : Int64)), .second, .val (.int (p5 &&& (3 : Int32))), .val (.long q1), .second, .val (.int n), .val (.int ((p1 &&& (65535 : Int32)).toUInt32.toUInt16.toUInt32.toInt32)), .val (.int ((p2 &&& (65535 : Int32)).toUInt32.toUInt16.toUInt32.toInt32)), .val (.int ((p3 &&& (65535 : Int32)).toUInt32.toUInt16.toUInt32.toInt32)), .val (.ref x), .val (.ref y), .val (.ref a), .val (.ref x)] [])) _
    refine OGo.step (fun _ kk => XS.aload X116.here hx rfl (hb hby at_138) rfl rfl kk) ?_
    show OGo p e below (T116.setTop (mkF m 140 #[.val (.int p1), .val (.int p2), .val (.int p3), .val (.long j1), .second, .val (.int p5), .val (.long (4503599627370496 : Int64)), .second, .val (.int (p5 &&& (3 : Int32))), .val (.long q1), .second, .val (.int n), .val (.int ((p1 &&& (65535 : Int32)).toUInt32.toUInt16.toUInt32.toInt32)), .val (.int ((p2 &&& (65535 : Int32)).toUInt32.toUInt16.toUInt32.toInt32)), .val (.int ((p3 &&& (65535 : Int32)).toUInt32.toUInt16.toUInt32.toInt32)), .val (.ref x), .val (.ref y), .val (.ref a), .val (.ref x)] [(.ref x)])) _
    refine OGo.step (fun _ kk => XS.ifnullNo X116.here hx rfl (hb hby at_140) rfl kk) ?_
    show OGo p e below (T116.setTop (mkF m 143 #[.val (.int p1), .val (.int p2), .val (.int p3), .val (.long j1), .second, .val (.int p5), .val (.long (4503599627370496 : Int64)), .second, .val (.int (p5 &&& (3 : Int32))), .val (.long q1), .second, .val (.int n), .val (.int ((p1 &&& (65535 : Int32)).toUInt32.toUInt16.toUInt32.toInt32)), .val (.int ((p2 &&& (65535 : Int32)).toUInt32.toUInt16.toUInt32.toInt32)), .val (.int ((p3 &&& (65535 : Int32)).toUInt32.toUInt16.toUInt32.toInt32)), .val (.ref x), .val (.ref y), .val (.ref a), .val (.ref x)] [])) _
    refine OGo.step (fun _ kk => XS.aload X116.here hx rfl (hb hby at_143) rfl rfl kk) ?_
    show OGo p e below (T116.setTop (mkF m 145 #[.val (.int p1), .val (.int p2), .val (.int p3), .val (.long j1), .second, .val (.int p5), .val (.long (4503599627370496 : Int64)), .second, .val (.int (p5 &&& (3 : Int32))), .val (.long q1), .second, .val (.int n), .val (.int ((p1 &&& (65535 : Int32)).toUInt32.toUInt16.toUInt32.toInt32)), .val (.int ((p2 &&& (65535 : Int32)).toUInt32.toUInt16.toUInt32.toInt32)), .val (.int ((p3 &&& (65535 : Int32)).toUInt32.toUInt16.toUInt32.toInt32)), .val (.ref x), .val (.ref y), .val (.ref a), .val (.ref x)] [(.ref x)])) _
    refine OGo.step (fun _ kk => XS.aload X116.here hx rfl (hb hby at_145) rfl rfl kk) ?_
    show OGo p e below (T116.setTop (mkF m 147 #[.val (.int p1), .val (.int p2), .val (.int p3), .val (.long j1), .second, .val (.int p5), .val (.long (4503599627370496 : Int64)), .second, .val (.int (p5 &&& (3 : Int32))), .val (.long q1), .second, .val (.int n), .val (.int ((p1 &&& (65535 : Int32)).toUInt32.toUInt16.toUInt32.toInt32)), .val (.int ((p2 &&& (65535 : Int32)).toUInt32.toUInt16.toUInt32.toInt32)), .val (.int ((p3 &&& (65535 : Int32)).toUInt32.toUInt16.toUInt32.toInt32)), .val (.ref x), .val (.ref y), .val (.ref a), .val (.ref x)] [(.ref y), (.ref x)])) _
    have xt117 := (own_ext_trans Xe113 Xe115)
    have fx118 := O108.ext xt117
    have fx119 := O113.ext Xe115
    have xt120 := (own_ext_trans Xe108 Xe113)
    have xt121 := (own_ext_trans xt120 Xe115)
    have fx122 := SC.ext xt121
    refine own_virtualK X116 hx hZ (y := (⟨"java/lang/String", "equals", "(Ljava/lang/Object;)Z"⟩ : MethodName)) (z := (⟨"java/lang/String", "equals", "(Ljava/lang/Object;)Z"⟩ : MethodName)) hown (hw _ (List.mem_of_getElem? (i := 54) rfl)) (hw _ (List.mem_of_getElem? (i := 55) rfl)) (notFace_of_selects (args := #[]) (mvT hZ (hw _ (List.mem_of_getElem? (i := 57) rfl)))) (hw _ (List.mem_of_getElem? (i := 57) rfl)) (hw _ (List.mem_of_getElem? (i := 56) rfl)) (by decide) (b := x) (fx118).exa (W := 0) (own_seq (W := 0) hZ (fun d hd => hw d ((by decide +kernel : ∀ d ∈ StrChars.Road.wordsEq, d ∈ tables_1) d hd)) (kI := 4) (hw _ (List.mem_of_getElem? (i := 7) rfl)) fx118 fx119 fx122 hzc n0 (by decide) (by decide)) e116 (pc := 147) (Ls := #[.val (.int p1), .val (.int p2), .val (.int p3), .val (.long j1), .second, .val (.int p5), .val (.long (4503599627370496 : Int64)), .second, .val (.int (p5 &&& (3 : Int32))), .val (.long q1), .second, .val (.int n), .val (.int ((p1 &&& (65535 : Int32)).toUInt32.toUInt16.toUInt32.toInt32)), .val (.int ((p2 &&& (65535 : Int32)).toUInt32.toUInt16.toUInt32.toInt32)), .val (.int ((p3 &&& (65535 : Int32)).toUInt32.toUInt16.toUInt32.toInt32)), .val (.ref x), .val (.ref y), .val (.ref a), .val (.ref x)]) (argsL := [(.ref y)]) (rest := []) (by rw [hml]; rfl) (lenOf own_pd7 rfl) rfl (hb hby at_147) (by decide) (by decide) ?_
    intro v123 T123 L123 X123 hQ123
    obtain ⟨rfl, N123, e123⟩ := hQ123
    show OGo p e below (T123.setTop (mkF m 150 #[.val (.int p1), .val (.int p2), .val (.int p3), .val (.long j1), .second, .val (.int p5), .val (.long (4503599627370496 : Int64)), .second, .val (.int (p5 &&& (3 : Int32))), .val (.long q1), .second, .val (.int n), .val (.int ((p1 &&& (65535 : Int32)).toUInt32.toUInt16.toUInt32.toInt32)), .val (.int ((p2 &&& (65535 : Int32)).toUInt32.toUInt16.toUInt32.toInt32)), .val (.int ((p3 &&& (65535 : Int32)).toUInt32.toUInt16.toUInt32.toInt32)), .val (.ref x), .val (.ref y), .val (.ref a), .val (.ref x)] [(.int (if (own_mk n ((p1 &&& (65535 : Int32)).toUInt32.toUInt16.toUInt32.toInt32) ((p2 &&& (65535 : Int32)).toUInt32.toUInt16.toUInt32.toInt32) ((p3 &&& (65535 : Int32)).toUInt32.toUInt16.toUInt32.toInt32)) = (own_mk n ((p1 &&& (65535 : Int32)).toUInt32.toUInt16.toUInt32.toInt32) ((p2 &&& (65535 : Int32)).toUInt32.toUInt16.toUInt32.toInt32) ((p3 &&& (65535 : Int32)).toUInt32.toUInt16.toUInt32.toInt32)) then (1 : Int32) else 0))])) _
    have Nc123 := Fr.app Nc116 N123
    refine OGo.step (fun _ kk => XS.ifNo X123.here hx rfl (hb hby at_150) rfl ((if0 _ _).trans (feq (by rw [if_pos rfl]; decide)).1) kk) ?_
    show OGo p e below (T123.setTop (mkF m 153 #[.val (.int p1), .val (.int p2), .val (.int p3), .val (.long j1), .second, .val (.int p5), .val (.long (4503599627370496 : Int64)), .second, .val (.int (p5 &&& (3 : Int32))), .val (.long q1), .second, .val (.int n), .val (.int ((p1 &&& (65535 : Int32)).toUInt32.toUInt16.toUInt32.toInt32)), .val (.int ((p2 &&& (65535 : Int32)).toUInt32.toUInt16.toUInt32.toInt32)), .val (.int ((p3 &&& (65535 : Int32)).toUInt32.toUInt16.toUInt32.toInt32)), .val (.ref x), .val (.ref y), .val (.ref a), .val (.ref x)] [])) _
    refine OGo.step (fun _ kk => XS.aload X123.here hx rfl (hb hby at_153) rfl rfl kk) ?_
    show OGo p e below (T123.setTop (mkF m 155 #[.val (.int p1), .val (.int p2), .val (.int p3), .val (.long j1), .second, .val (.int p5), .val (.long (4503599627370496 : Int64)), .second, .val (.int (p5 &&& (3 : Int32))), .val (.long q1), .second, .val (.int n), .val (.int ((p1 &&& (65535 : Int32)).toUInt32.toUInt16.toUInt32.toInt32)), .val (.int ((p2 &&& (65535 : Int32)).toUInt32.toUInt16.toUInt32.toInt32)), .val (.int ((p3 &&& (65535 : Int32)).toUInt32.toUInt16.toUInt32.toInt32)), .val (.ref x), .val (.ref y), .val (.ref a), .val (.ref x)] [(.ref a)])) _
    refine own_virtual X123 hx hZ (y := (⟨"com/example/lease/lease/model/AddToken", "keptMillis", "()J"⟩ : MethodName)) (z := (⟨"com/example/lease/lease/model/AddToken", "keptMillis", "()J"⟩ : MethodName)) hown (hw _ (List.mem_of_getElem? (i := 65) rfl)) (hw _ (List.mem_of_getElem? (i := 66) rfl)) (notFace_of_selects (args := #[]) (mvT hZ (hw _ (List.mem_of_getElem? (i := 68) rfl)))) (hw _ (List.mem_of_getElem? (i := 68) rfl)) (hw _ (List.mem_of_getElem? (i := 67) rfl)) (by decide) (hw _ (List.mem_of_getElem? (i := 69) rfl)) (hw _ (List.mem_of_getElem? (i := 30) rfl)) (b := a) Ea (W := 0) (own_kept l Z a0 hw [] a _ T115.heap n0 sz115 Fk) e123  (pc := 155) (Ls := #[.val (.int p1), .val (.int p2), .val (.int p3), .val (.long j1), .second, .val (.int p5), .val (.long (4503599627370496 : Int64)), .second, .val (.int (p5 &&& (3 : Int32))), .val (.long q1), .second, .val (.int n), .val (.int ((p1 &&& (65535 : Int32)).toUInt32.toUInt16.toUInt32.toInt32)), .val (.int ((p2 &&& (65535 : Int32)).toUInt32.toUInt16.toUInt32.toInt32)), .val (.int ((p3 &&& (65535 : Int32)).toUInt32.toUInt16.toUInt32.toInt32)), .val (.ref x), .val (.ref y), .val (.ref a), .val (.ref x)]) (argsL := []) (rest := []) (by rw [hml]; rfl) (lenOf own_pd8 rfl) rfl (hb hby at_155) (by decide) (by decide) (by decide) (by decide) ?_
    intro v124 T124 L124 X124 hQ124
    obtain ⟨rfl, N124, e124⟩ := hQ124
    show OGo p e below (T124.setTop (mkF m 158 #[.val (.int p1), .val (.int p2), .val (.int p3), .val (.long j1), .second, .val (.int p5), .val (.long (4503599627370496 : Int64)), .second, .val (.int (p5 &&& (3 : Int32))), .val (.long q1), .second, .val (.int n), .val (.int ((p1 &&& (65535 : Int32)).toUInt32.toUInt16.toUInt32.toInt32)), .val (.int ((p2 &&& (65535 : Int32)).toUInt32.toUInt16.toUInt32.toInt32)), .val (.int ((p3 &&& (65535 : Int32)).toUInt32.toUInt16.toUInt32.toInt32)), .val (.ref x), .val (.ref y), .val (.ref a), .val (.ref x)] [(.long q1)])) _
    have Nc124 := Fr.app Nc123 N124
    refine OGo.step (fun _ kk => XS.lload X124.here hx rfl (hb hby at_158) rfl kk) ?_
    show OGo p e below (T124.setTop (mkF m 160 #[.val (.int p1), .val (.int p2), .val (.int p3), .val (.long j1), .second, .val (.int p5), .val (.long (4503599627370496 : Int64)), .second, .val (.int (p5 &&& (3 : Int32))), .val (.long q1), .second, .val (.int n), .val (.int ((p1 &&& (65535 : Int32)).toUInt32.toUInt16.toUInt32.toInt32)), .val (.int ((p2 &&& (65535 : Int32)).toUInt32.toUInt16.toUInt32.toInt32)), .val (.int ((p3 &&& (65535 : Int32)).toUInt32.toUInt16.toUInt32.toInt32)), .val (.ref x), .val (.ref y), .val (.ref a), .val (.ref x)] [(.long q1), (.long q1)])) _
    refine OGo.step (fun _ kk => XS.lcmp X124.here hx rfl (hb hby at_160) rfl kk) ?_
    show OGo p e below (T124.setTop (mkF m 161 #[.val (.int p1), .val (.int p2), .val (.int p3), .val (.long j1), .second, .val (.int p5), .val (.long (4503599627370496 : Int64)), .second, .val (.int (p5 &&& (3 : Int32))), .val (.long q1), .second, .val (.int n), .val (.int ((p1 &&& (65535 : Int32)).toUInt32.toUInt16.toUInt32.toInt32)), .val (.int ((p2 &&& (65535 : Int32)).toUInt32.toUInt16.toUInt32.toInt32)), .val (.int ((p3 &&& (65535 : Int32)).toUInt32.toUInt16.toUInt32.toInt32)), .val (.ref x), .val (.ref y), .val (.ref a), .val (.ref x)] [(.int (lcmpW q1 q1))])) _
    refine OGo.step (fun _ kk => XS.ifNo X124.here hx rfl (hb hby at_161) rfl ((if0 _ _).trans (teq ((lw_eq _ _).mpr rfl)).2) kk) ?_
    show OGo p e below (T124.setTop (mkF m 164 #[.val (.int p1), .val (.int p2), .val (.int p3), .val (.long j1), .second, .val (.int p5), .val (.long (4503599627370496 : Int64)), .second, .val (.int (p5 &&& (3 : Int32))), .val (.long q1), .second, .val (.int n), .val (.int ((p1 &&& (65535 : Int32)).toUInt32.toUInt16.toUInt32.toInt32)), .val (.int ((p2 &&& (65535 : Int32)).toUInt32.toUInt16.toUInt32.toInt32)), .val (.int ((p3 &&& (65535 : Int32)).toUInt32.toUInt16.toUInt32.toInt32)), .val (.ref x), .val (.ref y), .val (.ref a), .val (.ref x)] [])) _
    refine OGo.step (fun _ kk => XS.aload X124.here hx rfl (hb hby at_164) rfl rfl kk) ?_
    show OGo p e below (T124.setTop (mkF m 166 #[.val (.int p1), .val (.int p2), .val (.int p3), .val (.long j1), .second, .val (.int p5), .val (.long (4503599627370496 : Int64)), .second, .val (.int (p5 &&& (3 : Int32))), .val (.long q1), .second, .val (.int n), .val (.int ((p1 &&& (65535 : Int32)).toUInt32.toUInt16.toUInt32.toInt32)), .val (.int ((p2 &&& (65535 : Int32)).toUInt32.toUInt16.toUInt32.toInt32)), .val (.int ((p3 &&& (65535 : Int32)).toUInt32.toUInt16.toUInt32.toInt32)), .val (.ref x), .val (.ref y), .val (.ref a), .val (.ref x)] [(.ref y)])) _
    refine own_virtualK X124 hx hZ (y := (⟨"java/lang/String", "length", "()I"⟩ : MethodName)) (z := (⟨"java/lang/String", "length", "()I"⟩ : MethodName)) hown (hw _ (List.mem_of_getElem? (i := 70) rfl)) (hw _ (List.mem_of_getElem? (i := 71) rfl)) (notFace_of_selects (args := #[]) (mvT hZ (hw _ (List.mem_of_getElem? (i := 73) rfl)))) (hw _ (List.mem_of_getElem? (i := 73) rfl)) (hw _ (List.mem_of_getElem? (i := 72) rfl)) (by decide) (b := y) (fx119).exa (W := 0) (own_slen (W := 0) hZ (fun d hd => hw d ((by decide +kernel : ∀ d ∈ StrChars.Road.wordsLen, d ∈ tables_1) d hd)) (kI := 4) (hw _ (List.mem_of_getElem? (i := 7) rfl)) fx119 fx122 hzc n0 (by decide) (by decide)) e124 (pc := 166) (Ls := #[.val (.int p1), .val (.int p2), .val (.int p3), .val (.long j1), .second, .val (.int p5), .val (.long (4503599627370496 : Int64)), .second, .val (.int (p5 &&& (3 : Int32))), .val (.long q1), .second, .val (.int n), .val (.int ((p1 &&& (65535 : Int32)).toUInt32.toUInt16.toUInt32.toInt32)), .val (.int ((p2 &&& (65535 : Int32)).toUInt32.toUInt16.toUInt32.toInt32)), .val (.int ((p3 &&& (65535 : Int32)).toUInt32.toUInt16.toUInt32.toInt32)), .val (.ref x), .val (.ref y), .val (.ref a), .val (.ref x)]) (argsL := []) (rest := []) (by rw [hml]; rfl) (lenOf own_pd9 rfl) rfl (hb hby at_166) (by decide) (by decide) ?_
    intro v125 T125 L125 X125 hQ125
    obtain ⟨rfl, N125, e125⟩ := hQ125
    show OGo p e below (T125.setTop (mkF m 169 #[.val (.int p1), .val (.int p2), .val (.int p3), .val (.long j1), .second, .val (.int p5), .val (.long (4503599627370496 : Int64)), .second, .val (.int (p5 &&& (3 : Int32))), .val (.long q1), .second, .val (.int n), .val (.int ((p1 &&& (65535 : Int32)).toUInt32.toUInt16.toUInt32.toInt32)), .val (.int ((p2 &&& (65535 : Int32)).toUInt32.toUInt16.toUInt32.toInt32)), .val (.int ((p3 &&& (65535 : Int32)).toUInt32.toUInt16.toUInt32.toInt32)), .val (.ref x), .val (.ref y), .val (.ref a), .val (.ref x)] [(.int (Int32.ofNat (own_mk n ((p1 &&& (65535 : Int32)).toUInt32.toUInt16.toUInt32.toInt32) ((p2 &&& (65535 : Int32)).toUInt32.toUInt16.toUInt32.toInt32) ((p3 &&& (65535 : Int32)).toUInt32.toUInt16.toUInt32.toInt32)).length))])) _
    have Nc125 := Fr.app Nc124 N125
    refine OGo.step (fun _ kk => XS.iload X125.here hx rfl (hb hby at_169) rfl kk) ?_
    show OGo p e below (T125.setTop (mkF m 171 #[.val (.int p1), .val (.int p2), .val (.int p3), .val (.long j1), .second, .val (.int p5), .val (.long (4503599627370496 : Int64)), .second, .val (.int (p5 &&& (3 : Int32))), .val (.long q1), .second, .val (.int n), .val (.int ((p1 &&& (65535 : Int32)).toUInt32.toUInt16.toUInt32.toInt32)), .val (.int ((p2 &&& (65535 : Int32)).toUInt32.toUInt16.toUInt32.toInt32)), .val (.int ((p3 &&& (65535 : Int32)).toUInt32.toUInt16.toUInt32.toInt32)), .val (.ref x), .val (.ref y), .val (.ref a), .val (.ref x)] [(.int n), (.int (Int32.ofNat (own_mk n ((p1 &&& (65535 : Int32)).toUInt32.toUInt16.toUInt32.toInt32) ((p2 &&& (65535 : Int32)).toUInt32.toUInt16.toUInt32.toInt32) ((p3 &&& (65535 : Int32)).toUInt32.toUInt16.toUInt32.toInt32)).length))])) _
    refine OGo.step (fun _ kk => XS.icmpNo X125.here hx rfl (hb hby at_171) rfl (teq (own_mk_len n _ _ _ h4)).2 kk) ?_
    show OGo p e below (T125.setTop (mkF m 174 #[.val (.int p1), .val (.int p2), .val (.int p3), .val (.long j1), .second, .val (.int p5), .val (.long (4503599627370496 : Int64)), .second, .val (.int (p5 &&& (3 : Int32))), .val (.long q1), .second, .val (.int n), .val (.int ((p1 &&& (65535 : Int32)).toUInt32.toUInt16.toUInt32.toInt32)), .val (.int ((p2 &&& (65535 : Int32)).toUInt32.toUInt16.toUInt32.toInt32)), .val (.int ((p3 &&& (65535 : Int32)).toUInt32.toUInt16.toUInt32.toInt32)), .val (.ref x), .val (.ref y), .val (.ref a), .val (.ref x)] [])) _
    refine OGo.step (fun _ kk => XS.iconst X125.here hx rfl (hb hby at_174) kk) ?_
    show OGo p e below (T125.setTop (mkF m 175 #[.val (.int p1), .val (.int p2), .val (.int p3), .val (.long j1), .second, .val (.int p5), .val (.long (4503599627370496 : Int64)), .second, .val (.int (p5 &&& (3 : Int32))), .val (.long q1), .second, .val (.int n), .val (.int ((p1 &&& (65535 : Int32)).toUInt32.toUInt16.toUInt32.toInt32)), .val (.int ((p2 &&& (65535 : Int32)).toUInt32.toUInt16.toUInt32.toInt32)), .val (.int ((p3 &&& (65535 : Int32)).toUInt32.toUInt16.toUInt32.toInt32)), .val (.ref x), .val (.ref y), .val (.ref a), .val (.ref x)] [(.int (1 : Int32))])) _
    refine OGo.step (fun _ kk => XS.goto X125.here hx rfl (pc0 := 175) (pc' := 179) rfl (hb hby at_175) (by decide) (by decide) kk) ?_
    show OGo p e below (T125.setTop (mkF m 179 #[.val (.int p1), .val (.int p2), .val (.int p3), .val (.long j1), .second, .val (.int p5), .val (.long (4503599627370496 : Int64)), .second, .val (.int (p5 &&& (3 : Int32))), .val (.long q1), .second, .val (.int n), .val (.int ((p1 &&& (65535 : Int32)).toUInt32.toUInt16.toUInt32.toInt32)), .val (.int ((p2 &&& (65535 : Int32)).toUInt32.toUInt16.toUInt32.toInt32)), .val (.int ((p3 &&& (65535 : Int32)).toUInt32.toUInt16.toUInt32.toInt32)), .val (.ref x), .val (.ref y), .val (.ref a), .val (.ref x)] [(.int (1 : Int32))])) _
    exact own_retNW X125 hx hlk hEL OW115 e125 hret (by simp) (hb hby at_179) ⟨by rw [own_nar1], Nc125⟩ (by decide) (by decide)
  by_cases hk0 : (p5 &&& (3 : Int32)) = (0 : Int32)
  · refine OGo.step (fun _ kk => XS.ifNo X0.here hx rfl (hb hby at_13) rfl ((if0 _ _).trans (teq hk0).2) kk) ?_
    show OGo p e below (s₁.setTop (mkF m 16 #[.val (.int p1), .val (.int p2), .val (.int p3), .val (.long j1), .second, .val (.int p5), .val (.long (4503599627370496 : Int64)), .second, .val (.int (p5 &&& (3 : Int32))), .unset, .unset, .unset, .unset, .unset, .unset, .unset, .unset, .unset, .unset] [])) _
    refine OGo.step (fun _ kk => XS.lconst X0.here hx rfl (hb hby at_16) kk) ?_
    show OGo p e below (s₁.setTop (mkF m 17 #[.val (.int p1), .val (.int p2), .val (.int p3), .val (.long j1), .second, .val (.int p5), .val (.long (4503599627370496 : Int64)), .second, .val (.int (p5 &&& (3 : Int32))), .unset, .unset, .unset, .unset, .unset, .unset, .unset, .unset, .unset, .unset] [(.long (1 : Int64))])) _
    refine OGo.step (fun _ kk => XS.lstore X0.here hx rfl (hb hby at_17) rfl (l' := #[.val (.int p1), .val (.int p2), .val (.int p3), .val (.long j1), .second, .val (.int p5), .val (.long (4503599627370496 : Int64)), .second, .val (.int (p5 &&& (3 : Int32))), .val (.long (1 : Int64)), .second, .unset, .unset, .unset, .unset, .unset, .unset, .unset, .unset]) rfl kk) ?_
    show OGo p e below (s₁.setTop (mkF m 19 #[.val (.int p1), .val (.int p2), .val (.int p3), .val (.long j1), .second, .val (.int p5), .val (.long (4503599627370496 : Int64)), .second, .val (.int (p5 &&& (3 : Int32))), .val (.long (1 : Int64)), .second, .unset, .unset, .unset, .unset, .unset, .unset, .unset, .unset] [])) _
    refine OGo.step (fun _ kk => XS.goto X0.here hx rfl (pc0 := 19) (pc' := 60) rfl (hb hby at_19) (by decide) (by decide) kk) ?_
    show OGo p e below (s₁.setTop (mkF m 60 #[.val (.int p1), .val (.int p2), .val (.int p3), .val (.long j1), .second, .val (.int p5), .val (.long (4503599627370496 : Int64)), .second, .val (.int (p5 &&& (3 : Int32))), .val (.long (1 : Int64)), .second, .unset, .unset, .unset, .unset, .unset, .unset, .unset, .unset] [])) _
    exact K60 _ (by decide) (by decide)
  · refine OGo.step (fun _ kk => XS.ifYes X0.here hx rfl (pc0 := 13) (pc' := 22) rfl (hb hby at_13) rfl ((if0 _ _).trans (feq hk0).2) (by decide) (by decide) kk) ?_
    show OGo p e below (s₁.setTop (mkF m 22 #[.val (.int p1), .val (.int p2), .val (.int p3), .val (.long j1), .second, .val (.int p5), .val (.long (4503599627370496 : Int64)), .second, .val (.int (p5 &&& (3 : Int32))), .unset, .unset, .unset, .unset, .unset, .unset, .unset, .unset, .unset, .unset] [])) _
    refine OGo.step (fun _ kk => XS.iload X0.here hx rfl (hb hby at_22) rfl kk) ?_
    show OGo p e below (s₁.setTop (mkF m 24 #[.val (.int p1), .val (.int p2), .val (.int p3), .val (.long j1), .second, .val (.int p5), .val (.long (4503599627370496 : Int64)), .second, .val (.int (p5 &&& (3 : Int32))), .unset, .unset, .unset, .unset, .unset, .unset, .unset, .unset, .unset, .unset] [(.int (p5 &&& (3 : Int32)))])) _
    refine OGo.step (fun _ kk => XS.iconst X0.here hx rfl (hb hby at_24) kk) ?_
    show OGo p e below (s₁.setTop (mkF m 25 #[.val (.int p1), .val (.int p2), .val (.int p3), .val (.long j1), .second, .val (.int p5), .val (.long (4503599627370496 : Int64)), .second, .val (.int (p5 &&& (3 : Int32))), .unset, .unset, .unset, .unset, .unset, .unset, .unset, .unset, .unset, .unset] [(.int (1 : Int32)), (.int (p5 &&& (3 : Int32)))])) _
    by_cases hk1 : (p5 &&& (3 : Int32)) = (1 : Int32)
    · refine OGo.step (fun _ kk => XS.icmpNo X0.here hx rfl (hb hby at_25) rfl (teq hk1).2 kk) ?_
      show OGo p e below (s₁.setTop (mkF m 28 #[.val (.int p1), .val (.int p2), .val (.int p3), .val (.long j1), .second, .val (.int p5), .val (.long (4503599627370496 : Int64)), .second, .val (.int (p5 &&& (3 : Int32))), .unset, .unset, .unset, .unset, .unset, .unset, .unset, .unset, .unset, .unset] [])) _
      refine OGo.step (fun _ kk => XS.lload X0.here hx rfl (hb hby at_28) rfl kk) ?_
      show OGo p e below (s₁.setTop (mkF m 30 #[.val (.int p1), .val (.int p2), .val (.int p3), .val (.long j1), .second, .val (.int p5), .val (.long (4503599627370496 : Int64)), .second, .val (.int (p5 &&& (3 : Int32))), .unset, .unset, .unset, .unset, .unset, .unset, .unset, .unset, .unset, .unset] [(.long (4503599627370496 : Int64))])) _
      refine OGo.step (fun _ kk => XS.lstore X0.here hx rfl (hb hby at_30) rfl (l' := #[.val (.int p1), .val (.int p2), .val (.int p3), .val (.long j1), .second, .val (.int p5), .val (.long (4503599627370496 : Int64)), .second, .val (.int (p5 &&& (3 : Int32))), .val (.long (4503599627370496 : Int64)), .second, .unset, .unset, .unset, .unset, .unset, .unset, .unset, .unset]) rfl kk) ?_
      show OGo p e below (s₁.setTop (mkF m 32 #[.val (.int p1), .val (.int p2), .val (.int p3), .val (.long j1), .second, .val (.int p5), .val (.long (4503599627370496 : Int64)), .second, .val (.int (p5 &&& (3 : Int32))), .val (.long (4503599627370496 : Int64)), .second, .unset, .unset, .unset, .unset, .unset, .unset, .unset, .unset] [])) _
      refine OGo.step (fun _ kk => XS.goto X0.here hx rfl (pc0 := 32) (pc' := 60) rfl (hb hby at_32) (by decide) (by decide) kk) ?_
      show OGo p e below (s₁.setTop (mkF m 60 #[.val (.int p1), .val (.int p2), .val (.int p3), .val (.long j1), .second, .val (.int p5), .val (.long (4503599627370496 : Int64)), .second, .val (.int (p5 &&& (3 : Int32))), .val (.long (4503599627370496 : Int64)), .second, .unset, .unset, .unset, .unset, .unset, .unset, .unset, .unset] [])) _
      exact K60 _ (by decide) (by decide)
    · refine OGo.step (fun _ kk => XS.icmpYes X0.here hx rfl (pc0 := 25) (pc' := 35) rfl (hb hby at_25) rfl (feq hk1).2 (by decide) (by decide) kk) ?_
      show OGo p e below (s₁.setTop (mkF m 35 #[.val (.int p1), .val (.int p2), .val (.int p3), .val (.long j1), .second, .val (.int p5), .val (.long (4503599627370496 : Int64)), .second, .val (.int (p5 &&& (3 : Int32))), .unset, .unset, .unset, .unset, .unset, .unset, .unset, .unset, .unset, .unset] [])) _
      refine OGo.step (fun _ kk => XS.iload X0.here hx rfl (hb hby at_35) rfl kk) ?_
      show OGo p e below (s₁.setTop (mkF m 37 #[.val (.int p1), .val (.int p2), .val (.int p3), .val (.long j1), .second, .val (.int p5), .val (.long (4503599627370496 : Int64)), .second, .val (.int (p5 &&& (3 : Int32))), .unset, .unset, .unset, .unset, .unset, .unset, .unset, .unset, .unset, .unset] [(.int (p5 &&& (3 : Int32)))])) _
      refine OGo.step (fun _ kk => XS.iconst X0.here hx rfl (hb hby at_37) kk) ?_
      show OGo p e below (s₁.setTop (mkF m 38 #[.val (.int p1), .val (.int p2), .val (.int p3), .val (.long j1), .second, .val (.int p5), .val (.long (4503599627370496 : Int64)), .second, .val (.int (p5 &&& (3 : Int32))), .unset, .unset, .unset, .unset, .unset, .unset, .unset, .unset, .unset, .unset] [(.int (2 : Int32)), (.int (p5 &&& (3 : Int32)))])) _
      by_cases hk2 : (p5 &&& (3 : Int32)) = (2 : Int32)
      · refine OGo.step (fun _ kk => XS.icmpNo X0.here hx rfl (hb hby at_38) rfl (teq hk2).2 kk) ?_
        show OGo p e below (s₁.setTop (mkF m 41 #[.val (.int p1), .val (.int p2), .val (.int p3), .val (.long j1), .second, .val (.int p5), .val (.long (4503599627370496 : Int64)), .second, .val (.int (p5 &&& (3 : Int32))), .unset, .unset, .unset, .unset, .unset, .unset, .unset, .unset, .unset, .unset] [])) _
        refine OGo.step (fun _ kk => XS.lload X0.here hx rfl (hb hby at_41) rfl kk) ?_
        show OGo p e below (s₁.setTop (mkF m 43 #[.val (.int p1), .val (.int p2), .val (.int p3), .val (.long j1), .second, .val (.int p5), .val (.long (4503599627370496 : Int64)), .second, .val (.int (p5 &&& (3 : Int32))), .unset, .unset, .unset, .unset, .unset, .unset, .unset, .unset, .unset, .unset] [(.long (4503599627370496 : Int64))])) _
        refine OGo.step (fun _ kk => XS.lconst X0.here hx rfl (hb hby at_43) kk) ?_
        show OGo p e below (s₁.setTop (mkF m 44 #[.val (.int p1), .val (.int p2), .val (.int p3), .val (.long j1), .second, .val (.int p5), .val (.long (4503599627370496 : Int64)), .second, .val (.int (p5 &&& (3 : Int32))), .unset, .unset, .unset, .unset, .unset, .unset, .unset, .unset, .unset, .unset] [(.long (1 : Int64)), (.long (4503599627370496 : Int64))])) _
        refine OGo.step (fun _ kk => XS.lsub X0.here hx rfl (hb hby at_44) rfl kk) ?_
        show OGo p e below (s₁.setTop (mkF m 45 #[.val (.int p1), .val (.int p2), .val (.int p3), .val (.long j1), .second, .val (.int p5), .val (.long (4503599627370496 : Int64)), .second, .val (.int (p5 &&& (3 : Int32))), .unset, .unset, .unset, .unset, .unset, .unset, .unset, .unset, .unset, .unset] [(.long ((4503599627370496 : Int64) - (1 : Int64)))])) _
        refine OGo.step (fun _ kk => XS.lstore X0.here hx rfl (hb hby at_45) rfl (l' := #[.val (.int p1), .val (.int p2), .val (.int p3), .val (.long j1), .second, .val (.int p5), .val (.long (4503599627370496 : Int64)), .second, .val (.int (p5 &&& (3 : Int32))), .val (.long ((4503599627370496 : Int64) - (1 : Int64))), .second, .unset, .unset, .unset, .unset, .unset, .unset, .unset, .unset]) rfl kk) ?_
        show OGo p e below (s₁.setTop (mkF m 47 #[.val (.int p1), .val (.int p2), .val (.int p3), .val (.long j1), .second, .val (.int p5), .val (.long (4503599627370496 : Int64)), .second, .val (.int (p5 &&& (3 : Int32))), .val (.long ((4503599627370496 : Int64) - (1 : Int64))), .second, .unset, .unset, .unset, .unset, .unset, .unset, .unset, .unset] [])) _
        refine OGo.step (fun _ kk => XS.goto X0.here hx rfl (pc0 := 47) (pc' := 60) rfl (hb hby at_47) (by decide) (by decide) kk) ?_
        show OGo p e below (s₁.setTop (mkF m 60 #[.val (.int p1), .val (.int p2), .val (.int p3), .val (.long j1), .second, .val (.int p5), .val (.long (4503599627370496 : Int64)), .second, .val (.int (p5 &&& (3 : Int32))), .val (.long ((4503599627370496 : Int64) - (1 : Int64))), .second, .unset, .unset, .unset, .unset, .unset, .unset, .unset, .unset] [])) _
        exact K60 _ (by decide) (by decide)
      · refine OGo.step (fun _ kk => XS.icmpYes X0.here hx rfl (pc0 := 38) (pc' := 50) rfl (hb hby at_38) rfl (feq hk2).2 (by decide) (by decide) kk) ?_
        show OGo p e below (s₁.setTop (mkF m 50 #[.val (.int p1), .val (.int p2), .val (.int p3), .val (.long j1), .second, .val (.int p5), .val (.long (4503599627370496 : Int64)), .second, .val (.int (p5 &&& (3 : Int32))), .unset, .unset, .unset, .unset, .unset, .unset, .unset, .unset, .unset, .unset] [])) _
        refine OGo.step (fun _ kk => XS.lloadN X0.here hx rfl (hb hby at_50) rfl kk) ?_
        show OGo p e below (s₁.setTop (mkF m 51 #[.val (.int p1), .val (.int p2), .val (.int p3), .val (.long j1), .second, .val (.int p5), .val (.long (4503599627370496 : Int64)), .second, .val (.int (p5 &&& (3 : Int32))), .unset, .unset, .unset, .unset, .unset, .unset, .unset, .unset, .unset, .unset] [(.long j1)])) _
        refine OGo.step (fun _ kk => XS.lload X0.here hx rfl (hb hby at_51) rfl kk) ?_
        show OGo p e below (s₁.setTop (mkF m 53 #[.val (.int p1), .val (.int p2), .val (.int p3), .val (.long j1), .second, .val (.int p5), .val (.long (4503599627370496 : Int64)), .second, .val (.int (p5 &&& (3 : Int32))), .unset, .unset, .unset, .unset, .unset, .unset, .unset, .unset, .unset, .unset] [(.long (4503599627370496 : Int64)), (.long j1)])) _
        refine OGo.step (fun _ kk => XS.lconst X0.here hx rfl (hb hby at_53) kk) ?_
        show OGo p e below (s₁.setTop (mkF m 54 #[.val (.int p1), .val (.int p2), .val (.int p3), .val (.long j1), .second, .val (.int p5), .val (.long (4503599627370496 : Int64)), .second, .val (.int (p5 &&& (3 : Int32))), .unset, .unset, .unset, .unset, .unset, .unset, .unset, .unset, .unset, .unset] [(.long (1 : Int64)), (.long (4503599627370496 : Int64)), (.long j1)])) _
        refine OGo.step (fun _ kk => XS.lsub X0.here hx rfl (hb hby at_54) rfl kk) ?_
        show OGo p e below (s₁.setTop (mkF m 55 #[.val (.int p1), .val (.int p2), .val (.int p3), .val (.long j1), .second, .val (.int p5), .val (.long (4503599627370496 : Int64)), .second, .val (.int (p5 &&& (3 : Int32))), .unset, .unset, .unset, .unset, .unset, .unset, .unset, .unset, .unset, .unset] [(.long ((4503599627370496 : Int64) - (1 : Int64))), (.long j1)])) _
        refine OGo.step (fun _ kk => XS.land X0.here hx rfl (hb hby at_55) rfl kk) ?_
        show OGo p e below (s₁.setTop (mkF m 56 #[.val (.int p1), .val (.int p2), .val (.int p3), .val (.long j1), .second, .val (.int p5), .val (.long (4503599627370496 : Int64)), .second, .val (.int (p5 &&& (3 : Int32))), .unset, .unset, .unset, .unset, .unset, .unset, .unset, .unset, .unset, .unset] [(.long (j1 &&& ((4503599627370496 : Int64) - (1 : Int64))))])) _
        refine OGo.step (fun _ kk => XS.lconst X0.here hx rfl (hb hby at_56) kk) ?_
        show OGo p e below (s₁.setTop (mkF m 57 #[.val (.int p1), .val (.int p2), .val (.int p3), .val (.long j1), .second, .val (.int p5), .val (.long (4503599627370496 : Int64)), .second, .val (.int (p5 &&& (3 : Int32))), .unset, .unset, .unset, .unset, .unset, .unset, .unset, .unset, .unset, .unset] [(.long (1 : Int64)), (.long (j1 &&& ((4503599627370496 : Int64) - (1 : Int64))))])) _
        refine OGo.step (fun _ kk => XS.ladd X0.here hx rfl (hb hby at_57) rfl kk) ?_
        show OGo p e below (s₁.setTop (mkF m 58 #[.val (.int p1), .val (.int p2), .val (.int p3), .val (.long j1), .second, .val (.int p5), .val (.long (4503599627370496 : Int64)), .second, .val (.int (p5 &&& (3 : Int32))), .unset, .unset, .unset, .unset, .unset, .unset, .unset, .unset, .unset, .unset] [(.long ((j1 &&& ((4503599627370496 : Int64) - (1 : Int64))) + (1 : Int64)))])) _
        refine OGo.step (fun _ kk => XS.lstore X0.here hx rfl (hb hby at_58) rfl (l' := #[.val (.int p1), .val (.int p2), .val (.int p3), .val (.long j1), .second, .val (.int p5), .val (.long (4503599627370496 : Int64)), .second, .val (.int (p5 &&& (3 : Int32))), .val (.long ((j1 &&& ((4503599627370496 : Int64) - (1 : Int64))) + (1 : Int64))), .second, .unset, .unset, .unset, .unset, .unset, .unset, .unset, .unset]) rfl kk) ?_
        show OGo p e below (s₁.setTop (mkF m 60 #[.val (.int p1), .val (.int p2), .val (.int p3), .val (.long j1), .second, .val (.int p5), .val (.long (4503599627370496 : Int64)), .second, .val (.int (p5 &&& (3 : Int32))), .val (.long ((j1 &&& ((4503599627370496 : Int64) - (1 : Int64))) + (1 : Int64))), .second, .unset, .unset, .unset, .unset, .unset, .unset, .unset, .unset] [])) _
        exact K60 _ (own_rng _).1 (own_rng _).2

set_option maxRecDepth 65536 in
set_option maxHeartbeats 40000000 in
theorem comes_1 {Post : Tables → Env → Array Value → State → Outcome → State → Prop} (hpost : ∀ tb e args s v u, (limb_1_1.after args s (.returned v) u = true ∧ limb_1_2.after args s (.returned v) u = true ∧ True) → ReturnedEndW s (.returned v) u (Jvm.fieldLocs frame_1_writes args s ++ Jvm.arrayLocs frame_1_arrays args s ++ Jvm.staticLocs frame_1_statics s) 32 2240 → Post tb e args s (.returned v) u) :
    ArmFor flags0 classFile x code maxLocals ret World_1 tables_1 room_1 Calls_1 rest_1 Pre_1 Post := by
  intro l hfl _ _ p e ha hc hk s m args below hf hA hF happ hP
  obtain ⟨hcalls, hrest, hpre⟩ := hP
  obtain ⟨-, -, -, hnamed, -, -, -, hat⟩ := (Spec.applies_iff hf).mp happ
  obtain ⟨hg, hn⟩ := and_e (Cond.before_iff.mp (show (Jvm.Cond.and given_1 narrow_1).before args s = true from hpre))
  obtain ⟨k126, k126'⟩ := and_e hg
  obtain ⟨k127, k127'⟩ := and_e k126'
  obtain ⟨k128, k128'⟩ := and_e k127'
  obtain ⟨k129, k129'⟩ := and_e k128'
  obtain ⟨k130, k130'⟩ := and_e k129'
  obtain ⟨w0_, w1_, w2_, w3_, w4_, rfl⟩ : ∃ w0_ w1_ w2_ w3_ w4_ : Value, args = #[w0_, w1_, w2_, w3_, w4_] := by
    have hs : args.size = 5 := by simpa [Cond.value, given_1] using k126
    obtain ⟨L⟩ := args
    match L, hs with
    | [w0_, w1_, w2_, w3_, w4_], _ => exact ⟨w0_, w1_, w2_, w3_, w4_, rfl⟩
  have hw := fun d (hd : d ∈ tables_1) => atoms_spec (ws := Jvm.Cond.code x code maxLocals ret :: tables_1) hat d (List.mem_cons_of_mem _ hd)
  have hfit : Fit s := fun {y c} hc i hi => by
    obtain ⟨ha, rfl⟩ := Array.getElem?_eq_some_iff.mp hc
    have q := List.all_eq_true.mp ((Array.all_eq_true_iff_forall_mem.mp hF) _ (Array.getElem_mem ha)) i (List.mem_range.mpr hi)
    simpa [Array.getElem?_eq_getElem hi] using q
  obtain ⟨hsets, hown0⟩ := atoms_of _ (rest_1_c_eq ▸ (show rest_1_c.before _ s = true from hrest))
  obtain ⟨i0, ei0⟩ := is_v k127
  obtain rfl : w0_ = (.int i0) := Option.some.inj ei0
  obtain ⟨i1, ei1⟩ := is_v k128
  obtain rfl : w1_ = (.int i1) := Option.some.inj ei1
  obtain ⟨i2, ei2⟩ := is_v k129
  obtain rfl : w2_ = (.int i2) := Option.some.inj ei2
  obtain ⟨i3, ei3⟩ := isL_v k130
  obtain rfl : w3_ = (.long i3) := Option.some.inj ei3
  obtain ⟨i4, ei4⟩ := is_v k130'
  obtain rfl : w4_ = (.int i4) := Option.some.inj ei4
  obtain ⟨zc, ezc⟩ := is_v (Cond.before_iff.mp (hsets _ (List.mem_of_getElem? (i := 1) rfl)))
  have SC0 := Sta.start ezc (Or.inl (hsets _ (List.mem_of_getElem? (i := 0) rfl)))
  have hzc : ¬ zc = 0 := gotF (Cond.eq_ints ezc (Term.int_eval (0))) (not_v (Cond.before_iff.mp (hsets _ (List.mem_of_getElem? (i := 2) rfl))))
  have SA0 := Sta.start (own_eqv (Cond.before_iff.mp (hsets _ (List.mem_of_getElem? (i := 12) rfl))) rfl) (Or.inl (hsets _ (List.mem_of_getElem? (i := 11) rfl)))
  have SH0 := Sta.start (own_eqv (Cond.before_iff.mp (hsets _ (List.mem_of_getElem? (i := 15) rfl))) rfl) (Or.inl (hsets _ (List.mem_of_getElem? (i := 14) rfl)))
  have SL0 := Sta.start (own_eqv (Cond.before_iff.mp (hsets _ (List.mem_of_getElem? (i := 18) rfl))) rfl) (Or.inl (hsets _ (List.mem_of_getElem? (i := 17) rfl)))
  have hch : CHv s consts_1 s.vm s.heap := CHv.start (own_hEL hw) (fun p hp => hcalls.1 p hp) (hsets _ (List.mem_of_getElem? (i := 2) rfl)) (own_wS hw _ (by simp [Bundle.stringAtoms])) (own_wS hw _ (by simp [Bundle.stringAtoms, Bundle.sN]))
  obtain ⟨n, o, h1, h2, h3, _, L, rfl, ⟨rfl, N⟩, -, hq⟩ := own_rm0 l s _ hw tables_1 i0 i1 i2 i3 i4 zc s.heap s.heap.size (Nat.le_refl _) SC0 hzc SA0 SH0 SL0 p e ha hc hk s m _ below hf ((Spec.applies_iff_loose hf).mp happ).1 ⟨rfl, State.Warmed39.refl s, rfl, hch⟩ trivial
  exact ⟨n, _, h1, h2, h3, hpost _ _ _ _ _ _ ⟨Cond.after_iff.mpr rfl, Cond.after_iff.mpr (eq_i res_at (Term.int_eval (1)) rfl), trivial⟩ ⟨hq.1, hq.2.1, hq.2.2.1, (hq.2.2.2.sift fun y hy => Or.inr (N y hy)).mono (by decide) (by decide)⟩⟩
theorem main_1_1 : Claimed_1_1 := comes_1 fun _ _ _ _ _ _ h hF => ⟨h.1, hF⟩
theorem main_1_2 : Claimed_1_2 := comes_1 fun _ _ _ _ _ _ h hF => ⟨h.2.1, hF⟩
end Jvm.Pilot.@@N@@
namespace Jvm.Pilot.@@N@@
open Jvm Jvm.ClassFile Sem Op Lib Jvm.Free Jvm.Stand Jvm.Pilot.@@N@@.Jvm.D
/-! MADE BY PROGRAM (witnessworld.py) out of the Statement's table words and the real class files: 21 classes; the members and pool entries that the words name. The judged class is class 1, her method 1. -/
namespace start1
open Jvm.ClassFile
def u (s : String) : CpInfo := .utf8 (stringToUtf16 s)
/-- a pool by its gaps: so many unusable entries, then the entry; so many at the end -/
def gap : Nat → List CpInfo → List CpInfo
  | 0, r => r
  | n + 1, r => .unusable :: gap n r
def poolList (es : List (Nat × CpInfo)) (last : Nat) : List CpInfo := es.foldr (fun e r => gap e.1 (e.2 :: r)) (gap last [])
def pool (es : List (Nat × CpInfo)) (last : Nat) : Array CpInfo := ⟨poolList es last⟩
def fileOf (pool : Array CpInfo) (this : Nat) (attrs : Array Attribute := #[]) (ms : Array MethodInfo := #[]) (fl : Nat := 33) (sup : Nat := 0) (ifs : Array Nat := #[]) (fds : Array FieldInfo := #[]) : ClassFile where
  minorVersion := 0
  majorVersion := 65
  constantPool := pool
  accessFlags := fl
  thisClass := this
  superClass := sup
  interfaces := ifs
  fields := fds
  methods := ms
  attributes := attrs
def plain (name : String) (sup : Option ClassId) : Class where
  name := name
  kind := .ordinary
  loader := none
  accessFlags := 33
  super := sup
  interfaces := #[]
  cf := none
  fields := #[]
  methods := #[]
  instanceTypes := #[]
  staticTypes := #[]
  resolved := #[]
  callSites := []
  init := .initialized
  statics := none
  mirror := none

def pool0 : Array CpInfo := pool [(5, u "<init>"), (0, u "()V"), (1, .class_ 10), (1, u "java/lang/Object")] 113

def k0c0 : Code := { maxStack := 0, maxLocals := 1, code := object_method_1_code, exceptionTable := #[], attributes := #[] }
def k0m0 : Method := { name := "<init>", desc := "()V", sig := { parameters := [], returnType := none }, accessFlags := 1, code := some k0c0 }
/-- java/lang/Object -/
def k0 : Class := { plain "java/lang/Object" none with
  accessFlags := 33
  interfaces := #[]
  cf := some (fileOf pool0 8 #[] #[{ accessFlags := 1, nameIndex := 5, descriptorIndex := 6, attributes := #[] }] 33 0 #[] #[])
  fields := #[]
  methods := #[k0m0]
  instanceTypes := #[]
  staticTypes := #[]
  resolved := Array.replicate 124 none
  statics := none }

def pool1 : Array CpInfo := pool [(2, .class_ 4), (1, u "java/lang/Object"), (0, u "<init>"), (0, u "()V"), (2, .long 4503599627370496), (1, .integer 65535), (0, .methodref 13 14), (0, .class_ 15), (0, .nameAndType 16 17), (0, u "com/example/lease/lease/model/AddTokenKeptForPinLaw"), (0, u "make"), (0, u "(ICCC)Ljava/lang/String;"), (0, .methodref 19 20), (0, .class_ 21), (0, .nameAndType 22 23), (0, u "com/example/lease/lease/model/AddToken"), (0, u "keptFor"), (0, u "(Ljava/lang/String;J)Lcom/example/lease/lease/model/AddToken;"), (0, .methodref 19 25), (0, .nameAndType 26 27), (0, u "text"), (0, u "()Ljava/lang/String;"), (0, .methodref 29 30), (0, .class_ 31), (0, .nameAndType 32 33), (0, u "java/lang/String"), (0, u "equals"), (0, u "(Ljava/lang/Object;)Z"), (0, .methodref 19 35), (0, .nameAndType 36 37), (0, u "keptMillis"), (0, u "()J"), (0, .methodref 29 39), (0, .nameAndType 40 41), (0, u "length"), (0, u "()I"), (0, .methodref 29 43), (0, .nameAndType 5 44), (0, u "([C)V"), (0, .methodref 29 46), (0, .nameAndType 47 48), (0, u "valueOf"), (0, u "(C)Ljava/lang/String;"), (2, u "law"), (0, u "(IIIJI)Z")] 3

def k1m0 : Method := { name := "<init>", desc := "()V", sig := { parameters := [], returnType := none }, accessFlags := 1, code := none }
def k1c1 : Code := { maxStack := 6, maxLocals := 19, code := code, exceptionTable := #[], attributes := #[] }
def k1m1 : Method := { name := "law", desc := "(IIIJI)Z", sig := { parameters := [.int, .int, .int, .long, .int], returnType := some .boolean }, accessFlags := 9, code := some k1c1 }
def k1c2 : Code := { maxStack := 3, maxLocals := 5, code := method_3_code, exceptionTable := #[], attributes := #[] }
def k1m2 : Method := { name := "make", desc := "(ICCC)Ljava/lang/String;", sig := { parameters := [.int, .char, .char, .char], returnType := some (.object "java/lang/String") }, accessFlags := 10, code := some k1c2 }
/-- com/example/lease/lease/model/AddTokenKeptForPinLaw -/
def k1 : Class := { plain "com/example/lease/lease/model/AddTokenKeptForPinLaw" (some 0) with
  accessFlags := 49
  interfaces := #[]
  cf := some (fileOf pool1 13 #[] #[{ accessFlags := 1, nameIndex := 5, descriptorIndex := 6, attributes := #[] }, { accessFlags := 9, nameIndex := 51, descriptorIndex := 52, attributes := #[] }, { accessFlags := 10, nameIndex := 16, descriptorIndex := 17, attributes := #[] }] 49 2 #[] #[])
  fields := #[]
  methods := #[k1m0, k1m1, k1m2]
  instanceTypes := #[]
  staticTypes := #[]
  resolved := Array.replicate 56 none
  statics := none }

def pool2 : Array CpInfo := pool [(1, .class_ 2), (0, u "java/io/Serializable"), (0, .class_ 4), (0, u "java/lang/Object")] 2

/-- java/io/Serializable -/
def k2 : Class := { plain "java/io/Serializable" (some 0) with
  accessFlags := 1537
  interfaces := #[]
  cf := some (fileOf pool2 1 #[] #[] 1537 3 #[] #[])
  fields := #[]
  methods := #[]
  instanceTypes := #[]
  staticTypes := #[]
  resolved := Array.replicate 7 none
  statics := none }

def pool3 : Array CpInfo := pool [(1, .class_ 2), (0, u "java/lang/Comparable"), (0, .class_ 4), (0, u "java/lang/Object")] 7

/-- java/lang/Comparable -/
def k3 : Class := { plain "java/lang/Comparable" (some 0) with
  accessFlags := 1537
  interfaces := #[]
  cf := some (fileOf pool3 1 #[] #[] 1537 3 #[] #[])
  fields := #[]
  methods := #[]
  instanceTypes := #[]
  staticTypes := #[]
  resolved := Array.replicate 12 none
  statics := none }

def pool4 : Array CpInfo := pool [(2, .class_ 4), (1, u "java/lang/CharSequence"), (42, .class_ 48), (0, u "java/lang/CharSequence$1CodePointIterator"), (10, .class_ 60), (0, u "java/lang/CharSequence$1CharIterator"), (5, .class_ 67), (0, u "java/lang/Object")] 63

/-- java/lang/CharSequence -/
def k4 : Class := { plain "java/lang/CharSequence" (some 0) with
  accessFlags := 1537
  interfaces := #[]
  cf := some (fileOf pool4 2 #[.nestMembers #[47, 59]] #[] 1537 66 #[] #[])
  fields := #[]
  methods := #[]
  instanceTypes := #[]
  staticTypes := #[]
  resolved := Array.replicate 131 none
  statics := none }

def pool5 : Array CpInfo := pool [(1, .class_ 2), (0, u "java/lang/constant/Constable"), (0, .class_ 4), (0, u "java/lang/Object")] 6

/-- java/lang/constant/Constable -/
def k5 : Class := { plain "java/lang/constant/Constable" (some 0) with
  accessFlags := 1537
  interfaces := #[]
  cf := some (fileOf pool5 1 #[] #[] 1537 3 #[] #[])
  fields := #[]
  methods := #[]
  instanceTypes := #[]
  staticTypes := #[]
  resolved := Array.replicate 11 none
  statics := none }

def pool6 : Array CpInfo := pool [(1, .class_ 2), (0, u "java/lang/constant/ConstantDesc"), (0, .class_ 4), (0, u "java/lang/Object")] 32

/-- java/lang/constant/ConstantDesc -/
def k6 : Class := { plain "java/lang/constant/ConstantDesc" (some 0) with
  accessFlags := 1537
  interfaces := #[]
  cf := some (fileOf pool6 1 #[] #[] 1537 3 #[] #[])
  fields := #[]
  methods := #[]
  instanceTypes := #[]
  staticTypes := #[]
  resolved := Array.replicate 37 none
  statics := none }

def pool7 : Array CpInfo := pool [(1, .methodref 2 3), (0, .class_ 4), (0, .nameAndType 5 6), (0, u "java/lang/Object"), (0, u "<init>"), (0, u "()V"), (0, .string 8), (0, u ""), (0, .fieldref 10 11), (0, .class_ 12), (0, .nameAndType 13 14), (0, u "java/lang/String"), (0, u "value"), (0, u "[B"), (0, .fieldref 10 16), (0, .nameAndType 17 18), (0, u "coder"), (0, u "B"), (2, u "hash"), (0, u "I"), (2, u "hashIsZero"), (0, u "Z"), (0, .methodref 10 28), (0, .nameAndType 5 29), (0, u "([CIILjava/lang/Void;)V"), (8, .fieldref 10 39), (0, .nameAndType 40 26), (0, u "COMPACT_STRINGS"), (1, .class_ 44), (1, u "java/lang/StringUTF16"), (0, u "compress"), (1, .methodref 42 48), (0, .nameAndType 49 50), (0, u "coderFromArrayLen"), (0, u "([BI)B"), (2, u "toBytes"), (53, .class_ 109), (1, u "java/lang/StringLatin1"), (67, .methodref 42 178), (0, .nameAndType 45 179), (0, u "([CII)[B"), (29, .methodref 10 210), (0, .nameAndType 5 211), (0, u "([BB)V"), (122, u "()I"), (0, .methodref 10 336), (0, .nameAndType 17 337), (0, u "()B"), (31, u "(C)Z"), (137, u "length"), (33, .methodref 107 542), (0, .nameAndType 543 544), (0, u "equals"), (0, u "([B[B)Z"), (28, u "(Ljava/lang/Object;)Z"), (1, .class_ 576), (0, u "java/lang/CharSequence"), (22, u "CASE_INSENSITIVE_ORDER"), (0, u "Ljava/util/Comparator;"), (181, u "valueOf"), (0, u "(C)Ljava/lang/String;"), (226, u "([C)V"), (4, .methodref 107 1016), (0, .nameAndType 1017 369), (0, u "canEncode"), (0, .methodref 107 1019), (0, .nameAndType 53 1020), (0, u "(C)[B"), (0, .methodref 42 1019), (79, u "serialPersistentFields"), (0, u "[Ljava/io/ObjectStreamField;"), (0, .class_ 1104), (0, u "java/lang/String$CaseInsensitiveComparator"), (1, .class_ 1107), (0, u "java/io/Serializable"), (0, .class_ 1109), (0, u "java/lang/Comparable"), (0, .class_ 1111), (0, u "java/lang/constant/Constable"), (0, .class_ 1113), (0, u "java/lang/constant/ConstantDesc"), (2, u "serialVersionUID"), (0, u "J"), (3, u "REPL"), (0, u "C"), (2, u "LATIN1"), (1, u "UTF16")] 323

def k7m0 : Method := { name := "<init>", desc := "()V", sig := { parameters := [], returnType := none }, accessFlags := 1, code := none }
def k7c1 : Code := { maxStack := 5, maxLocals := 2, code := jdk_42_method_3_code, exceptionTable := #[], attributes := #[] }
def k7m1 : Method := { name := "<init>", desc := "([C)V", sig := { parameters := [(.array .char)], returnType := none }, accessFlags := 1, code := some k7c1 }
def k7c2 : Code := { maxStack := 2, maxLocals := 1, code := jdk_42_method_54_code, exceptionTable := #[], attributes := #[] }
def k7m2 : Method := { name := "length", desc := "()I", sig := { parameters := [], returnType := some .int }, accessFlags := 1, code := some k7c2 }
def k7c3 : Code := { maxStack := 2, maxLocals := 3, code := jdk_42_method_66_code, exceptionTable := #[], attributes := #[] }
def k7m3 : Method := { name := "equals", desc := "(Ljava/lang/Object;)Z", sig := { parameters := [(.object "java/lang/Object")], returnType := some .boolean }, accessFlags := 1, code := some k7c3 }
def k7c4 : Code := { maxStack := 4, maxLocals := 1, code := jdk_42_method_139_code, exceptionTable := #[], attributes := #[] }
def k7m4 : Method := { name := "valueOf", desc := "(C)Ljava/lang/String;", sig := { parameters := [.char], returnType := some (.object "java/lang/String") }, accessFlags := 9, code := some k7c4 }
def k7c5 : Code := { maxStack := 4, maxLocals := 6, code := jdk_42_method_149_code, exceptionTable := #[], attributes := #[] }
def k7m5 : Method := { name := "<init>", desc := "([CIILjava/lang/Void;)V", sig := { parameters := [(.array .char), .int, .int, (.object "java/lang/Void")], returnType := none }, accessFlags := 2, code := some k7c5 }
def k7c6 : Code := { maxStack := 2, maxLocals := 3, code := jdk_42_method_151_code, exceptionTable := #[], attributes := #[] }
def k7m6 : Method := { name := "<init>", desc := "([BB)V", sig := { parameters := [(.array .byte), .byte], returnType := none }, accessFlags := 0, code := some k7c6 }
def k7c7 : Code := { maxStack := 1, maxLocals := 1, code := jdk_42_method_152_code, exceptionTable := #[], attributes := #[] }
def k7m7 : Method := { name := "coder", desc := "()B", sig := { parameters := [], returnType := some .byte }, accessFlags := 0, code := some k7c7 }
/-- java/lang/String -/
def k7 : Class := { plain "java/lang/String" (some 0) with
  accessFlags := 49
  interfaces := #[2, 3, 4, 5, 6]
  cf := some (fileOf pool7 10 #[.nestMembers #[1103]] #[{ accessFlags := 1, nameIndex := 5, descriptorIndex := 6, attributes := #[] }, { accessFlags := 1, nameIndex := 5, descriptorIndex := 1010, attributes := #[] }, { accessFlags := 1, nameIndex := 507, descriptorIndex := 334, attributes := #[] }, { accessFlags := 1, nameIndex := 543, descriptorIndex := 573, attributes := #[] }, { accessFlags := 9, nameIndex := 782, descriptorIndex := 783, attributes := #[] }, { accessFlags := 2, nameIndex := 5, descriptorIndex := 29, attributes := #[] }, { accessFlags := 0, nameIndex := 5, descriptorIndex := 211, attributes := #[] }, { accessFlags := 0, nameIndex := 17, descriptorIndex := 337, attributes := #[] }] 49 2 #[1106, 1108, 575, 1110, 1112] #[{ accessFlags := 18, nameIndex := 13, descriptorIndex := 14, attributes := #[] }, { accessFlags := 18, nameIndex := 17, descriptorIndex := 18, attributes := #[] }, { accessFlags := 2, nameIndex := 21, descriptorIndex := 22, attributes := #[] }, { accessFlags := 2, nameIndex := 25, descriptorIndex := 26, attributes := #[] }, { accessFlags := 26, nameIndex := 1116, descriptorIndex := 1117, attributes := #[] }, { accessFlags := 24, nameIndex := 40, descriptorIndex := 26, attributes := #[] }, { accessFlags := 26, nameIndex := 1101, descriptorIndex := 1102, attributes := #[] }, { accessFlags := 26, nameIndex := 1121, descriptorIndex := 1122, attributes := #[] }, { accessFlags := 25, nameIndex := 599, descriptorIndex := 600, attributes := #[] }, { accessFlags := 24, nameIndex := 1125, descriptorIndex := 18, attributes := #[] }, { accessFlags := 24, nameIndex := 1127, descriptorIndex := 18, attributes := #[] }])
  fields := #[{ name := "value", type := (.array .byte), accessFlags := 18, slot := 0, constantValue := 0 }, { name := "coder", type := .byte, accessFlags := 18, slot := 1, constantValue := 0 }, { name := "hash", type := .int, accessFlags := 2, slot := 2, constantValue := 0 }, { name := "hashIsZero", type := .boolean, accessFlags := 2, slot := 3, constantValue := 0 }, { name := "serialVersionUID", type := .long, accessFlags := 26, slot := 0, constantValue := 0 }, { name := "COMPACT_STRINGS", type := .boolean, accessFlags := 24, slot := 1, constantValue := 0 }, { name := "serialPersistentFields", type := (.array (.object "java/io/ObjectStreamField")), accessFlags := 26, slot := 2, constantValue := 0 }, { name := "REPL", type := .char, accessFlags := 26, slot := 3, constantValue := 0 }, { name := "CASE_INSENSITIVE_ORDER", type := (.object "java/util/Comparator"), accessFlags := 25, slot := 4, constantValue := 0 }, { name := "LATIN1", type := .byte, accessFlags := 24, slot := 5, constantValue := 0 }, { name := "UTF16", type := .byte, accessFlags := 24, slot := 6, constantValue := 0 }]
  methods := #[k7m0, k7m1, k7m2, k7m3, k7m4, k7m5, k7m6, k7m7]
  instanceTypes := #[(.array .byte), .byte, .int, .boolean]
  staticTypes := #[.long, .boolean, (.array (.object "java/io/ObjectStreamField")), .char, (.object "java/util/Comparator"), .byte, .byte]
  resolved := Array.replicate 1451 none
  statics := some 0 }

def pool8 : Array CpInfo := pool [(1, .methodref 2 3), (0, .class_ 4), (0, .nameAndType 5 6), (0, u "java/lang/Object"), (0, u "<init>"), (0, u "()V"), (0, .string 8), (0, u "text"), (0, .methodref 10 11), (0, .class_ 12), (0, .nameAndType 13 14), (0, u "java/util/Objects"), (0, u "requireNonNull"), (0, u "(Ljava/lang/Object;Ljava/lang/String;)Ljava/lang/Object;"), (0, .class_ 16), (0, u "java/lang/String"), (0, .fieldref 18 19), (0, .class_ 20), (0, .nameAndType 8 21), (0, u "com/example/lease/lease/model/AddToken"), (0, u "Ljava/lang/String;"), (0, .fieldref 18 23), (0, .nameAndType 24 25), (0, u "keptMillis"), (0, u "J"), (2, .methodref 18 29), (0, .nameAndType 5 30), (0, u "(Ljava/lang/String;J)V"), (2, .long 4503599627370496), (10, u "DEFAULT_KEPT_MILLIS"), (5, u "keptFor"), (0, u "(Ljava/lang/String;J)Lcom/example/lease/lease/model/AddToken;"), (1, u "()Ljava/lang/String;"), (0, u "()J")] 17

def k8c0 : Code := { maxStack := 3, maxLocals := 4, code := prog_4_method_1_code, exceptionTable := #[], attributes := #[] }
def k8m0 : Method := { name := "<init>", desc := "(Ljava/lang/String;J)V", sig := { parameters := [(.object "java/lang/String"), .long], returnType := none }, accessFlags := 2, code := some k8c0 }
def k8c1 : Code := { maxStack := 5, maxLocals := 3, code := prog_4_method_3_code, exceptionTable := #[], attributes := #[] }
def k8m1 : Method := { name := "keptFor", desc := "(Ljava/lang/String;J)Lcom/example/lease/lease/model/AddToken;", sig := { parameters := [(.object "java/lang/String"), .long], returnType := some (.object "com/example/lease/lease/model/AddToken") }, accessFlags := 9, code := some k8c1 }
def k8c2 : Code := { maxStack := 1, maxLocals := 1, code := prog_4_method_4_code, exceptionTable := #[], attributes := #[] }
def k8m2 : Method := { name := "text", desc := "()Ljava/lang/String;", sig := { parameters := [], returnType := some (.object "java/lang/String") }, accessFlags := 1, code := some k8c2 }
def k8c3 : Code := { maxStack := 2, maxLocals := 1, code := prog_4_method_5_code, exceptionTable := #[], attributes := #[] }
def k8m3 : Method := { name := "keptMillis", desc := "()J", sig := { parameters := [], returnType := some .long }, accessFlags := 1, code := some k8c3 }
/-- com/example/lease/lease/model/AddToken -/
def k8 : Class := { plain "com/example/lease/lease/model/AddToken" (some 0) with
  accessFlags := 49
  interfaces := #[]
  cf := some (fileOf pool8 18 #[] #[{ accessFlags := 2, nameIndex := 5, descriptorIndex := 30, attributes := #[] }, { accessFlags := 9, nameIndex := 50, descriptorIndex := 51, attributes := #[] }, { accessFlags := 1, nameIndex := 8, descriptorIndex := 53, attributes := #[] }, { accessFlags := 1, nameIndex := 24, descriptorIndex := 54, attributes := #[] }] 49 2 #[] #[{ accessFlags := 25, nameIndex := 44, descriptorIndex := 25, attributes := #[] }, { accessFlags := 18, nameIndex := 8, descriptorIndex := 21, attributes := #[] }, { accessFlags := 18, nameIndex := 24, descriptorIndex := 25, attributes := #[] }])
  fields := #[{ name := "DEFAULT_KEPT_MILLIS", type := .long, accessFlags := 25, slot := 0, constantValue := 0 }, { name := "text", type := (.object "java/lang/String"), accessFlags := 18, slot := 0, constantValue := 0 }, { name := "keptMillis", type := .long, accessFlags := 18, slot := 1, constantValue := 0 }]
  methods := #[k8m0, k8m1, k8m2, k8m3]
  instanceTypes := #[(.object "java/lang/String"), .long]
  staticTypes := #[.long]
  resolved := Array.replicate 72 none
  statics := none }

def pool9 : Array CpInfo := pool [(2, .class_ 4), (1, u "java/lang/Object"), (0, u "<init>"), (0, u "()V"), (35, .class_ 44), (1, u "java/util/Objects"), (0, u "requireNonNull"), (48, u "(Ljava/lang/Object;Ljava/lang/String;)Ljava/lang/Object;")] 89

def k9m0 : Method := { name := "<init>", desc := "()V", sig := { parameters := [], returnType := none }, accessFlags := 2, code := none }
def k9c1 : Code := { maxStack := 3, maxLocals := 2, code := jdk_31_method_11_code, exceptionTable := #[], attributes := #[] }
def k9m1 : Method := { name := "requireNonNull", desc := "(Ljava/lang/Object;Ljava/lang/String;)Ljava/lang/Object;", sig := { parameters := [(.object "java/lang/Object"), (.object "java/lang/String")], returnType := some (.object "java/lang/Object") }, accessFlags := 9, code := some k9c1 }
/-- java/util/Objects -/
def k9 : Class := { plain "java/util/Objects" (some 0) with
  accessFlags := 49
  interfaces := #[]
  cf := some (fileOf pool9 42 #[] #[{ accessFlags := 2, nameIndex := 5, descriptorIndex := 6, attributes := #[] }, { accessFlags := 9, nameIndex := 45, descriptorIndex := 94, attributes := #[] }] 49 2 #[] #[])
  fields := #[]
  methods := #[k9m0, k9m1]
  instanceTypes := #[]
  staticTypes := #[]
  resolved := Array.replicate 184 none
  statics := none }

def pool10 : Array CpInfo := pool [(4, .class_ 6), (1, u "java/lang/Object"), (0, u "<init>"), (0, u "()V"), (5, .class_ 16), (1, u "java/lang/StringLatin1"), (73, u "canEncode"), (14, u "(C)Z"), (15, u "$assertionsDisabled"), (0, u "Z"), (98, .class_ 223), (1, u "java/lang/StringLatin1$LinesSpliterator"), (57, u "equals"), (0, u "([B[B)Z"), (97, u "toBytes"), (1, u "(C)[B"), (7, .class_ 391), (0, u "java/lang/StringLatin1$CharsSpliterator")] 3

def k10m0 : Method := { name := "<init>", desc := "()V", sig := { parameters := [], returnType := none }, accessFlags := 0, code := none }
def k10c1 : Code := { maxStack := 2, maxLocals := 1, code := jdk_43_method_3_code, exceptionTable := #[], attributes := #[] }
def k10m1 : Method := { name := "canEncode", desc := "(C)Z", sig := { parameters := [.char], returnType := some .boolean }, accessFlags := 9, code := some k10c1 }
def k10c2 : Code := { maxStack := 3, maxLocals := 3, code := jdk_43_method_13_code, exceptionTable := #[], attributes := #[] }
def k10m2 : Method := { name := "equals", desc := "([B[B)Z", sig := { parameters := [(.array .byte), (.array .byte)], returnType := some .boolean }, accessFlags := 9, code := some k10c2 }
def k10c3 : Code := { maxStack := 4, maxLocals := 1, code := jdk_43_method_46_code, exceptionTable := #[], attributes := #[] }
def k10m3 : Method := { name := "toBytes", desc := "(C)[B", sig := { parameters := [.char], returnType := some (.array .byte) }, accessFlags := 9, code := some k10c3 }
/-- java/lang/StringLatin1 -/
def k10 : Class := { plain "java/lang/StringLatin1" (some 0) with
  accessFlags := 48
  interfaces := #[]
  cf := some (fileOf pool10 14 #[.nestMembers #[390, 221]] #[{ accessFlags := 0, nameIndex := 7, descriptorIndex := 8, attributes := #[] }, { accessFlags := 9, nameIndex := 90, descriptorIndex := 105, attributes := #[] }, { accessFlags := 9, nameIndex := 281, descriptorIndex := 282, attributes := #[] }, { accessFlags := 9, nameIndex := 380, descriptorIndex := 382, attributes := #[] }] 48 4 #[] #[{ accessFlags := 4120, nameIndex := 121, descriptorIndex := 122, attributes := #[] }])
  fields := #[{ name := "$assertionsDisabled", type := .boolean, accessFlags := 4120, slot := 0, constantValue := 0 }]
  methods := #[k10m0, k10m1, k10m2, k10m3]
  instanceTypes := #[]
  staticTypes := #[.boolean]
  resolved := Array.replicate 395 none
  statics := none }

def pool11 : Array CpInfo := pool [(6, .class_ 8), (1, u "java/lang/Object"), (0, u "<init>"), (0, u "()V"), (0, .methodref 12 13), (0, .class_ 14), (0, .nameAndType 15 16), (0, u "java/lang/StringUTF16"), (0, u "newBytesLength"), (0, u "(I)I"), (3, .integer 1073741823), (23, .fieldref 12 45), (0, .nameAndType 46 47), (0, u "$assertionsDisabled"), (0, u "Z"), (11, .fieldref 12 60), (0, .nameAndType 61 62), (0, u "HI_BYTE_SHIFT"), (0, u "I"), (0, .fieldref 12 64), (0, .nameAndType 65 62), (0, u "LO_BYTE_SHIFT"), (5, .methodref 12 72), (0, .nameAndType 73 74), (0, u "getChar"), (0, u "([BI)C"), (32, .methodref 12 108), (0, .nameAndType 109 110), (0, u "newBytesFor"), (0, u "(I)[B"), (0, .methodref 12 112), (0, .nameAndType 113 114), (0, u "putChar"), (0, u "([BII)V"), (0, .methodref 12 116), (0, .nameAndType 117 118), (0, u "compress"), (0, u "([CI[BII)I"), (0, .methodref 12 120), (0, .nameAndType 121 122), (0, u "toBytes"), (0, u "([CII)[B"), (138, u "coderFromArrayLen"), (0, u "([BI)B"), (106, .class_ 371), (1, u "java/lang/StringUTF16$LinesSpliterator"), (58, u "MAX_LENGTH"), (44, u "(C)[B"), (151, .class_ 628), (0, u "java/lang/StringUTF16$CodePointsSpliterator"), (0, .class_ 630), (0, u "java/lang/StringUTF16$CharsSpliterator")] 4

def k11m0 : Method := { name := "<init>", desc := "()V", sig := { parameters := [], returnType := none }, accessFlags := 0, code := none }
def k11c1 : Code := { maxStack := 1, maxLocals := 1, code := jdk_52_method_2_code, exceptionTable := #[], attributes := #[] }
def k11m1 : Method := { name := "newBytesFor", desc := "(I)[B", sig := { parameters := [.int], returnType := some (.array .byte) }, accessFlags := 9, code := some k11c1 }
def k11c2 : Code := { maxStack := 4, maxLocals := 1, code := jdk_52_method_3_code, exceptionTable := #[], attributes := #[] }
def k11m2 : Method := { name := "newBytesLength", desc := "(I)I", sig := { parameters := [.int], returnType := some .int }, accessFlags := 9, code := some k11c2 }
def k11c3 : Code := { maxStack := 4, maxLocals := 3, code := jdk_52_method_4_code, exceptionTable := #[], attributes := #[] }
def k11m3 : Method := { name := "putChar", desc := "([BII)V", sig := { parameters := [(.array .byte), .int, .int], returnType := none }, accessFlags := 8, code := some k11c3 }
def k11c4 : Code := { maxStack := 3, maxLocals := 2, code := jdk_52_method_5_code, exceptionTable := #[], attributes := #[] }
def k11m4 : Method := { name := "getChar", desc := "([BI)C", sig := { parameters := [(.array .byte), .int], returnType := some .char }, accessFlags := 8, code := some k11c4 }
def k11c5 : Code := { maxStack := 4, maxLocals := 5, code := jdk_52_method_14_code, exceptionTable := #[], attributes := #[] }
def k11m5 : Method := { name := "toBytes", desc := "([CII)[B", sig := { parameters := [(.array .char), .int, .int], returnType := some (.array .byte) }, accessFlags := 9, code := some k11c5 }
def k11c6 : Code := { maxStack := 2, maxLocals := 2, code := jdk_52_method_15_code, exceptionTable := #[], attributes := #[] }
def k11m6 : Method := { name := "coderFromArrayLen", desc := "([BI)B", sig := { parameters := [(.array .byte), .int], returnType := some .byte }, accessFlags := 8, code := some k11c6 }
def k11c7 : Code := { maxStack := 5, maxLocals := 6, code := jdk_52_method_16_code, exceptionTable := #[], attributes := #[] }
def k11m7 : Method := { name := "compress", desc := "([CII)[B", sig := { parameters := [(.array .char), .int, .int], returnType := some (.array .byte) }, accessFlags := 9, code := some k11c7 }
def k11c8 : Code := { maxStack := 3, maxLocals := 7, code := jdk_52_method_21_code, exceptionTable := #[], attributes := #[] }
def k11m8 : Method := { name := "compress", desc := "([CI[BII)I", sig := { parameters := [(.array .char), .int, (.array .byte), .int, .int], returnType := some .int }, accessFlags := 9, code := some k11c8 }
def k11c9 : Code := { maxStack := 3, maxLocals := 2, code := jdk_52_method_24_code, exceptionTable := #[], attributes := #[] }
def k11m9 : Method := { name := "toBytes", desc := "(C)[B", sig := { parameters := [.char], returnType := some (.array .byte) }, accessFlags := 9, code := some k11c9 }
/-- java/lang/StringUTF16 -/
def k11 : Class := { plain "java/lang/StringUTF16" (some 0) with
  accessFlags := 48
  interfaces := #[]
  cf := some (fileOf pool11 12 #[.nestMembers #[627, 629, 369]] #[{ accessFlags := 0, nameIndex := 9, descriptorIndex := 10, attributes := #[] }, { accessFlags := 9, nameIndex := 109, descriptorIndex := 110, attributes := #[] }, { accessFlags := 9, nameIndex := 15, descriptorIndex := 16, attributes := #[] }, { accessFlags := 8, nameIndex := 113, descriptorIndex := 114, attributes := #[] }, { accessFlags := 8, nameIndex := 73, descriptorIndex := 74, attributes := #[] }, { accessFlags := 9, nameIndex := 121, descriptorIndex := 122, attributes := #[] }, { accessFlags := 8, nameIndex := 261, descriptorIndex := 262, attributes := #[] }, { accessFlags := 9, nameIndex := 117, descriptorIndex := 122, attributes := #[] }, { accessFlags := 9, nameIndex := 117, descriptorIndex := 118, attributes := #[] }, { accessFlags := 9, nameIndex := 121, descriptorIndex := 475, attributes := #[] }] 48 6 #[] #[{ accessFlags := 26, nameIndex := 61, descriptorIndex := 62, attributes := #[] }, { accessFlags := 26, nameIndex := 65, descriptorIndex := 62, attributes := #[] }, { accessFlags := 24, nameIndex := 430, descriptorIndex := 62, attributes := #[] }, { accessFlags := 4120, nameIndex := 46, descriptorIndex := 47, attributes := #[] }])
  fields := #[{ name := "HI_BYTE_SHIFT", type := .int, accessFlags := 26, slot := 0, constantValue := 0 }, { name := "LO_BYTE_SHIFT", type := .int, accessFlags := 26, slot := 1, constantValue := 0 }, { name := "MAX_LENGTH", type := .int, accessFlags := 24, slot := 2, constantValue := 0 }, { name := "$assertionsDisabled", type := .boolean, accessFlags := 4120, slot := 3, constantValue := 0 }]
  methods := #[k11m0, k11m1, k11m2, k11m3, k11m4, k11m5, k11m6, k11m7, k11m8, k11m9]
  instanceTypes := #[]
  staticTypes := #[.int, .int, .int, .boolean]
  resolved := Array.replicate 635 none
  statics := some 1 }

def pool12 : Array CpInfo := pool [(2, .class_ 4), (1, u "java/lang/Object"), (0, u "<init>"), (0, u "()V"), (17, .class_ 26), (1, u "jdk/internal/util/Preconditions"), (28, .class_ 56), (0, u "jdk/internal/util/Preconditions$4"), (57, .class_ 115), (0, u "jdk/internal/util/Preconditions$1"), (7, u "SIOOBE_FORMATTER"), (0, u "Ljava/util/function/BiFunction;"), (0, .class_ 126), (0, u "jdk/internal/util/Preconditions$2"), (3, u "AIOOBE_FORMATTER"), (0, .class_ 132), (0, u "jdk/internal/util/Preconditions$3"), (3, u "IOOBE_FORMATTER")] 57

def k12m0 : Method := { name := "<init>", desc := "()V", sig := { parameters := [], returnType := none }, accessFlags := 1, code := none }
/-- jdk/internal/util/Preconditions -/
def k12 : Class := { plain "jdk/internal/util/Preconditions" (some 0) with
  accessFlags := 33
  interfaces := #[]
  cf := some (fileOf pool12 24 #[.nestMembers #[55, 131, 125, 114]] #[{ accessFlags := 1, nameIndex := 5, descriptorIndex := 6, attributes := #[] }] 33 2 #[] #[{ accessFlags := 25, nameIndex := 123, descriptorIndex := 124, attributes := #[] }, { accessFlags := 25, nameIndex := 130, descriptorIndex := 124, attributes := #[] }, { accessFlags := 25, nameIndex := 136, descriptorIndex := 124, attributes := #[] }])
  fields := #[{ name := "SIOOBE_FORMATTER", type := (.object "java/util/function/BiFunction"), accessFlags := 25, slot := 0, constantValue := 0 }, { name := "AIOOBE_FORMATTER", type := (.object "java/util/function/BiFunction"), accessFlags := 25, slot := 1, constantValue := 0 }, { name := "IOOBE_FORMATTER", type := (.object "java/util/function/BiFunction"), accessFlags := 25, slot := 2, constantValue := 0 }]
  methods := #[k12m0]
  instanceTypes := #[]
  staticTypes := #[(.object "java/util/function/BiFunction"), (.object "java/util/function/BiFunction"), (.object "java/util/function/BiFunction")]
  resolved := Array.replicate 194 none
  statics := some 2 }

def pool13 : Array CpInfo := pool [(9, u "<init>"), (6, .class_ 18), (1, u "java/lang/Object"), (0, u "()V"), (1, .class_ 23), (1, u "jdk/internal/util/ArraysSupport"), (0, u "LOG2_ARRAY_LONG_INDEX_SCALE"), (0, u "I"), (2, u "U"), (0, u "Ljdk/internal/misc/Unsafe;"), (8, u "BIG_ENDIAN"), (0, u "Z"), (8, u "LOG2_BYTE_BIT_SIZE"), (4, u "LOG2_ARRAY_INT_INDEX_SCALE"), (54, u "JLA"), (0, u "Ljdk/internal/access/JavaLangAccess;"), (11, u "LOG2_ARRAY_BOOLEAN_INDEX_SCALE"), (9, u "LOG2_ARRAY_BYTE_INDEX_SCALE"), (5, u "LOG2_ARRAY_CHAR_INDEX_SCALE"), (5, u "LOG2_ARRAY_SHORT_INDEX_SCALE"), (18, u "LOG2_ARRAY_FLOAT_INDEX_SCALE"), (24, u "LOG2_ARRAY_DOUBLE_INDEX_SCALE"), (89, u "T_BOOLEAN"), (2, u "T_CHAR"), (1, u "T_FLOAT"), (1, u "T_DOUBLE"), (1, u "T_BYTE"), (1, u "T_SHORT"), (1, u "T_INT"), (1, u "T_LONG"), (1, u "SOFT_MAX_ARRAY_LENGTH")] 83

def k13m0 : Method := { name := "<init>", desc := "()V", sig := { parameters := [], returnType := none }, accessFlags := 2, code := none }
/-- jdk/internal/util/ArraysSupport -/
def k13 : Class := { plain "jdk/internal/util/ArraysSupport" (some 0) with
  accessFlags := 33
  interfaces := #[]
  cf := some (fileOf pool13 21 #[] #[{ accessFlags := 2, nameIndex := 9, descriptorIndex := 19, attributes := #[] }] 33 16 #[] #[{ accessFlags := 24, nameIndex := 28, descriptorIndex := 29, attributes := #[] }, { accessFlags := 26, nameIndex := 38, descriptorIndex := 39, attributes := #[] }, { accessFlags := 25, nameIndex := 121, descriptorIndex := 25, attributes := #[] }, { accessFlags := 25, nameIndex := 131, descriptorIndex := 25, attributes := #[] }, { accessFlags := 25, nameIndex := 137, descriptorIndex := 25, attributes := #[] }, { accessFlags := 25, nameIndex := 143, descriptorIndex := 25, attributes := #[] }, { accessFlags := 25, nameIndex := 53, descriptorIndex := 25, attributes := #[] }, { accessFlags := 25, nameIndex := 24, descriptorIndex := 25, attributes := #[] }, { accessFlags := 25, nameIndex := 162, descriptorIndex := 25, attributes := #[] }, { accessFlags := 25, nameIndex := 187, descriptorIndex := 25, attributes := #[] }, { accessFlags := 26, nameIndex := 48, descriptorIndex := 25, attributes := #[] }, { accessFlags := 25, nameIndex := 277, descriptorIndex := 25, attributes := #[] }, { accessFlags := 25, nameIndex := 280, descriptorIndex := 25, attributes := #[] }, { accessFlags := 25, nameIndex := 282, descriptorIndex := 25, attributes := #[] }, { accessFlags := 25, nameIndex := 284, descriptorIndex := 25, attributes := #[] }, { accessFlags := 25, nameIndex := 286, descriptorIndex := 25, attributes := #[] }, { accessFlags := 25, nameIndex := 288, descriptorIndex := 25, attributes := #[] }, { accessFlags := 25, nameIndex := 290, descriptorIndex := 25, attributes := #[] }, { accessFlags := 25, nameIndex := 292, descriptorIndex := 25, attributes := #[] }, { accessFlags := 26, nameIndex := 108, descriptorIndex := 109, attributes := #[] }, { accessFlags := 25, nameIndex := 294, descriptorIndex := 25, attributes := #[] }])
  fields := #[{ name := "U", type := (.object "jdk/internal/misc/Unsafe"), accessFlags := 24, slot := 0, constantValue := 0 }, { name := "BIG_ENDIAN", type := .boolean, accessFlags := 26, slot := 1, constantValue := 0 }, { name := "LOG2_ARRAY_BOOLEAN_INDEX_SCALE", type := .int, accessFlags := 25, slot := 2, constantValue := 0 }, { name := "LOG2_ARRAY_BYTE_INDEX_SCALE", type := .int, accessFlags := 25, slot := 3, constantValue := 0 }, { name := "LOG2_ARRAY_CHAR_INDEX_SCALE", type := .int, accessFlags := 25, slot := 4, constantValue := 0 }, { name := "LOG2_ARRAY_SHORT_INDEX_SCALE", type := .int, accessFlags := 25, slot := 5, constantValue := 0 }, { name := "LOG2_ARRAY_INT_INDEX_SCALE", type := .int, accessFlags := 25, slot := 6, constantValue := 0 }, { name := "LOG2_ARRAY_LONG_INDEX_SCALE", type := .int, accessFlags := 25, slot := 7, constantValue := 0 }, { name := "LOG2_ARRAY_FLOAT_INDEX_SCALE", type := .int, accessFlags := 25, slot := 8, constantValue := 0 }, { name := "LOG2_ARRAY_DOUBLE_INDEX_SCALE", type := .int, accessFlags := 25, slot := 9, constantValue := 0 }, { name := "LOG2_BYTE_BIT_SIZE", type := .int, accessFlags := 26, slot := 10, constantValue := 0 }, { name := "T_BOOLEAN", type := .int, accessFlags := 25, slot := 11, constantValue := 0 }, { name := "T_CHAR", type := .int, accessFlags := 25, slot := 12, constantValue := 0 }, { name := "T_FLOAT", type := .int, accessFlags := 25, slot := 13, constantValue := 0 }, { name := "T_DOUBLE", type := .int, accessFlags := 25, slot := 14, constantValue := 0 }, { name := "T_BYTE", type := .int, accessFlags := 25, slot := 15, constantValue := 0 }, { name := "T_SHORT", type := .int, accessFlags := 25, slot := 16, constantValue := 0 }, { name := "T_INT", type := .int, accessFlags := 25, slot := 17, constantValue := 0 }, { name := "T_LONG", type := .int, accessFlags := 25, slot := 18, constantValue := 0 }, { name := "JLA", type := (.object "jdk/internal/access/JavaLangAccess"), accessFlags := 26, slot := 19, constantValue := 0 }, { name := "SOFT_MAX_ARRAY_LENGTH", type := .int, accessFlags := 25, slot := 20, constantValue := 0 }]
  methods := #[k13m0]
  instanceTypes := #[]
  staticTypes := #[(.object "jdk/internal/misc/Unsafe"), .boolean, .int, .int, .int, .int, .int, .int, .int, .int, .int, .int, .int, .int, .int, .int, .int, .int, .int, (.object "jdk/internal/access/JavaLangAccess"), .int]
  resolved := Array.replicate 378 none
  statics := none }

def pool14 : Array CpInfo := pool [(1, u "java/lang/Cloneable"), (0, .class_ 1), (0, u "java/lang/Object"), (0, .class_ 3)] 3

/-- java/lang/Cloneable -/
def k14 : Class := { plain "java/lang/Cloneable" (some 0) with
  accessFlags := 1537
  interfaces := #[]
  cf := some (fileOf pool14 2 #[] #[] 1537 4 #[] #[])
  fields := #[]
  methods := #[]
  instanceTypes := #[]
  staticTypes := #[]
  resolved := Array.replicate 8 none
  statics := none }

/-- the primitive byte -/
def k15 : Class := { plain "byte" none with kind := .primitive 'B', accessFlags := 0x411 }
/-- [B -/
def k16 : Class := { plain "[B" (some 0) with kind := .array 15 .byte, interfaces := #[14, 2], accessFlags := 1041 }

/-- the primitive char -/
def k17 : Class := { plain "char" none with kind := .primitive 'C', accessFlags := 0x411 }
/-- [C -/
def k18 : Class := { plain "[C" (some 0) with kind := .array 17 .char, interfaces := #[14, 2], accessFlags := 1041 }

/-- the primitive int -/
def k19 : Class := { plain "int" none with kind := .primitive 'I', accessFlags := 0x411 }
/-- [I -/
def k20 : Class := { plain "[I" (some 0) with kind := .array 19 .int, interfaces := #[14, 2], accessFlags := 1041 }

def heap : Heap := #[{ cls := 7, slots := #[.long 0, .int 1, .null, .int 0, .null, .int 0, .int 0], vm := .statics 7 },
  { cls := 11, slots := #[.int 0, .int 8, .int 0, .int 1], vm := .statics 11 },
  { cls := 12, slots := #[.null, .null, .null], vm := .statics 12 }]
def classes : Array Class := #[k0, k1, k2, k3, k4, k5, k6, k7, k8, k9, k10, k11, k12, k13, k14, k15, k16, k17, k18, k19, k20]
def interned : List (Array UInt16 × Addr) := []
def slotsUsed : Nat := 14
def theMethod : MethodId := ⟨1, 1⟩
def args0 : Array Value := #[.int 5, .int 7, .int 3, .long 9, .int 6]
def aboutOver (below : List Frame) : State where
  vm := { classes := classes, interned := interned.toArray }
  heap := heap
  slotsUsed := slotsUsed
  threads := #[{ frames := .invoking theMethod args0 :: below }]
def below0 : List Frame := [.native { method := ⟨0, 0⟩, args := #[] }]
def about1 : State := aboutOver below0
def p0 : Program := .bare "" "" ""
def e0 : Env := launch0.env 0 0 0
theorem w_frames : about1.frames = Frame.invoking theMethod args0 :: below0 := rfl
set_option maxRecDepth 65536 in
theorem w_args : argsFit about1.vm theMethod args0 = true := by decide +kernel
set_option maxRecDepth 65536 in
theorem w_heap : heapFits about1 = true := by decide +kernel
set_option maxRecDepth 65536 in
theorem w_runnable : about1.curStatus? = some .runnable := by decide +kernel
set_option maxRecDepth 65536 in
theorem w_alone : about1.alone = true := by decide +kernel
set_option maxRecDepth 65536 in
theorem w_named : about1.methodNamed? x = some theMethod := by decide +kernel
set_option maxRecDepth 65536 in
theorem w_hears : about1.hears theMethod below0 = true := by decide +kernel
set_option maxRecDepth 65536 in
theorem w_ripe : about1.ripe theMethod args0 below0 = true := by decide +kernel
theorem w_running : about1.status = .running := rfl
set_option maxRecDepth 65536 in
theorem w_room : about1.hasRoom e0.platform room_1 = true :=
  launch0.hasRoom_least _ room_1 (by decide +kernel) (by decide +kernel) (by decide +kernel) (by decide +kernel) (by decide +kernel) (by decide +kernel)
theorem allAtoms_all (ts : List Jvm.Cond) (a : Array Jvm.Value) (st : Jvm.State) : (allAtoms ts).before a st = ts.all (fun c => c.before a st) := by
  induction ts with
  | nil => rfl
  | cons c t ih =>
    show (Jvm.Cond.and c (allAtoms t)).before a st = _
    rw [Jvm.Cond.before_and, ih, List.all_cons]
def words1 : List Jvm.Cond := Jvm.Cond.code x code maxLocals ret :: tables_1
/-- a 'code' word, met by the world's own term for the bytes: nothing is compared byte by byte -/
theorem code_word {y : MethodName} {bytes : ByteArray} {mx : Nat} {rt : Option FieldType} {a : Array Value} {s : State} {m : MethodId} {meth : Method} {c : Code} (h1 : s.methodNamed? y = some m) (h2 : s.vm.method? m = some meth) (h3 : meth.code = some c) (h4 : c.code = bytes)
    (h5 : (c.maxLocals == mx && c.exceptionTable.isEmpty && decide (c.maxStack ≤ mostOperands) && decide (meth.sig.returnType = rt) && !meth.locks && decide (parseMethodDescriptor y.desc = some meth.sig)) = true) : (Jvm.Cond.code y bytes mx rt).before a s = true := by
  simp only [Bool.and_eq_true, beq_iff_eq, Bool.not_eq_true', decide_eq_true_eq] at h5
  obtain ⟨⟨⟨⟨⟨g1, g2⟩, g3⟩, g4⟩, g5⟩, g6⟩ := h5
  simp [Cond.before, Cond.holds, Cond.value, h1, h2, h3, h4, g1, g2, g3, g4, g5, g6]
def isCode : Jvm.Cond → Bool
  | .code _ _ _ _ => true
  | _ => false
theorem all_split {L : List Jvm.Cond} {P : Jvm.Cond → Bool} (h1 : L.all (fun c => isCode c || P c) = true) (h2 : ∀ c ∈ L.filter isCode, P c = true) : L.all P = true := by
  refine List.all_eq_true.mpr fun c hc => ?_
  have h := List.all_eq_true.mp h1 c hc
  rcases Bool.eq_false_or_eq_true (isCode c) with hi | hi
  · exact h2 c (List.mem_filter.mpr ⟨hc, hi⟩)
  · simpa [hi] using h
set_option maxRecDepth 65536 in
theorem w_c0 : (Jvm.Cond.code x code maxLocals ret).before args0 about1 = true := code_word (m := ⟨1, 1⟩) (meth := k1m1) (c := k1c1) (by decide +kernel) rfl rfl rfl (by decide +kernel)
set_option maxRecDepth 65536 in
theorem w_c1 : (Jvm.Cond.code ({ cls := "com/example/lease/lease/model/AddTokenKeptForPinLaw", name := "make", desc := "(ICCC)Ljava/lang/String;" } : Jvm.MethodName) method_3_code (5 : Nat) (Option.some (Jvm.ClassFile.FieldType.object "java/lang/String"))).before args0 about1 = true := code_word (m := ⟨1, 2⟩) (meth := k1m2) (c := k1c2) (by decide +kernel) rfl rfl rfl (by decide +kernel)
set_option maxRecDepth 65536 in
theorem w_c2 : (Jvm.Cond.code ({ cls := "java/lang/String", name := "<init>", desc := "([C)V" } : Jvm.MethodName) jdk_42_method_3_code (2 : Nat) (Option.none : Option Jvm.ClassFile.FieldType)).before args0 about1 = true := code_word (m := ⟨7, 1⟩) (meth := k7m1) (c := k7c1) (by decide +kernel) rfl rfl rfl (by decide +kernel)
set_option maxRecDepth 65536 in
theorem w_c3 : (Jvm.Cond.code ({ cls := "java/lang/String", name := "<init>", desc := "([CIILjava/lang/Void;)V" } : Jvm.MethodName) jdk_42_method_149_code (6 : Nat) (Option.none : Option Jvm.ClassFile.FieldType)).before args0 about1 = true := code_word (m := ⟨7, 5⟩) (meth := k7m5) (c := k7c5) (by decide +kernel) rfl rfl rfl (by decide +kernel)
set_option maxRecDepth 65536 in
theorem w_c4 : (Jvm.Cond.code ({ cls := "java/lang/Object", name := "<init>", desc := "()V" } : Jvm.MethodName) object_method_1_code (1 : Nat) (Option.none : Option Jvm.ClassFile.FieldType)).before args0 about1 = true := code_word (m := ⟨0, 0⟩) (meth := k0m0) (c := k0c0) (by decide +kernel) rfl rfl rfl (by decide +kernel)
set_option maxRecDepth 65536 in
theorem w_c5 : (Jvm.Cond.code ({ cls := "com/example/lease/lease/model/AddToken", name := "keptFor", desc := "(Ljava/lang/String;J)Lcom/example/lease/lease/model/AddToken;" } : Jvm.MethodName) prog_4_method_3_code (3 : Nat) (Option.some (Jvm.ClassFile.FieldType.object "com/example/lease/lease/model/AddToken"))).before args0 about1 = true := code_word (m := ⟨8, 1⟩) (meth := k8m1) (c := k8c1) (by decide +kernel) rfl rfl rfl (by decide +kernel)
set_option maxRecDepth 65536 in
theorem w_c6 : (Jvm.Cond.code ({ cls := "com/example/lease/lease/model/AddToken", name := "<init>", desc := "(Ljava/lang/String;J)V" } : Jvm.MethodName) prog_4_method_1_code (4 : Nat) (Option.none : Option Jvm.ClassFile.FieldType)).before args0 about1 = true := code_word (m := ⟨8, 0⟩) (meth := k8m0) (c := k8c0) (by decide +kernel) rfl rfl rfl (by decide +kernel)
set_option maxRecDepth 65536 in
theorem w_c7 : (Jvm.Cond.code ({ cls := "java/util/Objects", name := "requireNonNull", desc := "(Ljava/lang/Object;Ljava/lang/String;)Ljava/lang/Object;" } : Jvm.MethodName) jdk_31_method_11_code (2 : Nat) (Option.some (Jvm.ClassFile.FieldType.object "java/lang/Object"))).before args0 about1 = true := code_word (m := ⟨9, 1⟩) (meth := k9m1) (c := k9c1) (by decide +kernel) rfl rfl rfl (by decide +kernel)
set_option maxRecDepth 65536 in
theorem w_c8 : (Jvm.Cond.code ({ cls := "com/example/lease/lease/model/AddToken", name := "text", desc := "()Ljava/lang/String;" } : Jvm.MethodName) prog_4_method_4_code (1 : Nat) (Option.some (Jvm.ClassFile.FieldType.object "java/lang/String"))).before args0 about1 = true := code_word (m := ⟨8, 2⟩) (meth := k8m2) (c := k8c2) (by decide +kernel) rfl rfl rfl (by decide +kernel)
set_option maxRecDepth 65536 in
theorem w_c9 : (Jvm.Cond.code ({ cls := "java/lang/String", name := "equals", desc := "(Ljava/lang/Object;)Z" } : Jvm.MethodName) jdk_42_method_66_code (3 : Nat) (Option.some Jvm.ClassFile.FieldType.boolean)).before args0 about1 = true := code_word (m := ⟨7, 3⟩) (meth := k7m3) (c := k7c3) (by decide +kernel) rfl rfl rfl (by decide +kernel)
set_option maxRecDepth 65536 in
theorem w_c10 : (Jvm.Cond.code ({ cls := "java/lang/StringLatin1", name := "equals", desc := "([B[B)Z" } : Jvm.MethodName) jdk_43_method_13_code (3 : Nat) (Option.some Jvm.ClassFile.FieldType.boolean)).before args0 about1 = true := code_word (m := ⟨10, 2⟩) (meth := k10m2) (c := k10c2) (by decide +kernel) rfl rfl rfl (by decide +kernel)
set_option maxRecDepth 65536 in
theorem w_c11 : (Jvm.Cond.code ({ cls := "com/example/lease/lease/model/AddToken", name := "keptMillis", desc := "()J" } : Jvm.MethodName) prog_4_method_5_code (1 : Nat) (Option.some Jvm.ClassFile.FieldType.long)).before args0 about1 = true := code_word (m := ⟨8, 3⟩) (meth := k8m3) (c := k8c3) (by decide +kernel) rfl rfl rfl (by decide +kernel)
set_option maxRecDepth 65536 in
theorem w_c12 : (Jvm.Cond.code ({ cls := "java/lang/String", name := "length", desc := "()I" } : Jvm.MethodName) jdk_42_method_54_code (1 : Nat) (Option.some Jvm.ClassFile.FieldType.int)).before args0 about1 = true := code_word (m := ⟨7, 2⟩) (meth := k7m2) (c := k7c2) (by decide +kernel) rfl rfl rfl (by decide +kernel)
set_option maxRecDepth 65536 in
theorem w_c13 : (Jvm.Cond.code ({ cls := "java/lang/String", name := "coder", desc := "()B" } : Jvm.MethodName) jdk_42_method_152_code (1 : Nat) (Option.some Jvm.ClassFile.FieldType.byte)).before args0 about1 = true := code_word (m := ⟨7, 7⟩) (meth := k7m7) (c := k7c7) (by decide +kernel) rfl rfl rfl (by decide +kernel)
set_option maxRecDepth 65536 in
theorem w_c14 : (Jvm.Cond.code ({ cls := "java/lang/StringUTF16", name := "compress", desc := "([CII)[B" } : Jvm.MethodName) jdk_52_method_16_code (6 : Nat) (Option.some (Jvm.ClassFile.FieldType.array Jvm.ClassFile.FieldType.byte))).before args0 about1 = true := code_word (m := ⟨11, 7⟩) (meth := k11m7) (c := k11c7) (by decide +kernel) rfl rfl rfl (by decide +kernel)
set_option maxRecDepth 65536 in
theorem w_c15 : (Jvm.Cond.code ({ cls := "java/lang/StringUTF16", name := "compress", desc := "([CI[BII)I" } : Jvm.MethodName) jdk_52_method_21_code (7 : Nat) (Option.some Jvm.ClassFile.FieldType.int)).before args0 about1 = true := code_word (m := ⟨11, 8⟩) (meth := k11m8) (c := k11c8) (by decide +kernel) rfl rfl rfl (by decide +kernel)
set_option maxRecDepth 65536 in
theorem w_c16 : (Jvm.Cond.code ({ cls := "java/lang/StringUTF16", name := "coderFromArrayLen", desc := "([BI)B" } : Jvm.MethodName) jdk_52_method_15_code (2 : Nat) (Option.some Jvm.ClassFile.FieldType.byte)).before args0 about1 = true := code_word (m := ⟨11, 6⟩) (meth := k11m6) (c := k11c6) (by decide +kernel) rfl rfl rfl (by decide +kernel)
set_option maxRecDepth 65536 in
theorem w_c17 : (Jvm.Cond.code ({ cls := "java/lang/String", name := "valueOf", desc := "(C)Ljava/lang/String;" } : Jvm.MethodName) jdk_42_method_139_code (1 : Nat) (Option.some (Jvm.ClassFile.FieldType.object "java/lang/String"))).before args0 about1 = true := code_word (m := ⟨7, 4⟩) (meth := k7m4) (c := k7c4) (by decide +kernel) rfl rfl rfl (by decide +kernel)
set_option maxRecDepth 65536 in
theorem w_c18 : (Jvm.Cond.code ({ cls := "java/lang/StringLatin1", name := "canEncode", desc := "(C)Z" } : Jvm.MethodName) jdk_43_method_3_code (1 : Nat) (Option.some Jvm.ClassFile.FieldType.boolean)).before args0 about1 = true := code_word (m := ⟨10, 1⟩) (meth := k10m1) (c := k10c1) (by decide +kernel) rfl rfl rfl (by decide +kernel)
set_option maxRecDepth 65536 in
theorem w_c19 : (Jvm.Cond.code ({ cls := "java/lang/StringUTF16", name := "toBytes", desc := "(C)[B" } : Jvm.MethodName) jdk_52_method_24_code (2 : Nat) (Option.some (Jvm.ClassFile.FieldType.array Jvm.ClassFile.FieldType.byte))).before args0 about1 = true := code_word (m := ⟨11, 9⟩) (meth := k11m9) (c := k11c9) (by decide +kernel) rfl rfl rfl (by decide +kernel)
set_option maxRecDepth 65536 in
theorem w_c20 : (Jvm.Cond.code ({ cls := "java/lang/StringUTF16", name := "putChar", desc := "([BII)V" } : Jvm.MethodName) jdk_52_method_4_code (3 : Nat) (Option.none : Option Jvm.ClassFile.FieldType)).before args0 about1 = true := code_word (m := ⟨11, 3⟩) (meth := k11m3) (c := k11c3) (by decide +kernel) rfl rfl rfl (by decide +kernel)
set_option maxRecDepth 65536 in
theorem w_c21 : (Jvm.Cond.code ({ cls := "java/lang/String", name := "<init>", desc := "([BB)V" } : Jvm.MethodName) jdk_42_method_151_code (3 : Nat) (Option.none : Option Jvm.ClassFile.FieldType)).before args0 about1 = true := code_word (m := ⟨7, 6⟩) (meth := k7m6) (c := k7c6) (by decide +kernel) rfl rfl rfl (by decide +kernel)
set_option maxRecDepth 65536 in
theorem w_c22 : (Jvm.Cond.code ({ cls := "java/lang/StringUTF16", name := "toBytes", desc := "([CII)[B" } : Jvm.MethodName) jdk_52_method_14_code (5 : Nat) (Option.some (Jvm.ClassFile.FieldType.array Jvm.ClassFile.FieldType.byte))).before args0 about1 = true := code_word (m := ⟨11, 5⟩) (meth := k11m5) (c := k11c5) (by decide +kernel) rfl rfl rfl (by decide +kernel)
set_option maxRecDepth 65536 in
theorem w_c23 : (Jvm.Cond.code ({ cls := "java/lang/StringUTF16", name := "newBytesFor", desc := "(I)[B" } : Jvm.MethodName) jdk_52_method_2_code (1 : Nat) (Option.some (Jvm.ClassFile.FieldType.array Jvm.ClassFile.FieldType.byte))).before args0 about1 = true := code_word (m := ⟨11, 1⟩) (meth := k11m1) (c := k11c1) (by decide +kernel) rfl rfl rfl (by decide +kernel)
set_option maxRecDepth 65536 in
theorem w_c24 : (Jvm.Cond.code ({ cls := "java/lang/StringUTF16", name := "newBytesLength", desc := "(I)I" } : Jvm.MethodName) jdk_52_method_3_code (1 : Nat) (Option.some Jvm.ClassFile.FieldType.int)).before args0 about1 = true := code_word (m := ⟨11, 2⟩) (meth := k11m2) (c := k11c2) (by decide +kernel) rfl rfl rfl (by decide +kernel)
set_option maxRecDepth 65536 in
theorem w_c25 : (Jvm.Cond.code ({ cls := "java/lang/StringUTF16", name := "getChar", desc := "([BI)C" } : Jvm.MethodName) jdk_52_method_5_code (2 : Nat) (Option.some Jvm.ClassFile.FieldType.char)).before args0 about1 = true := code_word (m := ⟨11, 4⟩) (meth := k11m4) (c := k11c4) (by decide +kernel) rfl rfl rfl (by decide +kernel)
set_option maxRecDepth 65536 in
theorem w_c26 : (Jvm.Cond.code ({ cls := "java/lang/StringLatin1", name := "toBytes", desc := "(C)[B" } : Jvm.MethodName) jdk_43_method_46_code (1 : Nat) (Option.some (Jvm.ClassFile.FieldType.array Jvm.ClassFile.FieldType.byte))).before args0 about1 = true := code_word (m := ⟨10, 3⟩) (meth := k10m3) (c := k10c3) (by decide +kernel) rfl rfl rfl (by decide +kernel)
def codes1 : List Jvm.Cond := [Jvm.Cond.code x code maxLocals ret, Jvm.Cond.code ({ cls := "com/example/lease/lease/model/AddTokenKeptForPinLaw", name := "make", desc := "(ICCC)Ljava/lang/String;" } : Jvm.MethodName) method_3_code (5 : Nat) (Option.some (Jvm.ClassFile.FieldType.object "java/lang/String")), Jvm.Cond.code ({ cls := "java/lang/String", name := "<init>", desc := "([C)V" } : Jvm.MethodName) jdk_42_method_3_code (2 : Nat) (Option.none : Option Jvm.ClassFile.FieldType), Jvm.Cond.code ({ cls := "java/lang/String", name := "<init>", desc := "([CIILjava/lang/Void;)V" } : Jvm.MethodName) jdk_42_method_149_code (6 : Nat) (Option.none : Option Jvm.ClassFile.FieldType), Jvm.Cond.code ({ cls := "java/lang/Object", name := "<init>", desc := "()V" } : Jvm.MethodName) object_method_1_code (1 : Nat) (Option.none : Option Jvm.ClassFile.FieldType), Jvm.Cond.code ({ cls := "com/example/lease/lease/model/AddToken", name := "keptFor", desc := "(Ljava/lang/String;J)Lcom/example/lease/lease/model/AddToken;" } : Jvm.MethodName) prog_4_method_3_code (3 : Nat) (Option.some (Jvm.ClassFile.FieldType.object "com/example/lease/lease/model/AddToken")), Jvm.Cond.code ({ cls := "com/example/lease/lease/model/AddToken", name := "<init>", desc := "(Ljava/lang/String;J)V" } : Jvm.MethodName) prog_4_method_1_code (4 : Nat) (Option.none : Option Jvm.ClassFile.FieldType), Jvm.Cond.code ({ cls := "java/util/Objects", name := "requireNonNull", desc := "(Ljava/lang/Object;Ljava/lang/String;)Ljava/lang/Object;" } : Jvm.MethodName) jdk_31_method_11_code (2 : Nat) (Option.some (Jvm.ClassFile.FieldType.object "java/lang/Object")), Jvm.Cond.code ({ cls := "com/example/lease/lease/model/AddToken", name := "text", desc := "()Ljava/lang/String;" } : Jvm.MethodName) prog_4_method_4_code (1 : Nat) (Option.some (Jvm.ClassFile.FieldType.object "java/lang/String")), Jvm.Cond.code ({ cls := "java/lang/String", name := "equals", desc := "(Ljava/lang/Object;)Z" } : Jvm.MethodName) jdk_42_method_66_code (3 : Nat) (Option.some Jvm.ClassFile.FieldType.boolean), Jvm.Cond.code ({ cls := "java/lang/StringLatin1", name := "equals", desc := "([B[B)Z" } : Jvm.MethodName) jdk_43_method_13_code (3 : Nat) (Option.some Jvm.ClassFile.FieldType.boolean), Jvm.Cond.code ({ cls := "com/example/lease/lease/model/AddToken", name := "keptMillis", desc := "()J" } : Jvm.MethodName) prog_4_method_5_code (1 : Nat) (Option.some Jvm.ClassFile.FieldType.long), Jvm.Cond.code ({ cls := "java/lang/String", name := "length", desc := "()I" } : Jvm.MethodName) jdk_42_method_54_code (1 : Nat) (Option.some Jvm.ClassFile.FieldType.int), Jvm.Cond.code ({ cls := "java/lang/String", name := "coder", desc := "()B" } : Jvm.MethodName) jdk_42_method_152_code (1 : Nat) (Option.some Jvm.ClassFile.FieldType.byte), Jvm.Cond.code ({ cls := "java/lang/StringUTF16", name := "compress", desc := "([CII)[B" } : Jvm.MethodName) jdk_52_method_16_code (6 : Nat) (Option.some (Jvm.ClassFile.FieldType.array Jvm.ClassFile.FieldType.byte)), Jvm.Cond.code ({ cls := "java/lang/StringUTF16", name := "compress", desc := "([CI[BII)I" } : Jvm.MethodName) jdk_52_method_21_code (7 : Nat) (Option.some Jvm.ClassFile.FieldType.int), Jvm.Cond.code ({ cls := "java/lang/StringUTF16", name := "coderFromArrayLen", desc := "([BI)B" } : Jvm.MethodName) jdk_52_method_15_code (2 : Nat) (Option.some Jvm.ClassFile.FieldType.byte), Jvm.Cond.code ({ cls := "java/lang/String", name := "valueOf", desc := "(C)Ljava/lang/String;" } : Jvm.MethodName) jdk_42_method_139_code (1 : Nat) (Option.some (Jvm.ClassFile.FieldType.object "java/lang/String")), Jvm.Cond.code ({ cls := "java/lang/StringLatin1", name := "canEncode", desc := "(C)Z" } : Jvm.MethodName) jdk_43_method_3_code (1 : Nat) (Option.some Jvm.ClassFile.FieldType.boolean), Jvm.Cond.code ({ cls := "java/lang/StringUTF16", name := "toBytes", desc := "(C)[B" } : Jvm.MethodName) jdk_52_method_24_code (2 : Nat) (Option.some (Jvm.ClassFile.FieldType.array Jvm.ClassFile.FieldType.byte)), Jvm.Cond.code ({ cls := "java/lang/StringUTF16", name := "putChar", desc := "([BII)V" } : Jvm.MethodName) jdk_52_method_4_code (3 : Nat) (Option.none : Option Jvm.ClassFile.FieldType), Jvm.Cond.code ({ cls := "java/lang/String", name := "<init>", desc := "([BB)V" } : Jvm.MethodName) jdk_42_method_151_code (3 : Nat) (Option.none : Option Jvm.ClassFile.FieldType), Jvm.Cond.code ({ cls := "java/lang/StringUTF16", name := "toBytes", desc := "([CII)[B" } : Jvm.MethodName) jdk_52_method_14_code (5 : Nat) (Option.some (Jvm.ClassFile.FieldType.array Jvm.ClassFile.FieldType.byte)), Jvm.Cond.code ({ cls := "java/lang/StringUTF16", name := "newBytesFor", desc := "(I)[B" } : Jvm.MethodName) jdk_52_method_2_code (1 : Nat) (Option.some (Jvm.ClassFile.FieldType.array Jvm.ClassFile.FieldType.byte)), Jvm.Cond.code ({ cls := "java/lang/StringUTF16", name := "newBytesLength", desc := "(I)I" } : Jvm.MethodName) jdk_52_method_3_code (1 : Nat) (Option.some Jvm.ClassFile.FieldType.int), Jvm.Cond.code ({ cls := "java/lang/StringUTF16", name := "getChar", desc := "([BI)C" } : Jvm.MethodName) jdk_52_method_5_code (2 : Nat) (Option.some Jvm.ClassFile.FieldType.char), Jvm.Cond.code ({ cls := "java/lang/StringLatin1", name := "toBytes", desc := "(C)[B" } : Jvm.MethodName) jdk_43_method_46_code (1 : Nat) (Option.some (Jvm.ClassFile.FieldType.array Jvm.ClassFile.FieldType.byte))]
set_option maxRecDepth 65536 in
theorem codes_eq : words1.filter isCode = codes1 := rfl
theorem w_codes : ∀ c ∈ words1.filter isCode, c.before args0 about1 = true := by
  rw [codes_eq]
  intro c hc
  simp only [codes1, List.mem_cons, List.not_mem_nil, or_false] at hc
  rcases hc with rfl | rfl | rfl | rfl | rfl | rfl | rfl | rfl | rfl | rfl | rfl | rfl | rfl | rfl | rfl | rfl | rfl | rfl | rfl | rfl | rfl | rfl | rfl | rfl | rfl | rfl | rfl
  · exact w_c0
  · exact w_c1
  · exact w_c2
  · exact w_c3
  · exact w_c4
  · exact w_c5
  · exact w_c6
  · exact w_c7
  · exact w_c8
  · exact w_c9
  · exact w_c10
  · exact w_c11
  · exact w_c12
  · exact w_c13
  · exact w_c14
  · exact w_c15
  · exact w_c16
  · exact w_c17
  · exact w_c18
  · exact w_c19
  · exact w_c20
  · exact w_c21
  · exact w_c22
  · exact w_c23
  · exact w_c24
  · exact w_c25
  · exact w_c26
set_option maxRecDepth 65536 in
theorem w_t1 : (words1.take 24).all (fun c => isCode c || c.before args0 about1) = true := by decide +kernel
set_option maxRecDepth 65536 in
theorem w_t2 : ((words1.drop 24).take 24).all (fun c => isCode c || c.before args0 about1) = true := by decide +kernel
set_option maxRecDepth 65536 in
theorem w_t3 : (((words1.drop 24).drop 24).take 24).all (fun c => isCode c || c.before args0 about1) = true := by decide +kernel
set_option maxRecDepth 65536 in
theorem w_t4 : ((((words1.drop 24).drop 24).drop 24).take 24).all (fun c => isCode c || c.before args0 about1) = true := by decide +kernel
set_option maxRecDepth 65536 in
theorem w_t5 : (((((words1.drop 24).drop 24).drop 24).drop 24).take 24).all (fun c => isCode c || c.before args0 about1) = true := by decide +kernel
set_option maxRecDepth 65536 in
theorem w_t6 : (((((words1.drop 24).drop 24).drop 24).drop 24).drop 24).all (fun c => isCode c || c.before args0 about1) = true := by decide +kernel
theorem w_tables : (allAtoms (Jvm.Cond.code x code maxLocals ret :: tables_1)).before args0 about1 = true := by
  rw [allAtoms_all]
  show words1.all (fun c => c.before args0 about1) = true
  refine all_split ?_ w_codes
  rw [← List.take_append_drop 24 words1, List.all_append, w_t1, ← List.take_append_drop 24 (words1.drop 24), List.all_append, w_t2, ← List.take_append_drop 24 ((words1.drop 24).drop 24), List.all_append, w_t3, ← List.take_append_drop 24 (((words1.drop 24).drop 24).drop 24), List.all_append, w_t4, ← List.take_append_drop 24 ((((words1.drop 24).drop 24).drop 24).drop 24), List.all_append, w_t5, w_t6]
  rfl
set_option maxRecDepth 65536 in
theorem w_rest : rest_1_c.before args0 about1 = true := by decide +kernel
set_option maxRecDepth 65536 in
theorem w_case : (Jvm.Cond.and given_1 narrow_1).before args0 about1 = true := by decide +kernel
set_option maxRecDepth 65536 in
theorem w_consts : constsHeld consts_1 about1 := Jvm.Lit.constsHeldB_iff.mp (by decide +kernel)
theorem w_applies : (headSpec (Jvm.Cond.code x code maxLocals ret :: tables_1) room_1).applies x e0.platform about1 = true :=
  (Spec.applies_iff w_frames).mpr ⟨w_running, w_runnable, w_alone, w_named, w_hears, w_ripe, w_room, w_tables⟩
theorem atStart : AtStart classFile x code maxLocals ret World_1 tables_1 room_1 Calls_1 rest_1 Pre_1 launch0 p0 e0 about1 theMethod args0 below0 :=
  ⟨lists_1, trivial, launch0.admits_env _ _ _, launch0.least_env, fairChoices_fair.cas, fairChoices_fair.clock, w_frames, w_args, w_heap, w_applies, ⟨w_consts, trivial⟩, w_rest, w_case⟩
end start1
theorem witness_1 : WitnessClaimed_1 := ⟨start1.p0, start1.e0, start1.about1, start1.theMethod, start1.args0, start1.below0, start1.atStart⟩
end Jvm.Pilot.@@N@@
