import JvmDerived
import JvmDerived.Pilot.@@N@@Statement
import JvmDerived.Pilot.@@N@@Code
set_option linter.unusedVariables false
set_option linter.unusedSimpArgs false
@@BLOCK:NumsL.lean.txt@@
/- laws to paste: Road.backV, Road.eqW, Road.codOf (cut by pick.py; bodies as the Statement names them) -/
namespace Jvm.Pilot.@@N@@
namespace StrChars
open Jvm Sem ClassFile Op Lib Jvm.Stand Jvm.Free.XT Jvm.Free.ALB Jvm.Free.JM Jvm.Free
open Jvm.Lib.Cold (StaticIs)
/-- a char array whose places are chars -/
def Ch (a : Addr) (A : Cell) (U : State) : Prop := Arr .char a A U ∧ Typed .char A
theorem Ch.mv {a : Addr} {A : Cell} {U U' : State} (h : Ch a A U) (hal : U.vm.Alike U'.vm) (hh : U'.heap = U.heap) : Ch a A U' := ⟨h.1.mv hal hh, h.2⟩
theorem Ch.keep {a : Addr} {A : Cell} {U U' : State} (h : Ch a A U) (hal : U.vm.Alike U'.vm) (hk : U'.heap[a]? = some A) : Ch a A U' := ⟨h.1.keep hal hk, h.2⟩
/-- what place i of a char[]'s cell holds -/
def cv (A : Cell) (i : Nat) : Int32 := match A.slots[i]? with | some (.int x) => x | _ => 0
theorem Ch.get {a : Addr} {A : Cell} {U : State} (h : Ch a A U) {i : Nat} (hi : i < A.slots.size) : A.slots[i]? = some (.int (cv A i)) := by
  have e := Array.getElem?_eq_getElem hi
  have f := h.2 i _ e
  unfold cv; rw [e]
  generalize A.slots[i] = v at f
  cases v <;> simp [fits] at f ⊢
/-- the byte that i2b leaves of a char -/
def lo8 (x : Int32) : Int32 := x.toInt8.toInt32
theorem fits_lo8 (y : Int32) : fits .byte (.int (lo8 y)) = true := by
  have h1 := y.toInt8.le_toInt
  have h2 := y.toInt8.toInt_lt
  simp only [lo8, fits, Bool.and_eq_true, decide_eq_true_eq, Int32.le_iff_toInt_le, Int8.toInt_toInt32, show (-128 : Int32).toInt = -128 from by decide, show (127 : Int32).toInt = 127 from by decide]
  omega
/-- A' is A but that each place j of lo .. hi - 1 holds f j -/
def Laid (A A' : Cell) (lo hi : Nat) (f : Nat → Value) : Prop := A'.cls = A.cls ∧ A'.vm = A.vm ∧ A'.slots.size = A.slots.size ∧ ∀ i, A'.slots[i]? = if lo ≤ i ∧ i < hi then some (f i) else A.slots[i]?
theorem Laid.zero (A : Cell) (lo : Nat) (f : Nat → Value) : Laid A A lo (lo + 0) f := ⟨rfl, rfl, rfl, fun i => by rw [if_neg (by omega)]⟩
theorem Laid.step {A Ak : Cell} {lo k : Nat} {f : Nat → Value} {v : Value} (h : Laid A Ak lo k f) (hlo : lo ≤ k) (hk : k < Ak.slots.size) (hv : v = f k) : Laid A (Ak.setSlot k v) lo (k + 1) f := by
  refine ⟨h.1, h.2.1, by simpa [Cell.setSlot] using h.2.2.1, fun i => ?_⟩
  by_cases e : k = i
  · subst e; rw [Cell.slots_setSlot_self v hk, if_pos (by omega), hv]
  · rw [Cell.slots_setSlot_ne v e, h.2.2.2 i]
    by_cases q : lo ≤ i ∧ i < k
    · rw [if_pos q, if_pos (by omega)]
    · rw [if_neg q, if_neg (by omega)]
def U16 : String := "java/lang/StringUTF16"
namespace Cmp5
def yN : MethodName := ⟨"java/lang/StringUTF16", "compress", "([CI[BII)I"⟩
abbrev yB : ByteArray := jdk_52_method_21_code
theorem d0 : decode yB 0 = .ok (.iconst 0, 1) := by decide +kernel
theorem d1 : decode yB 1 = .ok (.istore 5, 2) := by decide +kernel
theorem d3 : decode yB 3 = .ok (.iload 5, 2) := by decide +kernel
theorem d5 : decode yB 5 = .ok (.iload 4, 2) := by decide +kernel
theorem d7 : decode yB 7 = .ok (.if_icmp (.ge) 37, 3) := by decide +kernel
theorem d10 : decode yB 10 = .ok (.aload_n 0, 1) := by decide +kernel
theorem d11 : decode yB 11 = .ok (.iload_n 1, 1) := by decide +kernel
theorem d12 : decode yB 12 = .ok (.caload, 1) := by decide +kernel
theorem d13 : decode yB 13 = .ok (.istore 6, 2) := by decide +kernel
theorem d15 : decode yB 15 = .ok (.iload 6, 2) := by decide +kernel
theorem d17 : decode yB 17 = .ok (.sipush 255, 3) := by decide +kernel
theorem d20 : decode yB 20 = .ok (.if_icmp (.le) 6, 3) := by decide +kernel
theorem d26 : decode yB 26 = .ok (.aload_n 2, 1) := by decide +kernel
theorem d27 : decode yB 27 = .ok (.iload_n 3, 1) := by decide +kernel
theorem d28 : decode yB 28 = .ok (.iload 6, 2) := by decide +kernel
theorem d30 : decode yB 30 = .ok (.i2b, 1) := by decide +kernel
theorem d31 : decode yB 31 = .ok (.bastore, 1) := by decide +kernel
theorem d32 : decode yB 32 = .ok (.iinc 1 1, 3) := by decide +kernel
theorem d35 : decode yB 35 = .ok (.iinc 3 1, 3) := by decide +kernel
theorem d38 : decode yB 38 = .ok (.iinc 5 1, 3) := by decide +kernel
theorem d41 : decode yB 41 = .ok (.goto (-38), 3) := by decide +kernel
theorem d44 : decode yB 44 = .ok (.iload 4, 2) := by decide +kernel
theorem d46 : decode yB 46 = .ok (.ireturn, 1) := by decide +kernel
def site : List Cond := []
def tab : Cond := tabOf yN yB 7 (some .int) site
def P (b : Addr) (A : Cell) (d : Addr) (B : Cell) (o q len : Nat) (args : Array Value) (s : State) : Prop := args = #[.ref b, .int (Int32.ofNat o), .ref d, .int (Int32.ofNat q), .int (Int32.ofNat len)] ∧ Ch b A s ∧ Arr .byte d B s ∧ b ≠ d ∧ o + len ≤ A.slots.size ∧ q + len ≤ B.slots.size ∧ ∀ i, i < len → ¬ 255 < cv A (o + i)
def E (b : Addr) (A : Cell) (d : Addr) (B : Cell) (o q len : Nat) (r : Option Value) (s u : State) : Prop := r = some (.int (Int32.ofNat len)) ∧ ∃ B', Put d B' s u ∧ Laid B B' q (q + len) (fun j => Value.int (lo8 (cv A (o + (j - q)))))
/-- no char of the range above 255: len; the places written hold each char's low byte -/
theorem law (l : Launch) (b : Addr) (A : Cell) (d : Addr) (B : Cell) (o q len : Nat) : Law l yN 5 5 0 0 yB 7 (some .int) site (P b A d B o q len) (E b A d B o q len) (copyLocs d q len) 0 0 := by
  refine Law.of_walk (plainFor_of_name (by decide +kernel)) (by decide +kernel) (by decide +kernel) (by decide) (fun _ _ h => by rw [h.1]; rfl) (fun _ U U' hal hh h => ⟨h.1, h.2.1.mv hal hh, h.2.2.1.mv hal hh, h.2.2.2⟩) (fun r U U' V V' h1 hal h2 h => ⟨h.1, h.2.elim fun B' q => ⟨B', q.1.mv h1 h2, q.2⟩⟩) ?_
  intro p e s m args below meth c s₁ X0 hexec hbytes hml hret hlk hnm hown hh0 W hP
  obtain ⟨rfl, hA, hB, hne, l1, l2, hp⟩ := hP
  have c1 : Steps p.tables e below (s₁.setTop (entryFrame m #[.ref b, .int (Int32.ofNat o), .ref d, .int (Int32.ofNat q), .int (Int32.ofNat len)] 7)) (s₁.setTop (mkF m 0 #[.val (.ref b), .val (.int (Int32.ofNat o)), .val (.ref d), .val (.int (Int32.ofNat q)), .val (.int (Int32.ofNat len)), .unset, .unset] [])) := entry rfl
  have hA0 := hA.1.mv X0.warmed.alike hh0
  have hB0 := hB.mv X0.warmed.alike hh0
  have a31 := hA.1.2.2.2
  have c2 : Steps p.tables e below (s₁.setTop (entryFrame m #[.ref b, .int (Int32.ofNat o), .ref d, .int (Int32.ofNat q), .int (Int32.ofNat len)] 7)) (s₁.setTop (mkF m 3 #[.val (.ref b), .val (.int (Int32.ofNat o)), .val (.ref d), .val (.int (Int32.ofNat q)), .val (.int (Int32.ofNat len)), .val (.int 0), .unset] [])) := c1.trans (by
    refine iconstV X0.here hexec rfl 0 (hb hbytes d0) (by decide) ?_
    refine XS.istore X0.here hexec rfl (hb hbytes d1) rfl rfl ?_
    exact Steps.refl _)
  have loop : ∀ (r i : Nat), i + r = len → ∀ (z : Slot), (z = .unset ∨ ∃ w, z = .val w ∧ w.category = 1) → ∀ (Tl : State) (Bk : Cell), Stand p l e { frames := 0, locals := 0, cells := 0, slots := 0 } s m #[.ref b, .int (Int32.ofNat o), .ref d, .int (Int32.ofNat q), .int (Int32.ofNat len)] below meth c Tl ([] ++ copyLocs d q i) 0 0 → Put d Bk s₁ Tl → Laid B Bk q (q + i) (fun j => Value.int (lo8 (cv A (o + (j - q))))) →
      Steps p.tables e below (s₁.setTop (entryFrame m #[.ref b, .int (Int32.ofNat o), .ref d, .int (Int32.ofNat q), .int (Int32.ofNat len)] 7)) (Tl.setTop (mkF m 3 #[.val (.ref b), .val (.int (Int32.ofNat (o + i))), .val (.ref d), .val (.int (Int32.ofNat (q + i))), .val (.int (Int32.ofNat len)), .val (.int (Int32.ofNat i)), z] [])) → ∃ (T' : State) (B' : Cell) (z' : Slot), Stand p l e { frames := 0, locals := 0, cells := 0, slots := 0 } s m #[.ref b, .int (Int32.ofNat o), .ref d, .int (Int32.ofNat q), .int (Int32.ofNat len)] below meth c T' ([] ++ copyLocs d q len) 0 0 ∧ Put d B' s₁ T' ∧ Laid B B' q (q + len) (fun j => Value.int (lo8 (cv A (o + (j - q))))) ∧
      Steps p.tables e below (s₁.setTop (entryFrame m #[.ref b, .int (Int32.ofNat o), .ref d, .int (Int32.ofNat q), .int (Int32.ofNat len)] 7)) (T'.setTop (mkF m 3 #[.val (.ref b), .val (.int (Int32.ofNat (o + len))), .val (.ref d), .val (.int (Int32.ofNat (q + len))), .val (.int (Int32.ofNat len)), .val (.int (Int32.ofNat len)), z'] [])) := by
    intro r
    induction r with
    | zero =>
      intro i hi z hz Tl Bk Xl pl fl cl
      have hil : i = len := by omega
      rw [hil] at Xl fl cl
      exact ⟨Tl, Bk, z, Xl, pl, fl, cl⟩
    | succ r ih =>
      intro i hi z hz Tl Bk Xl pl fl cl
      have all := X0.warmed.alike.symm.trans Xl.warmed.alike
      have hAl := hA0.keep all (pl.other hne hA0.1)
      have hBk := hB0.like all pl.1 fl.1 fl.2.1 fl.2.2.1
      have hlt : q + i < Bk.slots.size := by rw [fl.2.2.1]; omega
      have c3 : Steps p.tables e below (s₁.setTop (entryFrame m #[.ref b, .int (Int32.ofNat o), .ref d, .int (Int32.ofNat q), .int (Int32.ofNat len)] 7)) (Tl.setTop (mkF m 12 #[.val (.ref b), .val (.int (Int32.ofNat (o + i))), .val (.ref d), .val (.int (Int32.ofNat (q + i))), .val (.int (Int32.ofNat len)), .val (.int (Int32.ofNat i)), z] [.int (Int32.ofNat (o + i)), .ref b])) := cl.trans (by
        refine XS.iload Xl.here hexec rfl (hb hbytes d3) rfl ?_
        refine XS.iload Xl.here hexec rfl (hb hbytes d5) rfl ?_
        refine XS.icmpNo Xl.here hexec rfl (hb hbytes d7) rfl (ii_ge_f (lt32 (by omega) (by omega))) ?_
        refine XS.aloadN Xl.here hexec rfl (hb hbytes d10) rfl rfl ?_
        refine XS.iloadN Xl.here hexec rfl (hb hbytes d11) rfl ?_
        exact Steps.refl _)
      have c4 : Steps p.tables e below (s₁.setTop (entryFrame m #[.ref b, .int (Int32.ofNat o), .ref d, .int (Int32.ofNat q), .int (Int32.ofNat len)] 7)) (Tl.setTop (mkF m 13 #[.val (.ref b), .val (.int (Int32.ofNat (o + i))), .val (.ref d), .val (.int (Int32.ofNat (q + i))), .val (.int (Int32.ofNat len)), .val (.int (Int32.ofNat i)), z] [.int (cv A (o + i))])) := c3.trans (by
        refine Xl.aget hexec hAl rfl (hA.get (i := o + i) (by omega)) rfl rfl (hb hbytes d12) ?_
        exact Steps.refl _)
      have c5 : Steps p.tables e below (s₁.setTop (entryFrame m #[.ref b, .int (Int32.ofNat o), .ref d, .int (Int32.ofNat q), .int (Int32.ofNat len)] 7)) (Tl.setTop (mkF m 15 #[.val (.ref b), .val (.int (Int32.ofNat (o + i))), .val (.ref d), .val (.int (Int32.ofNat (q + i))), .val (.int (Int32.ofNat len)), .val (.int (Int32.ofNat i)), .val (.int (cv A (o + i)))] [])) := c4.trans (by
        refine XS.istoreS Xl.here hexec rfl (hb hbytes d13) rfl rfl hz ?_
        exact Steps.refl _)
      have c6 : Steps p.tables e below (s₁.setTop (entryFrame m #[.ref b, .int (Int32.ofNat o), .ref d, .int (Int32.ofNat q), .int (Int32.ofNat len)] 7)) (Tl.setTop (mkF m 31 #[.val (.ref b), .val (.int (Int32.ofNat (o + i))), .val (.ref d), .val (.int (Int32.ofNat (q + i))), .val (.int (Int32.ofNat len)), .val (.int (Int32.ofNat i)), .val (.int (cv A (o + i)))] [.int (lo8 (cv A (o + i))), .int (Int32.ofNat (q + i)), .ref d])) := c5.trans (by
        refine XS.iload Xl.here hexec rfl (hb hbytes d15) rfl ?_
        refine sipushV Xl.here hexec rfl 255 (hb hbytes d17) (by decide) ?_
        refine XS.icmpYes Xl.here hexec rfl (pc0 := 20) rfl (hb hbytes d20) rfl (ii_le_t (hp i (by omega))) (by decide) rfl ?_
        refine XS.aloadN Xl.here hexec rfl (hb hbytes d26) rfl rfl ?_
        refine XS.iloadN Xl.here hexec rfl (hb hbytes d27) rfl ?_
        refine XS.iload Xl.here hexec rfl (hb hbytes d28) rfl ?_
        refine i2b Xl.here hexec rfl (hb hbytes d30) rfl ?_
        exact Steps.refl _)
      obtain ⟨T7, X7, p7, st7⟩ := Xl.aput hexec hBk rfl hlt rfl (fits_lo8 (cv A (o + i))) (g := (mkF m 31 #[.val (.ref b), .val (.int (Int32.ofNat (o + i))), .val (.ref d), .val (.int (Int32.ofNat (q + i))), .val (.int (Int32.ofNat len)), .val (.int (Int32.ofNat i)), .val (.int (cv A (o + i)))] [.int (lo8 (cv A (o + i))), .int (Int32.ofNat (q + i)), .ref d])) rfl (rest := []) rfl (hb hbytes d31)
      have c8 : Steps p.tables e below (s₁.setTop (entryFrame m #[.ref b, .int (Int32.ofNat o), .ref d, .int (Int32.ofNat q), .int (Int32.ofNat len)] 7)) (T7.setTop (mkF m 32 #[.val (.ref b), .val (.int (Int32.ofNat (o + i))), .val (.ref d), .val (.int (Int32.ofNat (q + i))), .val (.int (Int32.ofNat len)), .val (.int (Int32.ofNat i)), .val (.int (cv A (o + i)))] [])) := c6.trans (st7 _ (Steps.refl _))
      have c9 : Steps p.tables e below (s₁.setTop (entryFrame m #[.ref b, .int (Int32.ofNat o), .ref d, .int (Int32.ofNat q), .int (Int32.ofNat len)] 7)) (T7.setTop (mkF m 3 #[.val (.ref b), .val (.int (Int32.ofNat (o + i) + 1)), .val (.ref d), .val (.int (Int32.ofNat (q + i) + 1)), .val (.int (Int32.ofNat len)), .val (.int (Int32.ofNat i + 1)), .val (.int (cv A (o + i)))] [])) := c8.trans (by
        refine iincV X7.here hexec rfl 1 (hb hbytes d32) (by decide) rfl rfl ?_
        refine iincV X7.here hexec rfl 1 (hb hbytes d35) (by decide) rfl rfl ?_
        refine iincV X7.here hexec rfl 1 (hb hbytes d38) (by decide) rfl rfl ?_
        refine XS.goto X7.here hexec rfl (pc0 := 41) rfl (hb hbytes d41) (by decide) rfl ?_
        exact Steps.refl _)
      have c10 : Steps p.tables e below (s₁.setTop (entryFrame m #[.ref b, .int (Int32.ofNat o), .ref d, .int (Int32.ofNat q), .int (Int32.ofNat len)] 7)) (T7.setTop (mkF m 3 #[.val (.ref b), .val (.int (Int32.ofNat (o + (i + 1)))), .val (.ref d), .val (.int (Int32.ofNat (q + (i + 1)))), .val (.int (Int32.ofNat len)), .val (.int (Int32.ofNat (i + 1))), .val (.int (cv A (o + i)))] [])) := by
        have := c9
        rw [succ32, succ32, succ32] at this
        exact this
      exact ih (i + 1) (by omega) _ (Or.inr ⟨_, rfl, rfl⟩) T7 _ (by rw [copyLocs_step, ← List.append_assoc]; exact X7) (pl.trans p7) (fl.step (by omega) hlt (by simp)) c10
  obtain ⟨T9, B9, z9, X9, p9, f9, g9⟩ := loop len 0 (by omega) .unset (Or.inl rfl) s₁ B (by simpa [copyLocs] using X0) ⟨hB0.1, fun _ _ => rfl, rfl⟩ (Laid.zero _ _ _) c2
  have c11 : Steps p.tables e below (s₁.setTop (entryFrame m #[.ref b, .int (Int32.ofNat o), .ref d, .int (Int32.ofNat q), .int (Int32.ofNat len)] 7)) (T9.setTop (mkF m 46 #[.val (.ref b), .val (.int (Int32.ofNat (o + len))), .val (.ref d), .val (.int (Int32.ofNat (q + len))), .val (.int (Int32.ofNat len)), .val (.int (Int32.ofNat len)), z9] [.int (Int32.ofNat len)])) := g9.trans (by
    refine XS.iload X9.here hexec rfl (hb hbytes d3) rfl ?_
    refine XS.iload X9.here hexec rfl (hb hbytes d5) rfl ?_
    refine XS.icmpYes X9.here hexec rfl (pc0 := 7) rfl (hb hbytes d7) rfl (ii_ge_t (nlt32 (by omega) (Nat.le_refl _))) (by decide) rfl ?_
    refine XS.iload X9.here hexec rfl (hb hbytes d44) rfl ?_
    exact Steps.refl _)
  exact ⟨T9, some (.int (Int32.ofNat len)), _, _, _, X9, by simp, rfl, rfl, (fun h => by cases h), ⟨rfl, B9, p9.from hh0, f9⟩, fun fs hl => c11.trans (X9.ireturnOut hexec hret rfl (Or.inl rfl) (hb hbytes d46) hl)⟩
end Cmp5
namespace Cmp3
def yN : MethodName := ⟨"java/lang/StringUTF16", "compress", "([CII)[B"⟩
abbrev yB : ByteArray := jdk_52_method_16_code
theorem d0 : decode yB 0 = .ok (.iload_n 2, 1) := by decide +kernel
theorem d1 : decode yB 1 = .ok (.newarray .byte, 2) := by decide +kernel
theorem d3 : decode yB 3 = .ok (.astore_n 3, 1) := by decide +kernel
theorem d4 : decode yB 4 = .ok (.aload_n 0, 1) := by decide +kernel
theorem d5 : decode yB 5 = .ok (.iload_n 1, 1) := by decide +kernel
theorem d6 : decode yB 6 = .ok (.aload_n 3, 1) := by decide +kernel
theorem d7 : decode yB 7 = .ok (.iconst 0, 1) := by decide +kernel
theorem d8 : decode yB 8 = .ok (.iload_n 2, 1) := by decide +kernel
theorem d9 : decode yB 9 = .ok (.invokestatic 115, 3) := by decide +kernel
theorem d12 : decode yB 12 = .ok (.istore 4, 2) := by decide +kernel
theorem d14 : decode yB 14 = .ok (.iload 4, 2) := by decide +kernel
theorem d16 : decode yB 16 = .ok (.iload_n 2, 1) := by decide +kernel
theorem d17 : decode yB 17 = .ok (.if_icmp (.eq) 40, 3) := by decide +kernel
theorem d57 : decode yB 57 = .ok (.aload_n 3, 1) := by decide +kernel
theorem d58 : decode yB 58 = .ok (.areturn, 1) := by decide +kernel
def site : List Cond := [.arrayClass .byte, Cmp5.tab] ++ staticW U16 115 Cmp5.yN
def tab : Cond := tabOf yN yB 6 (some (.array .byte)) site
def P (b : Addr) (A : Cell) (o len : Nat) (args : Array Value) (s : State) : Prop := args = #[.ref b, .int (Int32.ofNat o), .int (Int32.ofNat len)] ∧ Ch b A s ∧ o + len ≤ A.slots.size ∧ len ≤ 536870912 ∧ ∀ i, i < len → ¬ 255 < cv A (o + i)
def E (b : Addr) (A : Cell) (o len : Nat) (r : Option Value) (s u : State) : Prop := NewArr .byte "[B" len (fun j => .int (lo8 (cv A (o + j)))) r s u ∧ u.heap.size = s.heap.size + 1
/-- no char of the range above 255: a new byte[] of their low bytes -/
theorem law (l : Launch) (b : Addr) (A : Cell) (o len : Nat) : Law l yN 3 3 1 18 yB 6 (some (.array .byte)) site (P b A o len) (E b A o len) [] 1 len := by
  refine Law.of_walk (plainFor_of_name (by decide +kernel)) (by decide +kernel) (by decide +kernel) (by decide) (fun _ _ h => by rw [h.1]; rfl) (fun _ U U' hal hh h => ⟨h.1, h.2.1.mv hal hh, h.2.2⟩) (fun r U U' V V' h1 hal h2 h => ⟨NewArr.mv r U U' V V' h1 hal h2 h.1, by rw [h1, h2]; exact h.2⟩) ?_
  intro p e s m args below meth c s₁ X0 hexec hbytes hml hret hlk hnm hown hh0 W hP
  obtain ⟨rfl, hA, l1, l2, hp⟩ := hP
  have a31 := hA.1.2.2.2
  have c1 : Steps p.tables e below (s₁.setTop (entryFrame m #[.ref b, .int (Int32.ofNat o), .int (Int32.ofNat len)] 6)) (s₁.setTop (mkF m 0 #[.val (.ref b), .val (.int (Int32.ofNat o)), .val (.int (Int32.ofNat len)), .unset, .unset, .unset] [])) := entry rfl
  have c2 : Steps p.tables e below (s₁.setTop (entryFrame m #[.ref b, .int (Int32.ofNat o), .int (Int32.ofNat len)] 6)) (s₁.setTop (mkF m 1 #[.val (.ref b), .val (.int (Int32.ofNat o)), .val (.int (Int32.ofNat len)), .unset, .unset, .unset] [.int (Int32.ofNat len)])) := c1.trans (by
    refine XS.iloadN X0.here hexec rfl (hb hbytes d0) rfl ?_
    exact Steps.refl _)
  obtain ⟨T3, B3, X3, ba3, bs3, bv3, bh3, bf3, st3⟩ := X0.anew hexec (atype := .byte) (wk W (.arrayClass .byte)) rfl (by show len * 1 ≤ _; omega) (by omega) (g := (mkF m 1 #[.val (.ref b), .val (.int (Int32.ofNat o)), .val (.int (Int32.ofNat len)), .unset, .unset, .unset] [.int (Int32.ofNat len)])) rfl (hb hbytes d1) (rest := []) rfl (Nat.le_refl _) (by show 0 + len ≤ len; omega)
  rw [hh0] at ba3 st3
  have kp3 : XT.Kept s T3 := (XT.Kept.of_eq hh0).push bh3
  have hA3 := hA.keep X3.warmed.alike (kp3 _ _ hA.1.1)
  have hne : b ≠ s.heap.size := hA.1.ne
  have c4 : Steps p.tables e below (s₁.setTop (entryFrame m #[.ref b, .int (Int32.ofNat o), .int (Int32.ofNat len)] 6)) (T3.setTop (mkF m 3 #[.val (.ref b), .val (.int (Int32.ofNat o)), .val (.int (Int32.ofNat len)), .unset, .unset, .unset] [.ref s.heap.size])) := c2.trans (st3 _ (Steps.refl _))
  have c5 : Steps p.tables e below (s₁.setTop (entryFrame m #[.ref b, .int (Int32.ofNat o), .int (Int32.ofNat len)] 6)) (T3.setTop (mkF m 9 #[.val (.ref b), .val (.int (Int32.ofNat o)), .val (.int (Int32.ofNat len)), .val (.ref s.heap.size), .unset, .unset] [.int (Int32.ofNat len), .int 0, .ref s.heap.size, .int (Int32.ofNat o), .ref b])) := c4.trans (by
    refine XS.astoreN X3.here hexec rfl (hb hbytes d3) rfl rfl rfl ?_
    refine XS.aloadN X3.here hexec rfl (hb hbytes d4) rfl rfl ?_
    refine XS.iloadN X3.here hexec rfl (hb hbytes d5) rfl ?_
    refine XS.aloadN X3.here hexec rfl (hb hbytes d6) rfl rfl ?_
    refine iconstV X3.here hexec rfl 0 (hb hbytes d7) (by decide) ?_
    refine XS.iloadN X3.here hexec rfl (hb hbytes d8) rfl ?_
    exact Steps.refl _)
  obtain ⟨v6, T6, X6, E6, g6⟩ := X3.callS hexec (Cmp5.law l b A s.heap.size B3 o 0 len) hown (wks W (staticW U16 115 Cmp5.yN)) (wk W Cmp5.tab) (W := 0) (Nat.le_of_ble_eq_true rfl) (Nat.le_of_ble_eq_true rfl) (Nat.le_refl _) (by show 0 + len + 0 ≤ len; omega) (g := (mkF m 9 #[.val (.ref b), .val (.int (Int32.ofNat o)), .val (.int (Int32.ofNat len)), .val (.ref s.heap.size), .unset, .unset] [.int (Int32.ofNat len), .int (Int32.ofNat 0), .ref s.heap.size, .int (Int32.ofNat o), .ref b])) rfl (by rw [hml]; rfl) c5 (argsL := [.ref b, .int (Int32.ofNat o), .ref s.heap.size, .int (Int32.ofNat 0), .int (Int32.ofNat len)]) (rest := []) rfl rfl (by show 2 * 0 + 0 ≤ _; decide) (hb hbytes d9) (⟨rfl, hA3, ba3, hne, l1, by rw [bs3]; simp, hp⟩)
  obtain ⟨rfl, B6, p6, f6⟩ := E6
  have c7 : Steps p.tables e below (s₁.setTop (entryFrame m #[.ref b, .int (Int32.ofNat o), .int (Int32.ofNat len)] 6)) (T6.setTop (mkF m 12 #[.val (.ref b), .val (.int (Int32.ofNat o)), .val (.int (Int32.ofNat len)), .val (.ref s.heap.size), .unset, .unset] [.int (Int32.ofNat len)])) := g6
  have c8 : Steps p.tables e below (s₁.setTop (entryFrame m #[.ref b, .int (Int32.ofNat o), .int (Int32.ofNat len)] 6)) (T6.setTop (mkF m 58 #[.val (.ref b), .val (.int (Int32.ofNat o)), .val (.int (Int32.ofNat len)), .val (.ref s.heap.size), .val (.int (Int32.ofNat len)), .unset] [.ref s.heap.size])) := c7.trans (by
    refine XS.istore X6.here hexec rfl (hb hbytes d12) rfl rfl ?_
    refine XS.iload X6.here hexec rfl (hb hbytes d14) rfl ?_
    refine XS.iloadN X6.here hexec rfl (hb hbytes d16) rfl ?_
    refine XS.icmpYes X6.here hexec rfl (pc0 := 17) rfl (hb hbytes d17) rfl (ii_eq_t rfl) (by decide) rfl ?_
    refine XS.aloadN X6.here hexec rfl (hb hbytes d57) rfl rfl ?_
    exact Steps.refl _)
  have X8 := X6.wide (L' := []) (cells' := 1) (slots' := len) (fun x hx hlt => by
    simp only [List.nil_append, copyLocs, List.mem_map, List.mem_range] at hx
    obtain ⟨i, -, rfl⟩ := hx
    exact absurd hlt (Nat.lt_irrefl _)) (Nat.le_refl _) (by omega)
  exact ⟨T6, some (.ref s.heap.size), _, _, _, X8, rfl, rfl, rfl, (fun h => by cases h), ⟨⟨rfl, B6, ba3.like (X3.warmed.alike.symm.trans X6.warmed.alike) p6.1 f6.1 f6.2.1 f6.2.2.1, f6.2.1.trans bv3, by rw [X6.warmed.alike.findClass, f6.1]; exact bf3, by rw [f6.2.2.1, bs3]; simp, fun j hj => by rw [f6.2.2.2 j, if_pos (by omega)]; rfl, kp3.put p6 (Nat.le_refl _)⟩, by rw [p6.2.2, bh3, hh0]; simp⟩, fun fs hl => c8.trans (X8.areturnOut hexec rfl hret rfl (hb hbytes d58) hl)⟩
end Cmp3
namespace CodL
def yN : MethodName := ⟨"java/lang/StringUTF16", "coderFromArrayLen", "([BI)B"⟩
abbrev yB : ByteArray := jdk_52_method_15_code
theorem d0 : decode yB 0 = .ok (.iload_n 1, 1) := by decide +kernel
theorem d1 : decode yB 1 = .ok (.aload_n 0, 1) := by decide +kernel
theorem d2 : decode yB 2 = .ok (.arraylength, 1) := by decide +kernel
theorem d3 : decode yB 3 = .ok (.isub, 1) := by decide +kernel
theorem d4 : decode yB 4 = .ok (.bipush 31, 2) := by decide +kernel
theorem d6 : decode yB 6 = .ok (.iushr, 1) := by decide +kernel
theorem d7 : decode yB 7 = .ok (.i2b, 1) := by decide +kernel
theorem d8 : decode yB 8 = .ok (.ireturn, 1) := by decide +kernel
def site : List Cond := []
def tab : Cond := tabOf yN yB 2 (some .byte) site
def P (d : Addr) (B : Cell) (args : Array Value) (s : State) : Prop := args = #[.ref d, .int (Int32.ofNat B.slots.size)] ∧ Arr .byte d B s
def E (r : Option Value) (s u : State) : Prop := XT.PureE (some (.int 0)) r s u
/-- an array as long as the number of chars: LATIN1 -/
theorem law (l : Launch) (d : Addr) (B : Cell) : Law l yN 2 2 0 0 yB 2 (some .byte) site (P d B) E [] 0 0 := by
  refine Law.of_walk (plainFor_of_name (by decide +kernel)) (by decide +kernel) (by decide +kernel) (by decide) (fun _ _ h => by rw [h.1]; rfl) (fun _ U U' hal hh h => ⟨h.1, h.2.mv hal hh⟩) (fun r U U' V V' h1 hal h2 h => XT.PureE.mv r U U' V V' h1 hal h2 h) ?_
  intro p e s m args below meth c s₁ X0 hexec hbytes hml hret hlk hnm hown hh0 W hP
  obtain ⟨rfl, hB⟩ := hP
  have hB0 := hB.mv X0.warmed.alike hh0
  have c1 : Steps p.tables e below (s₁.setTop (entryFrame m #[.ref d, .int (Int32.ofNat B.slots.size)] 2)) (s₁.setTop (mkF m 0 #[.val (.ref d), .val (.int (Int32.ofNat B.slots.size))] [])) := entry rfl
  have c2 : Steps p.tables e below (s₁.setTop (entryFrame m #[.ref d, .int (Int32.ofNat B.slots.size)] 2)) (s₁.setTop (mkF m 2 #[.val (.ref d), .val (.int (Int32.ofNat B.slots.size))] [.ref d, .int (Int32.ofNat B.slots.size)])) := c1.trans (by
    refine XS.iloadN X0.here hexec rfl (hb hbytes d0) rfl ?_
    refine XS.aloadN X0.here hexec rfl (hb hbytes d1) rfl rfl ?_
    exact Steps.refl _)
  have c3 : Steps p.tables e below (s₁.setTop (entryFrame m #[.ref d, .int (Int32.ofNat B.slots.size)] 2)) (s₁.setTop (mkF m 8 #[.val (.ref d), .val (.int (Int32.ofNat B.slots.size))] [.int (lo8 (ushr (Int32.ofNat B.slots.size - Int32.ofNat B.slots.size) 31))])) := c2.trans (by
    refine X0.alen hexec hB0 rfl rfl (hb hbytes d2) ?_
    refine XS.isub X0.here hexec rfl (hb hbytes d3) rfl ?_
    refine bipushV X0.here hexec rfl 31 (hb hbytes d4) (by decide) ?_
    refine iushr X0.here hexec rfl (hb hbytes d6) rfl ?_
    refine i2b X0.here hexec rfl (hb hbytes d7) rfl ?_
    exact Steps.refl _)
  have e0 : lo8 (ushr (Int32.ofNat B.slots.size - Int32.ofNat B.slots.size) 31) = 0 := by rw [Int32.sub_self]; decide
  rw [e0] at c3
  exact ⟨s₁, some (.int 0), _, _, _, X0, rfl, rfl, rfl, (fun h => by cases h), ⟨rfl, hh0⟩, fun fs hl => c3.trans (X0.ireturnOut hexec hret rfl (Or.inr (Or.inr (Or.inl rfl))) (hb hbytes d8) hl)⟩
end CodL
/-- the String at a is Latin-1 over a new byte[] (the heap's one new cell): the low bytes of the len chars of A from o on; every cell but a is kept -/
def Got (a : Addr) (D : Cell) (fV fC : Field) (A : Cell) (o len : Nat) (r : Option Value) (s u : State) : Prop := r = none ∧ ∃ D' V : Cell, Blank "java/lang/String" a D' u ∧ Same D D' [fV.slot, fC.slot] ∧ D'.slots[fV.slot]? = some (.ref s.heap.size) ∧ D'.slots[fC.slot]? = some (.int 0) ∧ Arr .byte s.heap.size V u ∧ V.vm = .none ∧ u.vm.findClass "[B" = some V.cls ∧ V.slots.size = len ∧ (∀ j, j < len → V.slots[j]? = some (.int (lo8 (cv A (o + j))))) ∧ (∀ (y : Addr) (c : Cell), y ≠ a → s.heap[y]? = some c → u.heap[y]? = some c) ∧ u.heap.size = s.heap.size + 1
theorem Got.mv {a : Addr} {D A : Cell} {fV fC : Field} {o len : Nat} : ∀ r (U U' V V' : State), U'.heap = U.heap → V.vm.Alike V'.vm → V'.heap = V.heap → Got a D fV fC A o len r U V → Got a D fV fC A o len r U' V' :=
  fun r U U' V V' h1 hal h2 ⟨e0, D', X, a1, a2, a3, a4, a5, a6, a7, a8, a9, a10, a11⟩ => ⟨e0, D', X, a1.mv hal h2, a2, by rw [h1]; exact a3, a4, by rw [h1]; exact a5.mv hal h2, a6, by rw [hal.findClass]; exact a7, a8, a9, by rw [h1, h2]; exact a10, by rw [h1, h2]; exact a11⟩
namespace New4
def yN : MethodName := ⟨"java/lang/String", "<init>", "([CIILjava/lang/Void;)V"⟩
abbrev yB : ByteArray := jdk_42_method_149_code
theorem d0 : decode yB 0 = .ok (.aload_n 0, 1) := by decide +kernel
theorem d1 : decode yB 1 = .ok (.invokespecial 1, 3) := by decide +kernel
theorem d4 : decode yB 4 = .ok (.iload_n 3, 1) := by decide +kernel
theorem d5 : decode yB 5 = .ok (.ifCond (.ne) 22, 3) := by decide +kernel
theorem d27 : decode yB 27 = .ok (.getstatic 38, 3) := by decide +kernel
theorem d30 : decode yB 30 = .ok (.ifCond (.eq) 28, 3) := by decide +kernel
theorem d33 : decode yB 33 = .ok (.aload_n 1, 1) := by decide +kernel
theorem d34 : decode yB 34 = .ok (.iload_n 2, 1) := by decide +kernel
theorem d35 : decode yB 35 = .ok (.iload_n 3, 1) := by decide +kernel
theorem d36 : decode yB 36 = .ok (.invokestatic 177, 3) := by decide +kernel
theorem d39 : decode yB 39 = .ok (.astore 5, 2) := by decide +kernel
theorem d41 : decode yB 41 = .ok (.aload_n 0, 1) := by decide +kernel
theorem d42 : decode yB 42 = .ok (.aload 5, 2) := by decide +kernel
theorem d44 : decode yB 44 = .ok (.iload_n 3, 1) := by decide +kernel
theorem d45 : decode yB 45 = .ok (.invokestatic 47, 3) := by decide +kernel
theorem d48 : decode yB 48 = .ok (.putfield 15, 3) := by decide +kernel
theorem d51 : decode yB 51 = .ok (.aload_n 0, 1) := by decide +kernel
theorem d52 : decode yB 52 = .ok (.aload 5, 2) := by decide +kernel
theorem d54 : decode yB 54 = .ok (.putfield 9, 3) := by decide +kernel
theorem d57 : decode yB 57 = .ok (.return_, 1) := by decide +kernel
def site : List Cond := [.fieldLink "java/lang/String" 38 "java/lang/String" "COMPACT_STRINGS" "Z", Cmp3.tab, CodL.tab, .laysFinal "java/lang/String" "java/lang/String" "value" "[B", .fieldLink "java/lang/String" 9 "java/lang/String" "value" "[B", .laysFinal "java/lang/String" "java/lang/String" "coder" "B", .fieldLink "java/lang/String" 15 "java/lang/String" "coder" "B"] ++ objW "java/lang/String" 1 ++ staticW "java/lang/String" 177 Cmp3.yN ++ staticW "java/lang/String" 47 CodL.yN
def tab : Cond := tabOf yN yB 6 none site
def P (a : Addr) (D : Cell) (fV fC : Field) (b : Addr) (A : Cell) (z : Int32) (o len : Nat) (args : Array Value) (s : State) : Prop := args = #[.ref a, .ref b, .int (Int32.ofNat o), .int (Int32.ofNat len), .null] ∧ Blank "java/lang/String" a D s ∧ Found "java/lang/String" "value" "[B" fV s ∧ Found "java/lang/String" "coder" "B" fC s ∧ Ch b A s ∧ StaticIs s "java/lang/String" "COMPACT_STRINGS" "Z" (.int z) ∧ ¬ z = 0 ∧ 0 < len ∧ o + len ≤ A.slots.size ∧ len ≤ 536870912 ∧ ∀ i, i < len → ¬ 255 < cv A (o + i)
def E (a : Addr) (D : Cell) (fV fC : Field) (A : Cell) (o len : Nat) (r : Option Value) (s u : State) : Prop := Got a D fV fC A o len r s u
/-- len > 0, no char of the range above 255: a Latin-1 String of their low bytes -/
theorem law (l : Launch) (a : Addr) (D : Cell) (fV fC : Field) (b : Addr) (A : Cell) (z : Int32) (o len : Nat) : Law l yN 5 4 2 35 yB 6 none site (P a D fV fC b A z o len) (E a D fV fC A o len) [⟨a, fC.slot⟩, ⟨a, fV.slot⟩] 1 len := by
  refine Law.of_walk (plainFor_of_name (by decide +kernel)) (by decide +kernel) (by decide +kernel) (by decide) (fun _ _ h => by rw [h.1]; rfl) (fun _ U U' hal hh h => ⟨h.1, h.2.1.mv hal hh, h.2.2.1.al hal, h.2.2.2.1.al hal, h.2.2.2.2.1.mv hal hh, h.2.2.2.2.2.1.there hal hh, h.2.2.2.2.2.2⟩) (fun r U U' V V' h1 hal h2 h => Got.mv r U U' V V' h1 hal h2 h) ?_
  intro p e s m args below meth c s₁ X0 hexec hbytes hml hret hlk hnm hown hh0 W hP
  obtain ⟨rfl, hB, f1, f2, hA, s1, hz, l0, l1, l2, hp⟩ := hP
  have a31 := hA.1.2.2.2
  have c1 : Steps p.tables e below (s₁.setTop (entryFrame m #[.ref a, .ref b, .int (Int32.ofNat o), .int (Int32.ofNat len), .null] 6)) (s₁.setTop (mkF m 0 #[.val (.ref a), .val (.ref b), .val (.int (Int32.ofNat o)), .val (.int (Int32.ofNat len)), .val .null, .unset] [])) := entry rfl
  have c2 : Steps p.tables e below (s₁.setTop (entryFrame m #[.ref a, .ref b, .int (Int32.ofNat o), .int (Int32.ofNat len), .null] 6)) (s₁.setTop (mkF m 1 #[.val (.ref a), .val (.ref b), .val (.int (Int32.ofNat o)), .val (.int (Int32.ofNat len)), .val .null, .unset] [.ref a])) := c1.trans (by
    refine XS.aloadN X0.here hexec rfl (hb hbytes d0) rfl rfl ?_
    exact Steps.refl _)
  obtain ⟨T3, X3, q3, st3⟩ := X0.oinit hexec hown (wks W (objW "java/lang/String" 1)) (g := (mkF m 1 #[.val (.ref a), .val (.ref b), .val (.int (Int32.ofNat o)), .val (.int (Int32.ofNat len)), .val .null, .unset] [.ref a])) rfl (by rw [hml]; rfl) (rest := []) rfl (hb hbytes d1) (W := 0) (by show 2 * 0 + 0 ≤ _; decide) (Nat.le_of_ble_eq_true rfl) (Nat.le_of_ble_eq_true rfl)
  have hh3 := q3.trans hh0
  have c4 : Steps p.tables e below (s₁.setTop (entryFrame m #[.ref a, .ref b, .int (Int32.ofNat o), .int (Int32.ofNat len), .null] 6)) (T3.setTop (mkF m 27 #[.val (.ref a), .val (.ref b), .val (.int (Int32.ofNat o)), .val (.int (Int32.ofNat len)), .val .null, .unset] [])) := (c2.trans (st3 _ (Steps.refl _))).trans (by
    refine XS.iloadN X3.here hexec rfl (hb hbytes d4) rfl ?_
    refine XS.ifYes X3.here hexec rfl (pc0 := 5) rfl (hb hbytes d5) rfl (i0_ne_t (nz32 (by omega) l0)) (by decide) rfl ?_
    exact Steps.refl _)
  obtain ⟨T5, X5, q5, st5⟩ := X3.sget hexec hown (wk W (.fieldLink "java/lang/String" 38 "java/lang/String" "COMPACT_STRINGS" "Z")) s1 (fun _ _ h => by rw [hh3]; exact h) (g := (mkF m 27 #[.val (.ref a), .val (.ref b), .val (.int (Int32.ofNat o)), .val (.int (Int32.ofNat len)), .val .null, .unset] [])) rfl (hb hbytes d27)
  have hh5 := q5.trans hh3
  have c6 : Steps p.tables e below (s₁.setTop (entryFrame m #[.ref a, .ref b, .int (Int32.ofNat o), .int (Int32.ofNat len), .null] 6)) (T5.setTop (mkF m 30 #[.val (.ref a), .val (.ref b), .val (.int (Int32.ofNat o)), .val (.int (Int32.ofNat len)), .val .null, .unset] [.int z])) := c4.trans (st5 _ (Steps.refl _))
  have c7 : Steps p.tables e below (s₁.setTop (entryFrame m #[.ref a, .ref b, .int (Int32.ofNat o), .int (Int32.ofNat len), .null] 6)) (T5.setTop (mkF m 36 #[.val (.ref a), .val (.ref b), .val (.int (Int32.ofNat o)), .val (.int (Int32.ofNat len)), .val .null, .unset] [.int (Int32.ofNat len), .int (Int32.ofNat o), .ref b])) := c6.trans (by
    refine XS.ifNo X5.here hexec rfl (hb hbytes d30) rfl (i0_eq_f hz) ?_
    refine XS.aloadN X5.here hexec rfl (hb hbytes d33) rfl rfl ?_
    refine XS.iloadN X5.here hexec rfl (hb hbytes d34) rfl ?_
    refine XS.iloadN X5.here hexec rfl (hb hbytes d35) rfl ?_
    exact Steps.refl _)
  obtain ⟨v8, T8, X8, E8, g8⟩ := X5.callS hexec (Cmp3.law l b A o len) hown (wks W (staticW "java/lang/String" 177 Cmp3.yN)) (wk W Cmp3.tab) (W := 0) (Nat.le_of_ble_eq_true rfl) (Nat.le_of_ble_eq_true rfl) (Nat.le_refl _) (by show 0 + len ≤ len; omega) (g := (mkF m 36 #[.val (.ref a), .val (.ref b), .val (.int (Int32.ofNat o)), .val (.int (Int32.ofNat len)), .val .null, .unset] [.int (Int32.ofNat len), .int (Int32.ofNat o), .ref b])) rfl (by rw [hml]; rfl) c7 (argsL := [.ref b, .int (Int32.ofNat o), .int (Int32.ofNat len)]) (rest := []) rfl rfl (by show 2 * 0 + 0 ≤ _; decide) (hb hbytes d36) (⟨rfl, hA.mv X5.warmed.alike hh5, l1, l2, hp⟩)
  obtain ⟨e8, z8⟩ := E8
  obtain ⟨rfl, N, n1, n2, n3, n4, n5, n6⟩ := NewArr.mv _ T5 s _ _ hh5.symm (Vm.Alike.refl _) rfl e8
  rw [hh5] at z8
  have hB1 := hB.keep X8.warmed.alike (n6 _ _ hB.1)
  have hne : s.heap.size ≠ a := (Nat.ne_of_lt (Array.getElem?_eq_some_iff.mp hB.1).1).symm
  have c9 : Steps p.tables e below (s₁.setTop (entryFrame m #[.ref a, .ref b, .int (Int32.ofNat o), .int (Int32.ofNat len), .null] 6)) (T8.setTop (mkF m 39 #[.val (.ref a), .val (.ref b), .val (.int (Int32.ofNat o)), .val (.int (Int32.ofNat len)), .val .null, .unset] [.ref s.heap.size])) := g8
  have c10 : Steps p.tables e below (s₁.setTop (entryFrame m #[.ref a, .ref b, .int (Int32.ofNat o), .int (Int32.ofNat len), .null] 6)) (T8.setTop (mkF m 45 #[.val (.ref a), .val (.ref b), .val (.int (Int32.ofNat o)), .val (.int (Int32.ofNat len)), .val .null, .val (.ref s.heap.size)] [.int (Int32.ofNat N.slots.size), .ref s.heap.size, .ref a])) := by
    have hc : Steps p.tables e below (s₁.setTop (entryFrame m #[.ref a, .ref b, .int (Int32.ofNat o), .int (Int32.ofNat len), .null] 6)) (T8.setTop (mkF m 45 #[.val (.ref a), .val (.ref b), .val (.int (Int32.ofNat o)), .val (.int (Int32.ofNat len)), .val .null, .val (.ref s.heap.size)] [.int (Int32.ofNat len), .ref s.heap.size, .ref a])) := c9.trans (by
      refine XS.astore X8.here hexec rfl (hb hbytes d39) rfl rfl rfl ?_
      refine XS.aloadN X8.here hexec rfl (hb hbytes d41) rfl rfl ?_
      refine XS.aload X8.here hexec rfl (hb hbytes d42) rfl rfl ?_
      refine XS.iloadN X8.here hexec rfl (hb hbytes d44) rfl ?_
      exact Steps.refl _)
    rw [n4]; exact hc
  obtain ⟨v11, T11, X11, E11, g11⟩ := X8.callS hexec (CodL.law l s.heap.size N) hown (wks W (staticW "java/lang/String" 47 CodL.yN)) (wk W CodL.tab) (W := 1) (Nat.le_of_ble_eq_true rfl) (Nat.le_of_ble_eq_true rfl) (Nat.le_refl _) (by show 0 + len + 0 ≤ len; omega) (g := (mkF m 45 #[.val (.ref a), .val (.ref b), .val (.int (Int32.ofNat o)), .val (.int (Int32.ofNat len)), .val .null, .val (.ref s.heap.size)] [.int (Int32.ofNat N.slots.size), .ref s.heap.size, .ref a])) rfl (by rw [hml]; rfl) c10 (argsL := [.ref s.heap.size, .int (Int32.ofNat N.slots.size)]) (rest := [.ref a]) rfl rfl (by show 2 * 0 + (1 + 0) ≤ _; decide) (hb hbytes d45) (⟨rfl, n1⟩)
  obtain ⟨rfl, q11⟩ := E11
  have hB11 := hB1.mv (X8.warmed.alike.symm.trans X11.warmed.alike) q11
  have c12 : Steps p.tables e below (s₁.setTop (entryFrame m #[.ref a, .ref b, .int (Int32.ofNat o), .int (Int32.ofNat len), .null] 6)) (T11.setTop (mkF m 48 #[.val (.ref a), .val (.ref b), .val (.int (Int32.ofNat o)), .val (.int (Int32.ofNat len)), .val .null, .val (.ref s.heap.size)] [.int 0, .ref a])) := g11
  obtain ⟨T13, X13, p13, bl13, sl13, st13⟩ := X11.finit hexec hown (wk W (.fieldLink "java/lang/String" 15 "java/lang/String" "coder" "B")) (Or.inr ⟨_, (wk W (.laysFinal "java/lang/String" "java/lang/String" "coder" "B"))⟩) (Or.inl ⟨rfl, hnm⟩) f2 (Or.inl rfl) hB11 (t := .byte) (by decide +kernel) rfl (g := (mkF m 48 #[.val (.ref a), .val (.ref b), .val (.int (Int32.ofNat o)), .val (.int (Int32.ofNat len)), .val .null, .val (.ref s.heap.size)] [.int 0, .ref a])) rfl (rest := []) rfl (hb hbytes d48)
  have c14 : Steps p.tables e below (s₁.setTop (entryFrame m #[.ref a, .ref b, .int (Int32.ofNat o), .int (Int32.ofNat len), .null] 6)) (T13.setTop (mkF m 54 #[.val (.ref a), .val (.ref b), .val (.int (Int32.ofNat o)), .val (.int (Int32.ofNat len)), .val .null, .val (.ref s.heap.size)] [.ref s.heap.size, .ref a])) := (c12.trans (st13 _ (Steps.refl _))).trans (by
    refine XS.aloadN X13.here hexec rfl (hb hbytes d51) rfl rfl ?_
    refine XS.aload X13.here hexec rfl (hb hbytes d52) rfl rfl ?_
    exact Steps.refl _)
  obtain ⟨T15, X15, p15, bl15, sl15, st15⟩ := X13.finit hexec hown (wk W (.fieldLink "java/lang/String" 9 "java/lang/String" "value" "[B")) (Or.inr ⟨_, (wk W (.laysFinal "java/lang/String" "java/lang/String" "value" "[B"))⟩) (Or.inl ⟨rfl, hnm⟩) f1 (Or.inl rfl) bl13 (t := (.array .byte)) (by decide +kernel) rfl (g := (mkF m 54 #[.val (.ref a), .val (.ref b), .val (.int (Int32.ofNat o)), .val (.int (Int32.ofNat len)), .val .null, .val (.ref s.heap.size)] [.ref s.heap.size, .ref a])) rfl (rest := []) rfl (hb hbytes d54)
  have c16 : Steps p.tables e below (s₁.setTop (entryFrame m #[.ref a, .ref b, .int (Int32.ofNat o), .int (Int32.ofNat len), .null] 6)) (T15.setTop (mkF m 57 #[.val (.ref a), .val (.ref b), .val (.int (Int32.ofNat o)), .val (.int (Int32.ofNat len)), .val .null, .val (.ref s.heap.size)] [])) := c14.trans (st15 _ (Steps.refl _))
  have ap := apart (Or.inr ⟨_, (wk W (.laysFinal "java/lang/String" "java/lang/String" "value" "[B"))⟩) (Or.inr ⟨_, (wk W (.laysFinal "java/lang/String" "java/lang/String" "coder" "B"))⟩) f1 f2 (t₁ := .array .byte) (t₂ := .byte) (by decide +kernel) (by decide +kernel) (by decide)
  have al := X8.warmed.alike.symm.trans X15.warmed.alike
  have n7 : T11.heap[s.heap.size]? = some N := by rw [q11]; exact n1.1
  exact ⟨T15, none, _, _, _, X15, by simp, rfl, by omega, (fun _ => rfl), ⟨rfl, _, N, bl15, ((Same.refl D _).set _ (by simp)).set _ (by simp), sl15, (Cell.slots_setSlot_ne _ ap).trans sl13, n1.keep al (p15.other hne (p13.other hne n7)), n2, by rw [al.findClass]; exact n3, n4, n5, fun y c h1 h2 => p15.other h1 (p13.other h1 (by rw [q11]; exact n6 y c h2)), by rw [p15.2.2, p13.2.2, q11]; exact z8⟩, fun fs hl => c16.trans (X15.returnOut hexec hret (hb hbytes d57) hl)⟩
end New4
namespace New1
def yN : MethodName := ⟨"java/lang/String", "<init>", "([C)V"⟩
abbrev yB : ByteArray := jdk_42_method_3_code
theorem d0 : decode yB 0 = .ok (.aload_n 0, 1) := by decide +kernel
theorem d1 : decode yB 1 = .ok (.aload_n 1, 1) := by decide +kernel
theorem d2 : decode yB 2 = .ok (.iconst 0, 1) := by decide +kernel
theorem d3 : decode yB 3 = .ok (.aload_n 1, 1) := by decide +kernel
theorem d4 : decode yB 4 = .ok (.arraylength, 1) := by decide +kernel
theorem d5 : decode yB 5 = .ok (.aconst_null, 1) := by decide +kernel
theorem d6 : decode yB 6 = .ok (.invokespecial 27, 3) := by decide +kernel
theorem d9 : decode yB 9 = .ok (.return_, 1) := by decide +kernel
def site : List Cond := [New4.tab] ++ initW "java/lang/String" 27 New4.yN
def tab : Cond := tabOf yN yB 2 none site
def P (a : Addr) (D : Cell) (fV fC : Field) (b : Addr) (A : Cell) (z : Int32) (args : Array Value) (s : State) : Prop := args = #[.ref a, .ref b] ∧ Blank "java/lang/String" a D s ∧ Found "java/lang/String" "value" "[B" fV s ∧ Found "java/lang/String" "coder" "B" fC s ∧ Ch b A s ∧ StaticIs s "java/lang/String" "COMPACT_STRINGS" "Z" (.int z) ∧ ¬ z = 0 ∧ 0 < A.slots.size ∧ A.slots.size ≤ 536870912 ∧ ∀ i, i < A.slots.size → ¬ 255 < cv A i
def E (a : Addr) (D : Cell) (fV fC : Field) (A : Cell) (r : Option Value) (s u : State) : Prop := Got a D fV fC A 0 A.slots.size r s u
/-- new String(chars), not empty, no char above 255: a Latin-1 String of their low bytes -/
theorem law (l : Launch) (a : Addr) (D : Cell) (fV fC : Field) (b : Addr) (A : Cell) (z : Int32) : Law l yN 2 1 3 52 yB 2 none site (P a D fV fC b A z) (E a D fV fC A) [⟨a, fC.slot⟩, ⟨a, fV.slot⟩] 1 A.slots.size := by
  refine Law.of_walk (plainFor_of_name (by decide +kernel)) (by decide +kernel) (by decide +kernel) (by decide) (fun _ _ h => by rw [h.1]; rfl) (fun _ U U' hal hh h => ⟨h.1, h.2.1.mv hal hh, h.2.2.1.al hal, h.2.2.2.1.al hal, h.2.2.2.2.1.mv hal hh, h.2.2.2.2.2.1.there hal hh, h.2.2.2.2.2.2⟩) (fun r U U' V V' h1 hal h2 h => Got.mv r U U' V V' h1 hal h2 h) ?_
  intro p e s m args below meth c s₁ X0 hexec hbytes hml hret hlk hnm hown hh0 W hP
  obtain ⟨rfl, hB, f1, f2, hA, s1, hz, l0, l2, hp⟩ := hP
  have c1 : Steps p.tables e below (s₁.setTop (entryFrame m #[.ref a, .ref b] 2)) (s₁.setTop (mkF m 0 #[.val (.ref a), .val (.ref b)] [])) := entry rfl
  have c2 : Steps p.tables e below (s₁.setTop (entryFrame m #[.ref a, .ref b] 2)) (s₁.setTop (mkF m 6 #[.val (.ref a), .val (.ref b)] [.null, .int (Int32.ofNat A.slots.size), .int 0, .ref b, .ref a])) := c1.trans (by
    refine XS.aloadN X0.here hexec rfl (hb hbytes d0) rfl rfl ?_
    refine XS.aloadN X0.here hexec rfl (hb hbytes d1) rfl rfl ?_
    refine iconstV X0.here hexec rfl 0 (hb hbytes d2) (by decide) ?_
    refine XS.aloadN X0.here hexec rfl (hb hbytes d3) rfl rfl ?_
    refine X0.alen hexec (hA.1.mv X0.warmed.alike hh0) rfl rfl (hb hbytes d4) ?_
    refine XS.aconstNull X0.here hexec rfl (hb hbytes d5) ?_
    exact Steps.refl _)
  obtain ⟨v3, T3, X3, E3, g3⟩ := X0.callN hexec (New4.law l a D fV fC b A z 0 A.slots.size) rfl hown (wks W (initW "java/lang/String" 27 New4.yN)) (W New4.tab (by simp only [site, List.mem_cons, List.mem_append, true_or, or_true])) (W := 0) (Nat.le_of_ble_eq_true rfl) (Nat.le_of_ble_eq_true rfl) (Nat.le_refl _) (by show 0 + A.slots.size ≤ A.slots.size; omega) (g := (mkF m 6 #[.val (.ref a), .val (.ref b)] [.null, .int (Int32.ofNat A.slots.size), .int (Int32.ofNat 0), .ref b, .ref a])) rfl (by rw [hml]; rfl) c2 (argsL := [.ref b, .int (Int32.ofNat 0), .int (Int32.ofNat A.slots.size), .null]) (rest := []) rfl rfl (by show 2 * 0 + 0 ≤ _; decide) (hb hbytes d6) (⟨rfl, hB.mv X0.warmed.alike hh0, f1.al X0.warmed.alike, f2.al X0.warmed.alike, hA.mv X0.warmed.alike hh0, s1.there X0.warmed.alike hh0, hz, l0, by omega, l2, fun i hi => by rw [Nat.zero_add]; exact hp i hi⟩)
  have e0 := Got.mv _ s₁ s _ _ hh0.symm (Vm.Alike.refl _) rfl E3
  obtain rfl := e0.1
  have c4 : Steps p.tables e below (s₁.setTop (entryFrame m #[.ref a, .ref b] 2)) (T3.setTop (mkF m 9 #[.val (.ref a), .val (.ref b)] [])) := g3
  exact ⟨T3, none, _, _, _, X3, by simp, rfl, by omega, (fun _ => rfl), e0, fun fs hl => c4.trans (X3.returnOut hexec hret (hb hbytes d9) hl)⟩
theorem pays {l : Launch} {R : Room} {p : Program} {e : Env} {below : List Frame} {s : State} {sargs : Array Value} {len W : Nat} (a : Addr) (D : Cell) (fV fC : Field) (b : Addr) (A : Cell) (z : Int32) (htab : tab.before sargs s = true) (hfr : 4 ≤ R.frames) (hlo : W + 65 ≤ R.locals) :
    Back l R p e below s sargs yN len W (fun A₁ a₁ => A₁.cells + 1 ≤ R.cells ∧ A₁.slots + A.slots.size ≤ R.slots ∧ P a D fV fC b A z a₁ A₁.U) (fun A₁ _ v₁ B₁ => E a D fV fC A v₁ A₁.U B₁.U ∧ B₁.locs = A₁.locs ++ [⟨a, fC.slot⟩, ⟨a, fV.slot⟩] ∧ B₁.cells = A₁.cells + 1 ∧ B₁.slots = A₁.slots + A.slots.size) :=
  (law l a D fV fC b A z).pays htab hfr (by omega)
end New1
/-- the byte, read back as charAt reads it, is the char -/
theorem lo8_mask {x : Int32} (h0 : ¬ x < 0) (h1 : ¬ 255 < x) : lo8 x &&& 255 = x := by
  have t : ∀ k : Fin 256, lo8 (Int32.ofNat k.val) &&& 255 = Int32.ofNat k.val := by decide +kernel
  rw [Int32.lt_iff_toInt_lt] at h0 h1
  have e0 : (0 : Int32).toInt = 0 := rfl
  have e1 : (255 : Int32).toInt = 255 := rfl
  obtain ⟨k, hk⟩ : ∃ k : Nat, x.toInt = k := ⟨x.toInt.toNat, by omega⟩
  have hx : x = Int32.ofNat k := Int32.toInt_inj.mp (by rw [hk, Int32.toInt_ofNat_small (by omega)])
  rw [hx]
  exact t ⟨k, by omega⟩
end StrChars
namespace StrChars.Road
open Jvm Sem ClassFile Op Lib Jvm.Stand Jvm.Free Jvm.Free.XT
open Jvm.Lib.Cold (StaticIs)
abbrev ST : String := "java/lang/String"
/-- every table word that New1's law asks, flat -/
abbrev words : List Jvm.Cond := [.code New1.yN New1.yB 2 none, .initialized ST, .methodLink ST 27 New4.yN, .instanceMethod New4.yN,
  .code New4.yN New4.yB 6 none, .fieldLink ST 38 ST "COMPACT_STRINGS" "Z", .laysFinal ST ST "value" "[B", .fieldLink ST 9 ST "value" "[B", .laysFinal ST ST "coder" "B", .fieldLink ST 15 ST "coder" "B",
  .methodLink ST 1 Lib.objectInit, .instanceMethod Lib.objectInit, .code Lib.objectInit ⟨#[0xb1]⟩ 1 none, .methodLink ST 177 Cmp3.yN, .static Cmp3.yN, .methodLink ST 47 CodL.yN, .static CodL.yN,
  .code Cmp3.yN Cmp3.yB 6 (some (.array .byte)), .initialized U16, .arrayClass .byte, .methodLink U16 115 Cmp5.yN, .static Cmp5.yN, .code Cmp5.yN Cmp5.yB 7 (some .int), .code CodL.yN CodL.yB 2 (some .byte)]
theorem tab_of {a : Array Value} {s : State} (h : ∀ w ∈ words, w.before a s = true) : New1.tab.before a s = true := by
  have h5 : Cmp5.tab.before a s = true := unparts (wk h (.code Cmp5.yN Cmp5.yB 7 (some .int))) (wks h (.initialized Cmp5.yN.cls :: Cmp5.site))
  have hc : CodL.tab.before a s = true := unparts (wk h (.code CodL.yN CodL.yB 2 (some .byte))) (wks h (.initialized CodL.yN.cls :: CodL.site))
  have q5 : ∀ w ∈ Cmp5.tab :: words, w.before a s = true := fun w hw => (List.mem_cons.mp hw).elim (fun e => e ▸ h5) (h w)
  have h3 : Cmp3.tab.before a s = true := unparts (wk q5 (.code Cmp3.yN Cmp3.yB 6 (some (.array .byte)))) (wks q5 (.initialized Cmp3.yN.cls :: Cmp3.site))
  have q3 : ∀ w ∈ Cmp3.tab :: CodL.tab :: words, w.before a s = true := fun w hw => (List.mem_cons.mp hw).elim (fun e => e ▸ h3) fun hw => (List.mem_cons.mp hw).elim (fun e => e ▸ hc) (h w)
  have h4 : New4.tab.before a s = true := unparts (wk q3 (.code New4.yN New4.yB 6 none)) (wks q3 (.initialized New4.yN.cls :: New4.site))
  have q4 : ∀ w ∈ New4.tab :: words, w.before a s = true := fun w hw => (List.mem_cons.mp hw).elim (fun e => e ▸ h4) (h w)
  exact unparts (wk q4 (.code New1.yN New1.yB 2 none)) (wks q4 (.initialized New1.yN.cls :: New1.site))
/-- the words ride from the start Z to the walk's own state -/
theorem moved {Z s : State} {a0 args : Array Value} (hZ : Z.Warmed39 s.vm) (hw : ∀ d ∈ words, d.before a0 Z = true) : ∀ d ∈ words, d.before args s = true := fun d hd => by
  have q := hw d hd
  have t : ∀ d ∈ words, d = .arrayClass .byte ∨ (d.onTables && d.keepsFace) = true := by decide +kernel
  rcases t d hd with rfl | t
  · exact RoadKit.mvA hZ q
  · exact RoadKit.mv hZ q t
/-- WHAT COMES BACK, over the tables of the start Z: h the heap at the call, h' behind it -/
def Q (Z : State) (x : Addr) (A : Cell) (h : Heap) (v : Option Value) (h' : Heap) (L : List Loc) : Prop := v = none ∧ (∀ y ∈ L, y.base = x) ∧ RoadKit.Keep h h' [x] ∧ h'.size = h.size + 1 ∧ RoadKit.Exa Z h' x ST ∧ RoadKit.Fld Z h' x ST "value" "[B" (.ref h.size) ∧ RoadKit.Fld Z h' x ST "coder" "B" (.int 0) ∧
  (∃ V : Cell, RoadKit.Arr Z h' h.size V .byte ∧ V.vm = .none ∧ Z.vm.findClass "[B" = some V.cls ∧ V.slots.size = A.slots.size ∧ ∀ j, j < A.slots.size → V.slots[j]? = some (.int (lo8 (cv A j)))) ∧
  ∀ (O n d : String) (w : Value), RoadKit.Fld Z h x O n d w → RoadKit.slotOf Z O n d ≠ RoadKit.slotOf Z ST "value" "[B" → RoadKit.slotOf Z O n d ≠ RoadKit.slotOf Z ST "coder" "B" → RoadKit.Fld Z h' x O n d w
/-- **new String(chars) AT A CALL, IN THE ROAD'S FORM**: for specialBack behind newO: x the fresh String, b the char[] with the cell A -/
theorem back {p : Program} {l : Launch} {e : Env} {R : Room} {s : State} {args : Array Value} {below : List Frame} {len W : Nat} {Z : State} {a0 : Array Value} {h : Heap} (hZ : Z.Warmed39 s.vm) (hw : ∀ d ∈ words, d.before a0 Z = true) {kI : Nat} (wi : (Jvm.Cond.instantiable ST kI).before a0 Z = true)
    {x b : Addr} {A : Cell} {z : Int32} {v0 c0 : Value} (E : RoadKit.Exa Z h x ST) (V : RoadKit.Fld Z h x ST "value" "[B" v0) (C : RoadKit.Fld Z h x ST "coder" "B" c0) (K : RoadKit.Arr Z h b A .char) (hty : Typed .char A) (S : RoadKit.Sta Z h ST "COMPACT_STRINGS" "Z" (.int z)) (hz : ¬ z = 0)
    (l0 : 0 < A.slots.size) (l2 : A.slots.size ≤ 536870912) (hp : ∀ i, i < A.slots.size → ¬ 255 < cv A i) (hfr : 4 ≤ R.frames) (hlo : W + 65 ≤ R.locals) :
    Back l R p e below s args New1.yN len W (fun P a => a = #[.ref x, .ref b] ∧ P.U.heap = h ∧ P.cells + 1 ≤ R.cells ∧ P.slots + A.slots.size ≤ R.slots)
      (fun P _ v B => ∃ L, Q Z x A h v B.U.heap L ∧ B.locs = P.locs ++ L ∧ B.cells = P.cells + 1 ∧ B.slots = P.slots + A.slots.size) := by
  intro m meth c P g ig mk a X hg hsize hdg hW hn hp'
  obtain ⟨rfl, rfl, r1, r2⟩ := hp'
  have al : Z.vm.Alike P.U.vm := hZ.alike.trans X.warmed.alike
  obtain ⟨D, cfV, kV, iV, fV, hD, gV, stV, knV, obV, asV, slV⟩ := id V
  obtain ⟨D', cfC, kC, iC, fC, hD', gC, stC, -, -, asC, slC⟩ := id C
  cases hD.symm.trans hD'
  obtain ⟨D2, kD, e1, e2, e3, e4, e5⟩ := id E
  cases hD.symm.trans e1
  obtain ⟨c2, k2, i1, i2, i3, -⟩ := Cond.instantiable_spec wi
  cases e2.symm.trans i1
  cases e3.symm.trans i2
  obtain ⟨kU, u1, u2⟩ := al.2.2 _ _ e3
  have hB : Blank ST x D P.U := ⟨hD, ⟨knV, fun q hq => by rw [hq] at obV; cases obV⟩, by rw [al.findClass]; exact e2, kU, u1, by rw [u2]; exact i3, by rw [u2]; exact e5 i3⟩
  have F1 : Found ST "value" "[B" fV P.U := ⟨SBG.found_only al ⟨cfV, kV, iV, gV⟩, stV⟩
  have F2 : Found ST "coder" "B" fC P.U := ⟨SBG.found_only al ⟨cfC, kC, iC, gC⟩, stC⟩
  have hA : Ch b A P.U := ⟨⟨K.1, State.isArrayOf_alike al K.2.1, K.2.2, by omega⟩, hty⟩
  have hS : StaticIs P.U ST "COMPACT_STRINGS" "Z" (.int z) := by
    obtain ⟨cfS, iS, kS, fS, st, cS, t1, t2, t3, t4, t5, t6, t7⟩ := S
    exact StaticIs.there (s := { Z with heap := P.U.heap }) ⟨cfS, iS, kS, fS, st, cS, t1, t2, t3, t4, t5, (fun q => by rw [q] at t6; cases t6), t7⟩ al rfl
  obtain ⟨v, B, X', ⟨⟨hv, E', V', q1, q2, q3, q4, q5, q6, q7, q8, q9, q10, q11⟩, hl, hc, hs⟩, st⟩ := New1.pays x D fV fC b A z (tab_of (moved hZ hw)) hfr hlo m meth c P g ig mk _ X hg hsize hdg hW hn ⟨r1, r2, rfl, hB, F1, F2, hA, hS, hz, l0, l2, hp⟩
  have al' : Z.vm.Alike B.U.vm := hZ.alike.trans X'.warmed.alike
  have hsz : E'.slots.size = D.slots.size := by
    obtain ⟨-, -, -, kB, w1, w2, w3⟩ := q1
    obtain ⟨kB', y1, y2⟩ := al'.2.2 _ _ e3
    rw [q2.2.1] at w1
    cases w1.symm.trans y1
    rw [w3, e5 i3, y2]
  refine ⟨v, B, X', ⟨_, ⟨hv, ?_, ⟨by omega, fun y cy hy hn' => q10 y cy (by simpa using hn') hy, fun y cy hy => ?_⟩, q11, ⟨E', _, q1.1, by rw [q2.2.1]; exact e2, by rw [q2.2.1]; exact e3, by rw [q2.1]; exact obV, fun _ => by rw [hsz]; exact e5 i3⟩,
    ⟨E', cfV, kV, iV, fV, q1.1, gV, stV, by rw [q2.1]; exact knV, by rw [q2.1]; exact obV, by rw [q2.2.1]; exact asV, q3⟩, ⟨E', cfC, kC, iC, fC, q1.1, gC, stC, by rw [q2.1]; exact knV, by rw [q2.1]; exact obV, by rw [q2.2.1]; exact asC, q4⟩,
    ⟨V', ⟨q5.1, State.isArrayOf_alike al'.symm q5.2.1, q5.2.2.1⟩, q6, by rw [← al'.findClass]; exact q7, q8, fun j hj => by have := q9 j hj; rwa [Nat.zero_add] at this⟩, fun O n d w F n1 n2 => ?_⟩, hl, hc, hs⟩, st⟩
  · intro y hy
    simp only [List.mem_cons, List.not_mem_nil, or_false] at hy
    rcases hy with rfl | rfl <;> rfl
  · by_cases q : y = x
    · subst q
      cases hD.symm.trans hy
      exact ⟨E', q1.1, q2.2.1, q2.1, hsz⟩
    · exact ⟨cy, q10 y cy q hy, rfl, rfl, rfl⟩
  · obtain ⟨D3, cf, k, i, f, g1, g2, g3, g4, g5, g6, g7⟩ := F
    cases hD.symm.trans g1
    simp only [RoadKit.slotOf, g2, gV, gC, Option.map_some, Option.getD_some] at n1 n2
    exact ⟨E', cf, k, i, f, q1.1, g2, g3, by rw [q2.1]; exact g4, by rw [q2.1]; exact g5, by rw [q2.2.1]; exact g6, by rw [q2.2.2 f.slot (by simp [n1, n2])]; exact g7⟩
end StrChars.Road
namespace StrChars.Road
open Jvm Sem ClassFile Op Lib Jvm.Stand Jvm.Free Jvm.Free.XT
/-- WHAT COMES BACK, the byte[] as a list of values -/
def QA (Z : State) (x : Addr) (zn : Int32) (cs : List Int32) (h : Heap) (v : Option Value) (h' : Heap) (L : List Loc) : Prop := v = none ∧ (∀ y ∈ L, y.base = x) ∧ RoadKit.Keep h h' [x] ∧ h'.size = h.size + 1 ∧ RoadKit.Exa Z h' x ST ∧ RoadKit.Fld Z h' x ST "value" "[B" (.ref h.size) ∧ RoadKit.Fld Z h' x ST "coder" "B" (.int 0) ∧
  (∃ kb, Z.vm.findClass "[B" = some kb ∧ RoadKit.Arv Z h' h.size kb .byte zn (cs.map fun c => .int (lo8 c)) (.int 0)) ∧
  ∀ (O n d : String) (w : Value), RoadKit.Fld Z h x O n d w → RoadKit.slotOf Z O n d ≠ RoadKit.slotOf Z ST "value" "[B" → RoadKit.slotOf Z O n d ≠ RoadKit.slotOf Z ST "coder" "B" → RoadKit.Fld Z h' x O n d w
/-- **new String(chars) AT A CALL, THE ARRAYS AS LISTS**: the char[] at b holds cs, not empty, no char above 255 -/
theorem backArv {p : Program} {l : Launch} {e : Env} {R : Room} {s : State} {args : Array Value} {below : List Frame} {len W : Nat} {Z : State} {a0 : Array Value} {h : Heap} (hZ : Z.Warmed39 s.vm) (hw : ∀ d ∈ words, d.before a0 Z = true) {kI : Nat} (wi : (Jvm.Cond.instantiable ST kI).before a0 Z = true)
    {x b : Addr} {k : ClassId} {zn z : Int32} {cs : List Int32} {dv v0 c0 : Value} (E : RoadKit.Exa Z h x ST) (V : RoadKit.Fld Z h x ST "value" "[B" v0) (C : RoadKit.Fld Z h x ST "coder" "B" c0) (K : RoadKit.Arv Z h b k .char zn (cs.map Value.int) dv) (S : RoadKit.Sta Z h ST "COMPACT_STRINGS" "Z" (.int z)) (hz : ¬ z = 0)
    (hlen : zn.toNatClampNeg = cs.length) (h0 : 0 < cs.length) (hbig : cs.length ≤ 536870912) (hall : ∀ c ∈ cs, ¬ 255 < c) (hfr : 4 ≤ R.frames) (hlo : W + 65 ≤ R.locals) :
    Back l R p e below s args New1.yN len W (fun P a => a = #[.ref x, .ref b] ∧ P.U.heap = h ∧ P.cells + 1 ≤ R.cells ∧ P.slots + cs.length ≤ R.slots)
      (fun P _ v B => ∃ L, QA Z x zn cs h v B.U.heap L ∧ B.locs = P.locs ++ L ∧ B.cells = P.cells + 1 ∧ B.slots = P.slots + cs.length) := by
  obtain ⟨A, K1, K2, K3, K4, K5, K6⟩ := K
  have e : A.slots.size = cs.length := K3.trans hlen
  have hat : ∀ (i : Nat) (hi : i < cs.length), A.slots[i]? = some (.int cs[i]) := fun i hi => by rw [K5 i (by omega)]; simp [List.getD_eq_getElem?_getD, hi]
  have hcv : ∀ (i : Nat) (hi : i < cs.length), cv A i = cs[i] := fun i hi => by unfold cv; rw [hat i hi]
  have hty : Typed .char A := fun i v hv => by
    have hi : i < A.slots.size := (Array.getElem?_eq_some_iff.mp hv).1
    have q := K5 i hi
    rw [hv] at q
    rw [Option.some.inj q]
    exact K6 i hi
  refine Back.mono (back hZ hw wi E V C K1 hty S hz (by omega) (by omega) (fun i hi => by rw [hcv i (by omega)]; exact hall _ (List.getElem_mem _)) hfr hlo) (fun P a hp => ⟨hp.1, hp.2.1, hp.2.2.1, by rw [e]; exact hp.2.2.2⟩) (fun P a v B hp hq => ?_)
  obtain ⟨L, ⟨q1, q2, q3, q4, q5, q6, q7, ⟨V', v1, v2, v3, v4, v5⟩, q9⟩, hl, hc, hs⟩ := hq
  refine ⟨L, ⟨q1, q2, q3, q4, q5, q6, q7, ⟨V'.cls, v3, V', v1, rfl, by rw [v4, e, hlen], K4, fun i hi => ?_, fun i hi => ?_⟩, q9⟩, hl, hc, by rw [hs, e]⟩
  · have hi' : i < cs.length := by omega
    rw [v5 i (by omega), hcv i hi']; simp [List.getD_eq_getElem?_getD, hi']
  · have hi' : i < cs.length := by omega
    simp only [List.getD_eq_getElem?_getD, List.getElem?_map, List.getElem?_eq_getElem hi', Option.map_some, Option.getD_some]
    exact fits_lo8 _
end StrChars.Road
namespace StrChars.Road
open Jvm Sem ClassFile Op Lib Jvm.Stand Jvm.Free Jvm.Free.XT
/-- WHAT COMES BACK, in the writer's own shape -/
def QV (Z : State) (x : Addr) (N : Int32) (bs : List Int32) (h : Heap) (n0 : Nat) (v : Option Value) (h' : Heap) (L : List Loc) : Prop := v = none ∧ RoadKit.Fr n0 L ∧ RoadKit.Keep h h' [x] ∧ RoadKit.Exa Z h' x ST ∧ RoadKit.Fld Z h' x ST "coder" "B" (.int 0) ∧
  ∃ (t : Addr) (kb : ClassId), n0 ≤ t ∧ h.size ≤ t ∧ ¬ t = x ∧ RoadKit.Fld Z h' x ST "value" "[B" (.ref t) ∧ RoadKit.Arv Z h' t kb .byte N (bs.map Value.int) (.int 0)
/-- **new String(chars) AT A CALL, FOR THE WRITER**: a char[] of n known ints, each 0 to 255 -/
theorem backV {p : Program} {l : Launch} {e : Env} {R : Room} {s : State} {args : Array Value} {below : List Frame} {len W : Nat} {Z : State} {a0 : Array Value} {h : Heap} (hZ : Z.Warmed39 s.vm) (hw : ∀ d ∈ words, d.before a0 Z = true) {kI : Nat} (wi : (Jvm.Cond.instantiable ST kI).before a0 Z = true)
    {x b : Addr} {kC : ClassId} {cs bs : List Int32} {d v0 c0 : Value} {z N : Int32} {n n0 : Nat} (hx0 : n0 ≤ x) (hh0 : n0 ≤ h.size) (E : RoadKit.Exa Z h x ST) (V : RoadKit.Fld Z h x ST "value" "[B" v0) (C : RoadKit.Fld Z h x ST "coder" "B" c0) (K : RoadKit.Arv Z h b kC .char N (cs.map Value.int) d) (S : RoadKit.Sta Z h ST "COMPACT_STRINGS" "Z" (.int z)) (hz : ¬ z = 0)
    (hn : cs.length = n) (hN : N = Int32.ofNat n) (l0 : 0 < n) (l2 : n ≤ 4000) (hp : ∀ c ∈ cs, ¬ c < 0 ∧ ¬ (255 : Int32) < c) (hb : bs = cs.map (fun c => c.toInt8.toInt32)) (hfr : 4 ≤ R.frames) (hlo : W + 65 ≤ R.locals) :
    Back l R p e below s args (⟨"java/lang/String", "<init>", "([C)V"⟩ : MethodName) len W (fun P a => a = #[.ref x, .ref b] ∧ P.U.heap = h ∧ P.cells + 1 ≤ R.cells ∧ P.slots + n ≤ R.slots)
      (fun P _ v B => ∃ L, QV Z x N bs h n0 v B.U.heap L ∧ B.locs = P.locs ++ L ∧ B.cells = P.cells + 1 ∧ B.slots = P.slots + n) := by
  subst hn hN hb
  refine Back.mono (backArv hZ hw wi E V C K S hz (n32 (by omega)) l0 (by omega) (fun c hc => (hp c hc).2) hfr hlo) (fun P a hp => hp) (fun P a v B hp hq => ?_)
  obtain ⟨L, ⟨q1, q2, q3, q4, q5, q6, q7, ⟨kb, v1, v2⟩, q9⟩, hl, hc, hs⟩ := hq
  exact ⟨L, ⟨q1, fun y hy => by rw [q2 y hy]; exact hx0, q3, q5, q7, h.size, kb, hh0, Nat.le_refl _, Nat.ne_of_gt E.lt, q6, by rw [List.map_map]; exact v2⟩, hl, hc, hs⟩
end StrChars.Road
namespace StrChars
open Jvm Sem ClassFile Op Lib Jvm.Stand Jvm.Free.XT Jvm.Free.ALB Jvm.Free.JM Jvm.Free
open Jvm.Lib.Cold (StaticIs)
def hi8 (x : Int32) : Int32 := lo8 (x >>> ((8 : Int32) &&& 31))
/-- what StringUTF16.getChar makes of two bytes -/
def pairCh (u v : Int32) : Int32 := (((u &&& 255) <<< ((0 : Int32) &&& 31)) ||| ((v &&& 255) <<< ((8 : Int32) &&& 31))).toUInt32.toUInt16.toUInt32.toInt32
theorem lo8_and (x : Int32) : (lo8 x &&& 255).toBitVec.toNat = x.toBitVec.toNat % 256 := by
  have h : (lo8 x).toBitVec = (x.toBitVec.signExtend 8).signExtend 32 := by rw [lo8, Int8.toBitVec_toInt32, Int32.toBitVec_toInt8]
  rw [Int32.toBitVec_and, BitVec.toNat_and, h]
  have e : ((x.toBitVec.signExtend 8).signExtend 32).toNat % 256 = x.toBitVec.toNat % 256 := by
    rw [BitVec.toNat_signExtend]
    have hlt := x.toBitVec.isLt
    simp only [BitVec.toNat_setWidth, BitVec.toNat_signExtend]
    split <;> split <;> omega
  rw [← e]
  exact Nat.and_two_pow_sub_one_eq_mod _ 8
theorem pair_says {c : Int32} (h0 : ¬ c < 0) (h1 : ¬ 65535 < c) : pairCh (lo8 c) (hi8 c) = c := by
  rw [Int32.lt_iff_toInt_lt] at h0 h1
  have e0 : (0 : Int32).toInt = 0 := rfl
  have e1 : (65535 : Int32).toInt = 65535 := rfl
  have hc : c.toInt = c.toBitVec.toNat := by
    have := c.toBitVec.isLt
    have e : c.toInt = c.toBitVec.toInt := rfl
    rw [e] at h0 h1
    rw [e]
    rw [BitVec.toInt_eq_toNat_cond] at h0 h1 ⊢
    split at h0 <;> split <;> omega
  have hn : c.toBitVec.toNat < 65536 := by omega
  have a1 := lo8_and c
  have a2 : (hi8 c &&& 255).toBitVec.toNat = c.toBitVec.toNat / 256 := by
    rw [hi8, lo8_and]
    have e : ((8 : Int32) &&& 31) = 8 := by decide
    rw [e, Int32.toBitVec_shiftRight]
    have e2 : ((8 : Int32).toBitVec.smod 32) = 8#32 := by decide
    rw [e2, BitVec.sshiftRight_eq', BitVec.toNat_sshiftRight_of_msb_false (by rw [BitVec.msb_eq_false_iff_two_mul_lt]; omega)]
    show c.toBitVec.toNat >>> 8 % 256 = _
    rw [Nat.shiftRight_eq_div_pow]
    omega
  unfold pairCh
  apply Int32.toBitVec_inj.mp
  apply BitVec.eq_of_toNat_eq
  have f0 : ((0 : Int32) &&& 31) = 0 := by decide
  have f8 : ((8 : Int32) &&& 31) = 8 := by decide
  rw [f0, f8]
  have g : (((lo8 c &&& 255) <<< (0 : Int32)) ||| ((hi8 c &&& 255) <<< (8 : Int32))).toBitVec.toNat = c.toBitVec.toNat := by
    rw [Int32.toBitVec_or, Int32.toBitVec_shiftLeft, Int32.toBitVec_shiftLeft]
    have s0 : ((0 : Int32).toBitVec.smod 32) = 0#32 := by decide
    have s8 : ((8 : Int32).toBitVec.smod 32) = 8#32 := by decide
    rw [s0, s8, BitVec.toNat_or]
    simp only [BitVec.shiftLeft_eq', BitVec.toNat_shiftLeft, a1, a2]
    show (c.toBitVec.toNat % 256) <<< 0 % 2 ^ 32 ||| (c.toBitVec.toNat / 256) <<< 8 % 2 ^ 32 = _
    rw [Nat.shiftLeft_zero, Nat.mod_eq_of_lt (show c.toBitVec.toNat % 256 < 2 ^ 32 by omega), Nat.mod_eq_of_lt (show (c.toBitVec.toNat / 256) <<< 8 < 2 ^ 32 by rw [Nat.shiftLeft_eq]; omega), Nat.or_comm, ← Nat.shiftLeft_add_eq_or_of_lt (by omega), Nat.shiftLeft_eq]
    omega
  show BitVec.toNat (((((lo8 c &&& 255) <<< (0 : Int32)) ||| ((hi8 c &&& 255) <<< (8 : Int32))).toBitVec.setWidth 16).setWidth 32) = _
  rw [BitVec.toNat_setWidth, BitVec.toNat_setWidth, g]
  omega
end StrChars
namespace StrChars
open Jvm Sem ClassFile Op Lib Jvm.Stand Jvm.Free.XT Jvm.Free.ALB Jvm.Free.JM Jvm.Free
open Jvm.Lib.Cold (StaticIs)
/-- the array's cell V codes the n chars f 0 .. f (n - 1) by the coder cd, as the JDK does: coder 1 just where some char is above 255 -/
def Cod (cd : Int32) (n : Nat) (f : Nat → Int32) (V : Cell) : Prop := (cd = 0 ∧ V.slots.size = n ∧ ∀ j, j < n → V.slots[j]? = some (.int (lo8 (f j))) ∧ ¬ 255 < f j) ∨ (cd = 1 ∧ V.slots.size = 2 * n ∧ (∀ j, j < n → V.slots[2 * j]? = some (.int (lo8 (f j))) ∧ V.slots[2 * j + 1]? = some (.int (hi8 (f j)))) ∧ ∃ j, j < n ∧ 255 < f j)
/-- **x is a String of the n chars f 0 .. f (n - 1)**, Latin-1 or UTF-16; its array at t has the cell V -/
def Txt (x t : Addr) (V : Cell) (cd : Int32) (n : Nat) (f : Nat → Int32) (U : State) : Prop := Exact "java/lang/String" x U ∧ Has x "java/lang/String" "value" "[B" (.ref t) U ∧ Has x "java/lang/String" "coder" "B" (.int cd) U ∧ XT.Arr .byte t V U ∧ Cod cd n f V ∧ ∀ j, j < n → ¬ f j < 0 ∧ ¬ 65535 < f j
theorem Txt.mv {x t : Addr} {V : Cell} {cd : Int32} {n : Nat} {f : Nat → Int32} {U U' : State} (h : Txt x t V cd n f U) (hal : U.vm.Alike U'.vm) (hh : U'.heap = U.heap) : Txt x t V cd n f U' := ⟨h.1.mv hal hh, h.2.1.mv hal hh, h.2.2.1.mv hal hh, h.2.2.2.1.mv hal hh, h.2.2.2.2⟩
end StrChars
namespace StrChars.Road
open Jvm Sem ClassFile Op Lib Jvm.Stand Jvm.Free Jvm.Free.XT
open Jvm.Lib.Cold (StaticIs)
theorem consq {a : Array Value} {s : State} {c : Jvm.Cond} {L : List Jvm.Cond} (h0 : c.before a s = true) (h : ∀ w ∈ L, w.before a s = true) : ∀ w ∈ c :: L, w.before a s = true := fun w hw => (List.mem_cons.mp hw).elim (fun e => e ▸ h0) (h w)
/-- the bytes of the chars cs, low before high -/
def wideBytes : List Int32 → List Value
  | [] => []
  | c :: cs => .int (lo8 c) :: .int (hi8 c) :: wideBytes cs
theorem wide_lo (d : Value) : ∀ (cs : List Int32) (j : Nat), j < cs.length → (wideBytes cs).getD (2 * j) d = .int (lo8 (cs.getD j 0))
  | [], j, h => absurd h (Nat.not_lt_zero j)
  | c :: cs, 0, _ => rfl
  | c :: cs, j + 1, h => by
    have q := wide_lo d cs j (by simpa using h)
    rw [show 2 * (j + 1) = 2 * j + 1 + 1 from by omega]
    simpa [wideBytes] using q
theorem wide_hi (d : Value) : ∀ (cs : List Int32) (j : Nat), j < cs.length → (wideBytes cs).getD (2 * j + 1) d = .int (hi8 (cs.getD j 0))
  | [], j, h => absurd h (Nat.not_lt_zero j)
  | c :: cs, 0, _ => rfl
  | c :: cs, j + 1, h => by
    have q := wide_hi d cs j (by simpa using h)
    rw [show 2 * (j + 1) + 1 = 2 * j + 1 + 1 + 1 from by omega]
    simpa [wideBytes] using q
theorem low_at (d : Value) (cs : List Int32) (j : Nat) (h : j < cs.length) : (cs.map fun c => Value.int (lo8 c)).getD j d = .int (lo8 (cs.getD j 0)) := by
  simp [List.getD_eq_getElem?_getD, h]
/-- an array of N2 bytes vs codes the chars cs by the coder cd -/
def CodA (cs : List Int32) (cd N2 : Int32) (vs : List Value) : Prop := (cd = 0 ∧ N2 = Int32.ofNat cs.length ∧ vs = (cs.map fun c => Value.int (lo8 c)) ∧ ∀ c ∈ cs, ¬ 255 < c) ∨ (cd = 1 ∧ N2 = Int32.ofNat (2 * cs.length) ∧ vs = wideBytes cs ∧ ∃ c ∈ cs, 255 < c)
theorem CodA.cod {cs : List Int32} {cd N2 : Int32} {vs : List Value} {V : Cell} (h : CodA cs cd N2 vs) (hn : 2 * cs.length < 2 ^ 31) (hs : V.slots.size = N2.toNatClampNeg) (hv : RoadKit.Has V vs (.int 0)) : Cod cd cs.length (fun j => cs.getD j 0) V := by
  rcases h with ⟨rfl, rfl, rfl, h⟩ | ⟨rfl, rfl, rfl, c, hc, hw⟩
  · rw [n32 (by omega)] at hs
    exact Or.inl ⟨rfl, hs, fun j hj => ⟨by rw [hv j (by omega), low_at _ _ _ hj], by
      have e : cs.getD j 0 = cs[j] := by simp [List.getD_eq_getElem?_getD, hj]
      show ¬ 255 < cs.getD j 0
      rw [e]; exact h _ (List.getElem_mem _)⟩⟩
  · rw [n32 (by omega)] at hs
    obtain ⟨j, hj, rfl⟩ := List.getElem_of_mem hc
    exact Or.inr ⟨rfl, hs, fun j hj => ⟨by rw [hv _ (by omega), wide_lo _ _ _ hj], by rw [hv _ (by omega), wide_hi _ _ _ hj]⟩, j, hj, by
      have e : cs.getD j 0 = cs[j] := by simp [List.getD_eq_getElem?_getD, hj]
      show 255 < cs.getD j 0
      rw [e]; exact hw⟩
/-- an object of exactly java/lang/String, its two fields found: as the laws ask it -/
theorem strObj {Z U : State} {a0 : Array Value} {kI : Nat} (wi : (Jvm.Cond.instantiable ST kI).before a0 Z = true) (al : Z.vm.Alike U.vm) {x : Addr} {v0 c0 : Value} (E : RoadKit.Exa Z U.heap x ST) (V : RoadKit.Fld Z U.heap x ST "value" "[B" v0) (C : RoadKit.Fld Z U.heap x ST "coder" "B" c0) :
    ∃ (D : Cell) (fV fC : Field), Blank ST x D U ∧ Found ST "value" "[B" fV U ∧ Found ST "coder" "B" fC U ∧ D.slots[fV.slot]? = some v0 ∧ D.slots[fC.slot]? = some c0 ∧ RoadKit.slotOf Z ST "value" "[B" = fV.slot ∧ RoadKit.slotOf Z ST "coder" "B" = fC.slot := by
  obtain ⟨D, cfV, kV, iV, fV, hD, gV, stV, knV, obV, asV, slV⟩ := V
  obtain ⟨D', cfC, kC, iC, fC, hD', gC, stC, -, -, asC, slC⟩ := C
  cases hD.symm.trans hD'
  obtain ⟨D2, kD, e1, e2, e3, e4, e5⟩ := E
  cases hD.symm.trans e1
  obtain ⟨c2, k2, i1, i2, i3, -⟩ := Cond.instantiable_spec wi
  cases e2.symm.trans i1
  cases e3.symm.trans i2
  obtain ⟨kU, u1, u2⟩ := al.2.2 _ _ e3
  exact ⟨D, fV, fC, ⟨hD, ⟨knV, fun q hq => by rw [hq] at obV; cases obV⟩, by rw [al.findClass]; exact e2, kU, u1, by rw [u2]; exact i3, by rw [u2]; exact e5 i3⟩, ⟨SBG.found_only al ⟨cfV, kV, iV, gV⟩, stV⟩, ⟨SBG.found_only al ⟨cfC, kC, iC, gC⟩, stC⟩, slV, slC, by simp [RoadKit.slotOf, gV], by simp [RoadKit.slotOf, gC]⟩
theorem sta_is {Z U : State} (al : Z.vm.Alike U.vm) {C n d : String} {v : Value} (S : RoadKit.Sta Z U.heap C n d v) : StaticIs U C n d v := by
  obtain ⟨cfS, iS, kS, fS, st, cS, t1, t2, t3, t4, t5, t6, t7⟩ := S
  exact StaticIs.there (s := { Z with heap := U.heap }) ⟨cfS, iS, kS, fS, st, cS, t1, t2, t3, t4, t5, (fun q => by rw [q] at t6; cases t6), t7⟩ al rfl
end StrChars.Road
namespace StrChars
open Jvm Sem ClassFile Op Lib Jvm.Stand Jvm.Free.XT Jvm.Free.ALB Jvm.Free.JM Jvm.Free
open Jvm.Lib.Cold (StaticIs)
/-- what place i of a byte[]'s cell holds -/
def yv (A : Cell) (i : Nat) : Int32 := match A.slots[i]? with | some (.int x) => x | _ => 0
theorem yv_get {a : Addr} {A : Cell} {U : State} (h : XT.Arr .byte a A U) (ht : Typed .byte A) {i : Nat} (hi : i < A.slots.size) : A.slots[i]? = some (.int (yv A i)) := by
  have e := Array.getElem?_eq_getElem hi
  have f := ht i _ e
  unfold yv; rw [e]
  generalize A.slots[i] = v at f
  cases v <;> simp [fits] at f ⊢
/-- the two arrays are equal, place for place -/
def EqC (A B : Cell) : Prop := A.slots.size = B.slots.size ∧ ∀ i, i < A.slots.size → yv A i = yv B i
/-- a boolean that says whether p -/
def Says01 (q : Prop) (r : Option Value) (s u : State) : Prop := ∃ v : Int32, r = some (.int v) ∧ u.heap = s.heap ∧ ((v = 1 ∧ q) ∨ (v = 0 ∧ ¬ q))
theorem Says01.mv {q : Prop} : ∀ r (U U' V V' : State), U'.heap = U.heap → V.vm.Alike V'.vm → V'.heap = V.heap → Says01 q r U V → Says01 q r U' V' :=
  fun r U U' V V' h1 _ h2 ⟨v, a, b, c⟩ => ⟨v, a, by rw [h1, h2]; exact b, c⟩
namespace LEq
def yN : MethodName := ⟨"java/lang/StringLatin1", "equals", "([B[B)Z"⟩
abbrev yB : ByteArray := jdk_43_method_13_code
theorem d0 : decode yB 0 = .ok (.aload_n 0, 1) := by decide +kernel
theorem d1 : decode yB 1 = .ok (.arraylength, 1) := by decide +kernel
theorem d2 : decode yB 2 = .ok (.aload_n 1, 1) := by decide +kernel
theorem d3 : decode yB 3 = .ok (.arraylength, 1) := by decide +kernel
theorem d4 : decode yB 4 = .ok (.if_icmp (.ne) 30, 3) := by decide +kernel
theorem d7 : decode yB 7 = .ok (.iconst 0, 1) := by decide +kernel
theorem d8 : decode yB 8 = .ok (.istore_n 2, 1) := by decide +kernel
theorem d9 : decode yB 9 = .ok (.iload_n 2, 1) := by decide +kernel
theorem d10 : decode yB 10 = .ok (.aload_n 0, 1) := by decide +kernel
theorem d11 : decode yB 11 = .ok (.arraylength, 1) := by decide +kernel
theorem d12 : decode yB 12 = .ok (.if_icmp (.ge) 20, 3) := by decide +kernel
theorem d15 : decode yB 15 = .ok (.aload_n 0, 1) := by decide +kernel
theorem d16 : decode yB 16 = .ok (.iload_n 2, 1) := by decide +kernel
theorem d17 : decode yB 17 = .ok (.baload, 1) := by decide +kernel
theorem d18 : decode yB 18 = .ok (.aload_n 1, 1) := by decide +kernel
theorem d19 : decode yB 19 = .ok (.iload_n 2, 1) := by decide +kernel
theorem d20 : decode yB 20 = .ok (.baload, 1) := by decide +kernel
theorem d21 : decode yB 21 = .ok (.if_icmp (.eq) 5, 3) := by decide +kernel
theorem d24 : decode yB 24 = .ok (.iconst 0, 1) := by decide +kernel
theorem d25 : decode yB 25 = .ok (.ireturn, 1) := by decide +kernel
theorem d26 : decode yB 26 = .ok (.iinc 2 1, 3) := by decide +kernel
theorem d29 : decode yB 29 = .ok (.goto (-20), 3) := by decide +kernel
theorem d32 : decode yB 32 = .ok (.iconst 1, 1) := by decide +kernel
theorem d33 : decode yB 33 = .ok (.ireturn, 1) := by decide +kernel
theorem d34 : decode yB 34 = .ok (.iconst 0, 1) := by decide +kernel
theorem d35 : decode yB 35 = .ok (.ireturn, 1) := by decide +kernel
def site : List Cond := []
def tab : Cond := tabOf yN yB 3 (some .boolean) site
def P (a : Addr) (A : Cell) (b : Addr) (B : Cell) (args : Array Value) (s : State) : Prop := args = #[.ref a, .ref b] ∧ XT.Arr .byte a A s ∧ Typed .byte A ∧ XT.Arr .byte b B s ∧ Typed .byte B
/-- whether two byte[] are equal, place for place -/
theorem law (l : Launch) (a : Addr) (A : Cell) (b : Addr) (B : Cell) : Law l yN 2 2 0 0 yB 3 (some .boolean) site (P a A b B) (Says01 (EqC A B)) [] 0 0 := by
  refine Law.of_walk (plainFor_of_name (by decide +kernel)) (by decide +kernel) (by decide +kernel) (by decide) (fun _ _ h => by rw [h.1]; rfl) (fun _ U U' hal hh h => ⟨h.1, h.2.1.mv hal hh, h.2.2.1, h.2.2.2.1.mv hal hh, h.2.2.2.2⟩) (fun r U U' V V' h1 hal h2 h => Says01.mv r U U' V V' h1 hal h2 h) ?_
  intro p e s m args below meth c s₁ X0 hexec hbytes hml hret hlk hnm hown hh0 W hP
  obtain ⟨rfl, hA, tA, hB, tB⟩ := hP
  have a31 := hA.2.2.2
  have b31 := hB.2.2.2
  have hA0 := hA.mv X0.warmed.alike hh0
  have hB0 := hB.mv X0.warmed.alike hh0
  have c1 : Steps p.tables e below (s₁.setTop (entryFrame m #[.ref a, .ref b] 3)) (s₁.setTop (mkF m 0 #[.val (.ref a), .val (.ref b), .unset] [])) := entry rfl
  have c2 : Steps p.tables e below (s₁.setTop (entryFrame m #[.ref a, .ref b] 3)) (s₁.setTop (mkF m 4 #[.val (.ref a), .val (.ref b), .unset] [.int (Int32.ofNat B.slots.size), .int (Int32.ofNat A.slots.size)])) := c1.trans (by
    refine XS.aloadN X0.here hexec rfl (hb hbytes d0) rfl rfl ?_
    refine X0.alen hexec hA0 rfl rfl (hb hbytes d1) ?_
    refine XS.aloadN X0.here hexec rfl (hb hbytes d2) rfl rfl ?_
    refine X0.alen hexec hB0 rfl rfl (hb hbytes d3) ?_
    exact Steps.refl _)
  by_cases hs : A.slots.size = B.slots.size
  · have c3 : Steps p.tables e below (s₁.setTop (entryFrame m #[.ref a, .ref b] 3)) (s₁.setTop (mkF m 9 #[.val (.ref a), .val (.ref b), .val (.int 0)] [])) := c2.trans (by
      refine XS.icmpNo X0.here hexec rfl (hb hbytes d4) rfl (ii_ne_f (by rw [hs])) ?_
      refine iconstV X0.here hexec rfl 0 (hb hbytes d7) (by decide) ?_
      refine XS.istoreN X0.here hexec rfl (hb hbytes d8) rfl rfl ?_
      exact Steps.refl _)
    have loop : ∀ (r i : Nat), i + r = A.slots.size → (∀ j, j < i → yv A j = yv B j) → Steps p.tables e below (s₁.setTop (entryFrame m #[.ref a, .ref b] 3)) (s₁.setTop (mkF m 9 #[.val (.ref a), .val (.ref b), .val (.int (Int32.ofNat i))] [])) → ∃ (pc : Nat) (Ls : Array Slot) (v : Int32), (pc = 25 ∨ pc = 33) ∧ ((v = 1 ∧ EqC A B) ∨ (v = 0 ∧ ¬ EqC A B)) ∧ Steps p.tables e below (s₁.setTop (entryFrame m #[.ref a, .ref b] 3)) (s₁.setTop (mkF m pc Ls [.int v])) := by
      intro r
      induction r with
      | zero =>
        intro i hi he cl
        exact ⟨33, _, 1, Or.inr rfl, Or.inl ⟨rfl, hs, fun j hj => he j (by omega)⟩, cl.trans (by
          refine XS.iloadN X0.here hexec rfl (hb hbytes d9) rfl ?_
          refine XS.aloadN X0.here hexec rfl (hb hbytes d10) rfl rfl ?_
          refine X0.alen hexec hA0 rfl rfl (hb hbytes d11) ?_
          refine XS.icmpYes X0.here hexec rfl (pc0 := 12) rfl (hb hbytes d12) rfl (ii_ge_t (nlt32 (by omega) (by omega))) (by decide) rfl ?_
          refine iconstV X0.here hexec rfl 1 (hb hbytes d32) (by decide) ?_
          exact Steps.refl _)⟩
      | succ r ih =>
        intro i hi he cl
        have c4 : Steps p.tables e below (s₁.setTop (entryFrame m #[.ref a, .ref b] 3)) (s₁.setTop (mkF m 21 #[.val (.ref a), .val (.ref b), .val (.int (Int32.ofNat i))] [.int (yv B i), .int (yv A i)])) := cl.trans (by
          refine XS.iloadN X0.here hexec rfl (hb hbytes d9) rfl ?_
          refine XS.aloadN X0.here hexec rfl (hb hbytes d10) rfl rfl ?_
          refine X0.alen hexec hA0 rfl rfl (hb hbytes d11) ?_
          refine XS.icmpNo X0.here hexec rfl (hb hbytes d12) rfl (ii_ge_f (lt32 (by omega) (by omega))) ?_
          refine XS.aloadN X0.here hexec rfl (hb hbytes d15) rfl rfl ?_
          refine XS.iloadN X0.here hexec rfl (hb hbytes d16) rfl ?_
          refine X0.aget hexec hA0 rfl (yv_get hA tA (i := i) (by omega)) rfl rfl (hb hbytes d17) ?_
          refine XS.aloadN X0.here hexec rfl (hb hbytes d18) rfl rfl ?_
          refine XS.iloadN X0.here hexec rfl (hb hbytes d19) rfl ?_
          refine X0.aget hexec hB0 rfl (yv_get hB tB (i := i) (by omega)) rfl rfl (hb hbytes d20) ?_
          exact Steps.refl _)
        by_cases hv : yv A i = yv B i
        · have c5 : Steps p.tables e below (s₁.setTop (entryFrame m #[.ref a, .ref b] 3)) (s₁.setTop (mkF m 9 #[.val (.ref a), .val (.ref b), .val (.int (Int32.ofNat i + 1))] [])) := c4.trans (by
            refine XS.icmpYes X0.here hexec rfl (pc0 := 21) rfl (hb hbytes d21) rfl (ii_eq_t hv) (by decide) rfl ?_
            refine iincV X0.here hexec rfl 1 (hb hbytes d26) (by decide) rfl rfl ?_
            refine XS.goto X0.here hexec rfl (pc0 := 29) rfl (hb hbytes d29) (by decide) rfl ?_
            exact Steps.refl _)
          rw [succ32] at c5
          exact ih (i + 1) (by omega) (fun j hj => by
            by_cases e : j = i
            · rw [e]; exact hv
            · exact he j (by omega)) c5
        · exact ⟨25, _, 0, Or.inl rfl, Or.inr ⟨rfl, fun q => hv (q.2 i (by omega))⟩, c4.trans (by
            refine XS.icmpNo X0.here hexec rfl (hb hbytes d21) rfl (ii_eq_f hv) ?_
            refine iconstV X0.here hexec rfl 0 (hb hbytes d24) (by decide) ?_
            exact Steps.refl _)⟩
    obtain ⟨pc, Ls, v, hpc, hv, cz⟩ := loop A.slots.size 0 (by omega) (fun j hj => absurd hj (Nat.not_lt_zero j)) c3
    have nv : narrow .boolean (.int v) = .int v := by rcases hv with ⟨rfl, -⟩ | ⟨rfl, -⟩ <;> rfl
    rcases hpc with rfl | rfl
    · exact ⟨s₁, some (.int v), _, _, _, X0, rfl, rfl, rfl, (fun h => by cases h), ⟨v, rfl, hh0, hv⟩, fun fs hl => cz.trans (X0.ireturnOut hexec hret nv (Or.inr (Or.inl rfl)) (hb hbytes d25) hl)⟩
    · exact ⟨s₁, some (.int v), _, _, _, X0, rfl, rfl, rfl, (fun h => by cases h), ⟨v, rfl, hh0, hv⟩, fun fs hl => cz.trans (X0.ireturnOut hexec hret nv (Or.inr (Or.inl rfl)) (hb hbytes d33) hl)⟩
  · have c3 : Steps p.tables e below (s₁.setTop (entryFrame m #[.ref a, .ref b] 3)) (s₁.setTop (mkF m 35 #[.val (.ref a), .val (.ref b), .unset] [.int 0])) := c2.trans (by
      refine XS.icmpYes X0.here hexec rfl (pc0 := 4) rfl (hb hbytes d4) rfl (ii_ne_t (ne32 a31 b31 hs)) (by decide) rfl ?_
      refine iconstV X0.here hexec rfl 0 (hb hbytes d34) (by decide) ?_
      exact Steps.refl _)
    exact ⟨s₁, some (.int 0), _, _, _, X0, rfl, rfl, rfl, (fun h => by cases h), ⟨0, rfl, hh0, Or.inr ⟨rfl, fun q => hs q.1⟩⟩, fun fs hl => c3.trans (X0.ireturnOut hexec hret rfl (Or.inr (Or.inl rfl)) (hb hbytes d35) hl)⟩
end LEq
theorem Cod.ty {cd : Int32} {n : Nat} {f : Nat → Int32} {V : Cell} (h : Cod cd n f V) : Typed .byte V := fun i v hv => by
  have hi : i < V.slots.size := (Array.getElem?_eq_some_iff.mp hv).1
  rcases h with ⟨-, k1, k2⟩ | ⟨-, k1, k2, -⟩
  · rw [(k2 i (by omega)).1] at hv; cases hv; exact fits_lo8 _
  · rcases Nat.mod_two_eq_zero_or_one i with e | e
    · obtain ⟨j, rfl⟩ : ∃ j, i = 2 * j := ⟨i / 2, by omega⟩
      rw [(k2 j (by omega)).1] at hv; cases hv; exact fits_lo8 _
    · obtain ⟨j, rfl⟩ : ∃ j, i = 2 * j + 1 := ⟨i / 2, by omega⟩
      rw [(k2 j (by omega)).2] at hv; cases hv; exact fits_lo8 _
/-- the same text -/
def SameT (n : Nat) (f : Nat → Int32) (k : Nat) (g : Nat → Int32) : Prop := n = k ∧ ∀ j, j < n → f j = g j
theorem lo8_inj {x y : Int32} (h0 : ¬ x < 0) (h1 : ¬ 255 < x) (k0 : ¬ y < 0) (k1 : ¬ 255 < y) (h : lo8 x = lo8 y) : x = y := by
  rw [← lo8_mask h0 h1, ← lo8_mask k0 k1, h]
/-- arrays coded by one coder are equal just where the texts are -/
theorem Cod.eqv {cd : Int32} {n k : Nat} {f g : Nat → Int32} {V V' : Cell} (h : Cod cd n f V) (h' : Cod cd k g V') (hf : ∀ j, j < n → ¬ f j < 0 ∧ ¬ 65535 < f j) (hg : ∀ j, j < k → ¬ g j < 0 ∧ ¬ 65535 < g j) : EqC V V' ↔ SameT n f k g := by
  have yvv : ∀ {W : Cell} {i : Nat} {x : Int32}, W.slots[i]? = some (.int x) → yv W i = x := fun q => by unfold yv; rw [q]
  rcases h with ⟨rfl, k1, k2⟩ | ⟨rfl, k1, k2, -⟩
  · rcases h' with ⟨-, m1, m2⟩ | ⟨e, -⟩
    · constructor
      · rintro ⟨e1, e2⟩
        refine ⟨by omega, fun j hj => ?_⟩
        have q := e2 j (by omega)
        rw [yvv (k2 j hj).1, yvv (m2 j (by omega)).1] at q
        exact lo8_inj (hf j hj).1 (k2 j hj).2 (hg j (by omega)).1 (m2 j (by omega)).2 q
      · rintro ⟨rfl, e2⟩
        refine ⟨by omega, fun j hj => ?_⟩
        rw [yvv (k2 j (by omega)).1, yvv (m2 j (by omega)).1, e2 j (by omega)]
    · exact absurd e (by decide)
  · rcases h' with ⟨e, -⟩ | ⟨-, m1, m2, -⟩
    · exact absurd e (by decide)
    · constructor
      · rintro ⟨e1, e2⟩
        refine ⟨by omega, fun j hj => ?_⟩
        have q1 := e2 (2 * j) (by omega)
        have q2 := e2 (2 * j + 1) (by omega)
        rw [yvv (k2 j hj).1, yvv (m2 j (by omega)).1] at q1
        rw [yvv (k2 j hj).2, yvv (m2 j (by omega)).2] at q2
        rw [← pair_says (hf j hj).1 (hf j hj).2, ← pair_says (hg j (by omega)).1 (hg j (by omega)).2, q1, q2]
      · rintro ⟨rfl, e2⟩
        refine ⟨by omega, fun i hi => ?_⟩
        rcases Nat.mod_two_eq_zero_or_one i with e | e
        · obtain ⟨j, rfl⟩ : ∃ j, i = 2 * j := ⟨i / 2, by omega⟩
          rw [yvv (k2 j (by omega)).1, yvv (m2 j (by omega)).1, e2 j (by omega)]
        · obtain ⟨j, rfl⟩ : ∃ j, i = 2 * j + 1 := ⟨i / 2, by omega⟩
          rw [yvv (k2 j (by omega)).2, yvv (m2 j (by omega)).2, e2 j (by omega)]
/-- two codings differ: so do the texts -/
theorem Cod.dif {cd cd' : Int32} {n k : Nat} {f g : Nat → Int32} {V V' : Cell} (h : Cod cd n f V) (h' : Cod cd' k g V') (hne : ¬ cd = cd') : ¬ SameT n f k g := by
  rintro ⟨rfl, e⟩
  rcases h with ⟨rfl, -, k2⟩ | ⟨rfl, -, -, j, hj, hw⟩
  · rcases h' with ⟨rfl, -⟩ | ⟨-, -, -, j, hj, hw⟩
    · exact hne rfl
    · exact (k2 j hj).2 (by rw [e j hj]; exact hw)
  · rcases h' with ⟨-, -, m2⟩ | ⟨rfl, -⟩
    · exact (m2 j hj).2 (by rw [← e j hj]; exact hw)
    · exact hne rfl
/-- an object of exactly C is an instance of C -/
theorem cinst {p : Program} {l : Launch} {e : Env} {R : Room} {s : State} {m : MethodId} {args : Array Value} {below : List Frame} {meth : Method} {c : Code} {T : State} {locs : List Loc} {cells slots : Nat} (X : Stand p l e R s m args below meth c T locs cells slots) (hexec : p.tables.exec = Jvm.exec) {own C : String} {index : Nat} (hown : s.vm.findClass own = some m.cls) (hlink : (Cond.classLink own index C).before args s = true) {a : Addr} (hE : Exact C a T)
    {g : JFrame} (hg : g.method = m) {rest : List Value} (hstack : g.stack = .ref a :: rest) (hdg : decode c.code g.pc = .ok (.instanceof index, 3)) :
    ∃ T', Stand p l e R s m args below meth c T' locs cells slots ∧ T'.heap = T.heap ∧ ∀ target, Steps p.tables e below (T'.setTop { g with pc := g.pc + 3, stack := .int 1 :: rest }) target → Steps p.tables e below (T.setTop g) target := by
  obtain ⟨cB, h1, D, h2, h3, h4⟩ := hE
  have h1' : s.vm.findClass C = some cB := by rw [← X.warmed.alike.findClass]; exact h1
  obtain ⟨vm', X', st⟩ := X.instanceofYes hexec hown hlink h2 h4 h1' (by rw [h3]; exact Jvm.Free.SB.assignable_self _ _) hg hstack hdg
  exact ⟨_, X', rfl, st⟩
theorem cself {p : Program} {l : Launch} {e : Env} {R : Room} {s : State} {m : MethodId} {args : Array Value} {below : List Frame} {meth : Method} {c : Code} {T : State} {locs : List Loc} {cells slots : Nat} (X : Stand p l e R s m args below meth c T locs cells slots) (hexec : p.tables.exec = Jvm.exec) {own C : String} {index : Nat} (hown : s.vm.findClass own = some m.cls) (hlink : (Cond.classLink own index C).before args s = true) {a : Addr} (hE : Exact C a T)
    {g : JFrame} (hg : g.method = m) {rest : List Value} (hstack : g.stack = .ref a :: rest) (hdg : decode c.code g.pc = .ok (.checkcast index, 3)) :
    ∃ T', Stand p l e R s m args below meth c T' locs cells slots ∧ T'.heap = T.heap ∧ ∀ target, Steps p.tables e below (T'.setTop { g with pc := g.pc + 3, stack := .ref a :: rest }) target → Steps p.tables e below (T.setTop g) target := by
  obtain ⟨cB, h1, D, h2, h3, h4⟩ := hE
  have h1' : s.vm.findClass C = some cB := by rw [← X.warmed.alike.findClass]; exact h1
  obtain ⟨vm', X', st⟩ := X.checkcastYes hexec hown hlink h2 h4 h1' (by rw [h3]; exact Jvm.Free.SB.assignable_self _ _) hg hstack hdg
  exact ⟨_, X', rfl, fun t h => st t (by rw [← hstack] at h; exact h)⟩
namespace SEq
def yN : MethodName := ⟨"java/lang/String", "equals", "(Ljava/lang/Object;)Z"⟩
abbrev yB : ByteArray := jdk_42_method_66_code
theorem d0 : decode yB 0 = .ok (.aload_n 0, 1) := by decide +kernel
theorem d1 : decode yB 1 = .ok (.aload_n 1, 1) := by decide +kernel
theorem d2 : decode yB 2 = .ok (.if_acmp (.ne) 5, 3) := by decide +kernel
theorem d5 : decode yB 5 = .ok (.iconst 1, 1) := by decide +kernel
theorem d6 : decode yB 6 = .ok (.ireturn, 1) := by decide +kernel
theorem d7 : decode yB 7 = .ok (.aload_n 1, 1) := by decide +kernel
theorem d8 : decode yB 8 = .ok (.instanceof 10, 3) := by decide +kernel
theorem d11 : decode yB 11 = .ok (.ifCond (.eq) 43, 3) := by decide +kernel
theorem d14 : decode yB 14 = .ok (.aload_n 1, 1) := by decide +kernel
theorem d15 : decode yB 15 = .ok (.checkcast 10, 3) := by decide +kernel
theorem d18 : decode yB 18 = .ok (.astore_n 2, 1) := by decide +kernel
theorem d19 : decode yB 19 = .ok (.getstatic 38, 3) := by decide +kernel
theorem d22 : decode yB 22 = .ok (.ifCond (.eq) 14, 3) := by decide +kernel
theorem d25 : decode yB 25 = .ok (.aload_n 0, 1) := by decide +kernel
theorem d26 : decode yB 26 = .ok (.getfield 15, 3) := by decide +kernel
theorem d29 : decode yB 29 = .ok (.aload_n 2, 1) := by decide +kernel
theorem d30 : decode yB 30 = .ok (.getfield 15, 3) := by decide +kernel
theorem d33 : decode yB 33 = .ok (.if_icmp (.ne) 21, 3) := by decide +kernel
theorem d36 : decode yB 36 = .ok (.aload_n 0, 1) := by decide +kernel
theorem d37 : decode yB 37 = .ok (.getfield 9, 3) := by decide +kernel
theorem d40 : decode yB 40 = .ok (.aload_n 2, 1) := by decide +kernel
theorem d41 : decode yB 41 = .ok (.getfield 9, 3) := by decide +kernel
theorem d44 : decode yB 44 = .ok (.invokestatic 541, 3) := by decide +kernel
theorem d47 : decode yB 47 = .ok (.ifCond (.eq) 7, 3) := by decide +kernel
theorem d50 : decode yB 50 = .ok (.iconst 1, 1) := by decide +kernel
theorem d51 : decode yB 51 = .ok (.goto 4, 3) := by decide +kernel
theorem d54 : decode yB 54 = .ok (.iconst 0, 1) := by decide +kernel
theorem d55 : decode yB 55 = .ok (.ireturn, 1) := by decide +kernel
def site : List Cond := [.classLink "java/lang/String" 10 "java/lang/String", .fieldLink "java/lang/String" 38 "java/lang/String" "COMPACT_STRINGS" "Z", .fieldLink "java/lang/String" 15 "java/lang/String" "coder" "B", .fieldLink "java/lang/String" 9 "java/lang/String" "value" "[B", LEq.tab] ++ staticW "java/lang/String" 541 LEq.yN
def tab : Cond := tabOf yN yB 3 (some .boolean) site
def P (x t : Addr) (V : Cell) (cd : Int32) (n : Nat) (f : Nat → Int32) (y t' : Addr) (V' : Cell) (cd' : Int32) (k : Nat) (g : Nat → Int32) (z : Int32) (args : Array Value) (s : State) : Prop := args = #[.ref x, .ref y] ∧ Txt x t V cd n f s ∧ Txt y t' V' cd' k g s ∧ StaticIs s "java/lang/String" "COMPACT_STRINGS" "Z" (.int z) ∧ ¬ z = 0
/-- equals(Object) of two Strings: whether the texts are the same -/
theorem law (l : Launch) (x t : Addr) (V : Cell) (cd : Int32) (n : Nat) (f : Nat → Int32) (y t' : Addr) (V' : Cell) (cd' : Int32) (k : Nat) (g : Nat → Int32) (z : Int32) : Law l yN 2 1 1 14 yB 3 (some .boolean) site (P x t V cd n f y t' V' cd' k g z) (Says01 (SameT n f k g)) [] 0 0 := by
  refine Law.of_walk (plainFor_of_name (by decide +kernel)) (by decide +kernel) (by decide +kernel) (by decide) (fun _ _ h => by rw [h.1]; rfl) (fun _ U U' hal hh h => ⟨h.1, h.2.1.mv hal hh, h.2.2.1.mv hal hh, h.2.2.2.1.there hal hh, h.2.2.2.2⟩) (fun r U U' V V' h1 hal h2 h => Says01.mv r U U' V V' h1 hal h2 h) ?_
  intro p e s m args below meth c s₁ X0 hexec hbytes hml hret hlk hnm hown hh0 W hP
  obtain ⟨rfl, hx, hy, s1, hz⟩ := hP
  have c1 : Steps p.tables e below (s₁.setTop (entryFrame m #[.ref x, .ref y] 3)) (s₁.setTop (mkF m 2 #[.val (.ref x), .val (.ref y), .unset] [.ref y, .ref x])) := Steps.trans (entry rfl) (by
    show Steps p.tables e below (s₁.setTop (mkF m 0 #[.val (.ref x), .val (.ref y), .unset] [])) _
    refine XS.aloadN X0.here hexec rfl (hb hbytes d0) rfl rfl ?_
    refine XS.aloadN X0.here hexec rfl (hb hbytes d1) rfl rfl ?_
    exact Steps.refl _)
  by_cases hxy : x = y
  · have c2 : Steps p.tables e below (s₁.setTop (entryFrame m #[.ref x, .ref y] 3)) (s₁.setTop (mkF m 6 #[.val (.ref x), .val (.ref y), .unset] [.int 1])) := c1.trans (by
      refine acmpNo X0.here hexec rfl (hb hbytes d2) rfl rfl rfl (by simp [acmp, hxy]) ?_
      refine iconstV X0.here hexec rfl 1 (hb hbytes d5) (by decide) ?_
      exact Steps.refl _)
    subst hxy
    have ec : cd = cd' := by
      obtain ⟨D, fd, a1, a2, a3⟩ := hx.2.2.1
      obtain ⟨D', fd', b1, b2, b3⟩ := hy.2.2.1
      cases a1.symm.trans b1
      obtain ⟨q1, q2, q3, q4⟩ := a2.1
      obtain ⟨r1, r2, r3, r4⟩ := b2.1
      cases q4.symm.trans r4
      cases a3.symm.trans b3; rfl
    have et : t = t' := by
      obtain ⟨D, fd, a1, a2, a3⟩ := hx.2.1
      obtain ⟨D', fd', b1, b2, b3⟩ := hy.2.1
      cases a1.symm.trans b1
      obtain ⟨q1, q2, q3, q4⟩ := a2.1
      obtain ⟨r1, r2, r3, r4⟩ := b2.1
      cases q4.symm.trans r4
      cases a3.symm.trans b3; rfl
    subst ec et
    have ev : V = V' := by cases hx.2.2.2.1.1.symm.trans hy.2.2.2.1.1; rfl
    subst ev
    have hs : SameT n f k g := (Cod.eqv hx.2.2.2.2.1 hy.2.2.2.2.1 hx.2.2.2.2.2 hy.2.2.2.2.2).mp ⟨rfl, fun _ _ => rfl⟩
    exact ⟨s₁, some (.int 1), _, _, _, X0, rfl, rfl, rfl, (fun h => by cases h), ⟨1, rfl, hh0, Or.inl ⟨rfl, hs⟩⟩, fun fs hl => c2.trans (X0.ireturnOut hexec hret rfl (Or.inr (Or.inl rfl)) (hb hbytes d6) hl)⟩
  · have c2 : Steps p.tables e below (s₁.setTop (entryFrame m #[.ref x, .ref y] 3)) (s₁.setTop (mkF m 8 #[.val (.ref x), .val (.ref y), .unset] [.ref y])) := c1.trans (by
      refine acmpYes X0.here hexec rfl (pc0 := 2) rfl (hb hbytes d2) rfl rfl rfl (by simp [acmp, hxy]) (by decide) rfl ?_
      refine XS.aloadN X0.here hexec rfl (hb hbytes d7) rfl rfl ?_
      exact Steps.refl _)
    obtain ⟨T3, X3, q3, st3⟩ := cinst X0 hexec hown (wk W (.classLink "java/lang/String" 10 "java/lang/String")) (hy.mv X0.warmed.alike hh0).1 (g := (mkF m 8 #[.val (.ref x), .val (.ref y), .unset] [.ref y])) rfl (rest := []) rfl (hb hbytes d8)
    have hh3 := q3.trans hh0
    have c4 : Steps p.tables e below (s₁.setTop (entryFrame m #[.ref x, .ref y] 3)) (T3.setTop (mkF m 15 #[.val (.ref x), .val (.ref y), .unset] [.ref y])) := (c2.trans (st3 _ (Steps.refl _))).trans (by
      refine XS.ifNo X3.here hexec rfl (hb hbytes d11) rfl (i0_eq_f (by decide)) ?_
      refine XS.aloadN X3.here hexec rfl (hb hbytes d14) rfl rfl ?_
      exact Steps.refl _)
    obtain ⟨T5, X5, q5, st5⟩ := cself X3 hexec hown (wk W (.classLink "java/lang/String" 10 "java/lang/String")) (hy.mv X3.warmed.alike hh3).1 (g := (mkF m 15 #[.val (.ref x), .val (.ref y), .unset] [.ref y])) rfl (rest := []) rfl (hb hbytes d15)
    have hh5 := q5.trans hh3
    have c6 : Steps p.tables e below (s₁.setTop (entryFrame m #[.ref x, .ref y] 3)) (T5.setTop (mkF m 19 #[.val (.ref x), .val (.ref y), .val (.ref y)] [])) := (c4.trans (st5 _ (Steps.refl _))).trans (by
      refine XS.astoreN X5.here hexec rfl (hb hbytes d18) rfl rfl rfl ?_
      exact Steps.refl _)
    obtain ⟨T7, X7, q7, st7⟩ := X5.sget hexec hown (wk W (.fieldLink "java/lang/String" 38 "java/lang/String" "COMPACT_STRINGS" "Z")) s1 (fun _ _ h => by rw [hh5]; exact h) (g := (mkF m 19 #[.val (.ref x), .val (.ref y), .val (.ref y)] [])) rfl (hb hbytes d19)
    have hh7 := q7.trans hh5
    have c8 : Steps p.tables e below (s₁.setTop (entryFrame m #[.ref x, .ref y] 3)) (T7.setTop (mkF m 26 #[.val (.ref x), .val (.ref y), .val (.ref y)] [.ref x])) := (c6.trans (st7 _ (Steps.refl _))).trans (by
      refine XS.ifNo X7.here hexec rfl (hb hbytes d22) rfl (i0_eq_f hz) ?_
      refine XS.aloadN X7.here hexec rfl (hb hbytes d25) rfl rfl ?_
      exact Steps.refl _)
    obtain ⟨T9, X9, q9, st9⟩ := X7.hget hexec hown (wk W (.fieldLink "java/lang/String" 15 "java/lang/String" "coder" "B")) (hx.mv X7.warmed.alike hh7).2.2.1 (g := (mkF m 26 #[.val (.ref x), .val (.ref y), .val (.ref y)] [.ref x])) rfl (rest := []) rfl (hb hbytes d26)
    have hh9 := q9.trans hh7
    have c10 : Steps p.tables e below (s₁.setTop (entryFrame m #[.ref x, .ref y] 3)) (T9.setTop (mkF m 30 #[.val (.ref x), .val (.ref y), .val (.ref y)] [.ref y, .int cd])) := (c8.trans (st9 _ (Steps.refl _))).trans (by
      refine XS.aloadN X9.here hexec rfl (hb hbytes d29) rfl rfl ?_
      exact Steps.refl _)
    obtain ⟨T11, X11, q11, st11⟩ := X9.hget hexec hown (wk W (.fieldLink "java/lang/String" 15 "java/lang/String" "coder" "B")) (hy.mv X9.warmed.alike hh9).2.2.1 (g := (mkF m 30 #[.val (.ref x), .val (.ref y), .val (.ref y)] [.ref y, .int cd])) rfl (rest := [.int cd]) rfl (hb hbytes d30)
    have hh11 := q11.trans hh9
    have c12 : Steps p.tables e below (s₁.setTop (entryFrame m #[.ref x, .ref y] 3)) (T11.setTop (mkF m 33 #[.val (.ref x), .val (.ref y), .val (.ref y)] [.int cd', .int cd])) := c10.trans (st11 _ (Steps.refl _))
    by_cases hcd : cd = cd'
    · subst hcd
      have c13 : Steps p.tables e below (s₁.setTop (entryFrame m #[.ref x, .ref y] 3)) (T11.setTop (mkF m 37 #[.val (.ref x), .val (.ref y), .val (.ref y)] [.ref x])) := c12.trans (by
        refine XS.icmpNo X11.here hexec rfl (hb hbytes d33) rfl (ii_ne_f rfl) ?_
        refine XS.aloadN X11.here hexec rfl (hb hbytes d36) rfl rfl ?_
        exact Steps.refl _)
      obtain ⟨T14, X14, q14, st14⟩ := X11.hget hexec hown (wk W (.fieldLink "java/lang/String" 9 "java/lang/String" "value" "[B")) (hx.mv X11.warmed.alike hh11).2.1 (g := (mkF m 37 #[.val (.ref x), .val (.ref y), .val (.ref y)] [.ref x])) rfl (rest := []) rfl (hb hbytes d37)
      have hh14 := q14.trans hh11
      have c15 : Steps p.tables e below (s₁.setTop (entryFrame m #[.ref x, .ref y] 3)) (T14.setTop (mkF m 41 #[.val (.ref x), .val (.ref y), .val (.ref y)] [.ref y, .ref t])) := (c13.trans (st14 _ (Steps.refl _))).trans (by
        refine XS.aloadN X14.here hexec rfl (hb hbytes d40) rfl rfl ?_
        exact Steps.refl _)
      obtain ⟨T16, X16, q16, st16⟩ := X14.hget hexec hown (wk W (.fieldLink "java/lang/String" 9 "java/lang/String" "value" "[B")) (hy.mv X14.warmed.alike hh14).2.1 (g := (mkF m 41 #[.val (.ref x), .val (.ref y), .val (.ref y)] [.ref y, .ref t])) rfl (rest := [.ref t]) rfl (hb hbytes d41)
      have hh16 := q16.trans hh14
      have c17 : Steps p.tables e below (s₁.setTop (entryFrame m #[.ref x, .ref y] 3)) (T16.setTop (mkF m 44 #[.val (.ref x), .val (.ref y), .val (.ref y)] [.ref t', .ref t])) := c15.trans (st16 _ (Steps.refl _))
      obtain ⟨v18, T18, X18, E18, g18⟩ := X16.callS hexec (LEq.law l t V t' V') hown (wks W (staticW "java/lang/String" 541 LEq.yN)) (wk W LEq.tab) (W := 0) (Nat.le_of_ble_eq_true rfl) (Nat.le_of_ble_eq_true rfl) (Nat.le_refl _) (Nat.le_refl _) (g := (mkF m 44 #[.val (.ref x), .val (.ref y), .val (.ref y)] [.ref t', .ref t])) rfl (by rw [hml]; rfl) c17 (argsL := [.ref t, .ref t']) (rest := []) rfl rfl (by show 2 * 0 + 0 ≤ _; decide) (hb hbytes d44) (⟨rfl, hx.2.2.2.1.mv X16.warmed.alike hh16, hx.2.2.2.2.1.ty, hy.2.2.2.1.mv X16.warmed.alike hh16, hy.2.2.2.2.1.ty⟩)
      obtain ⟨v, rfl, q18, hv⟩ := E18
      have iff := Cod.eqv hx.2.2.2.2.1 hy.2.2.2.2.1 hx.2.2.2.2.2 hy.2.2.2.2.2
      rcases hv with ⟨rfl, he⟩ | ⟨rfl, he⟩
      · have c19 : Steps p.tables e below (s₁.setTop (entryFrame m #[.ref x, .ref y] 3)) (T18.setTop (mkF m 55 #[.val (.ref x), .val (.ref y), .val (.ref y)] [.int 1])) := Steps.trans g18 (by
          refine XS.ifNo X18.here hexec rfl (hb hbytes d47) rfl (i0_eq_f (by decide)) ?_
          refine iconstV X18.here hexec rfl 1 (hb hbytes d50) (by decide) ?_
          refine XS.goto X18.here hexec rfl (pc0 := 51) rfl (hb hbytes d51) (by decide) rfl ?_
          exact Steps.refl _)
        exact ⟨T18, some (.int 1), _, _, _, X18, rfl, rfl, rfl, (fun h => by cases h), ⟨1, rfl, q18.trans hh16, Or.inl ⟨rfl, iff.mp he⟩⟩, fun fs hl => c19.trans (X18.ireturnOut hexec hret rfl (Or.inr (Or.inl rfl)) (hb hbytes d55) hl)⟩
      · have c19 : Steps p.tables e below (s₁.setTop (entryFrame m #[.ref x, .ref y] 3)) (T18.setTop (mkF m 55 #[.val (.ref x), .val (.ref y), .val (.ref y)] [.int 0])) := Steps.trans g18 (by
          refine XS.ifYes X18.here hexec rfl (pc0 := 47) rfl (hb hbytes d47) rfl (i0_eq_t rfl) (by decide) rfl ?_
          refine iconstV X18.here hexec rfl 0 (hb hbytes d54) (by decide) ?_
          exact Steps.refl _)
        exact ⟨T18, some (.int 0), _, _, _, X18, rfl, rfl, rfl, (fun h => by cases h), ⟨0, rfl, q18.trans hh16, Or.inr ⟨rfl, fun q => he (iff.mpr q)⟩⟩, fun fs hl => c19.trans (X18.ireturnOut hexec hret rfl (Or.inr (Or.inl rfl)) (hb hbytes d55) hl)⟩
    · have c13 : Steps p.tables e below (s₁.setTop (entryFrame m #[.ref x, .ref y] 3)) (T11.setTop (mkF m 55 #[.val (.ref x), .val (.ref y), .val (.ref y)] [.int 0])) := c12.trans (by
        refine XS.icmpYes X11.here hexec rfl (pc0 := 33) rfl (hb hbytes d33) rfl (ii_ne_t hcd) (by decide) rfl ?_
        refine iconstV X11.here hexec rfl 0 (hb hbytes d54) (by decide) ?_
        exact Steps.refl _)
      exact ⟨T11, some (.int 0), _, _, _, X11, rfl, rfl, rfl, (fun h => by cases h), ⟨0, rfl, hh11, Or.inr ⟨rfl, Cod.dif hx.2.2.2.2.1 hy.2.2.2.2.1 hcd⟩⟩, fun fs hl => c13.trans (X11.ireturnOut hexec hret rfl (Or.inr (Or.inl rfl)) (hb hbytes d55) hl)⟩
theorem pays {l : Launch} {R : Room} {p : Program} {e : Env} {below : List Frame} {s : State} {sargs : Array Value} {len W : Nat} (x t : Addr) (V : Cell) (cd : Int32) (n : Nat) (f : Nat → Int32) (y t' : Addr) (V' : Cell) (cd' : Int32) (k : Nat) (g : Nat → Int32) (z : Int32) (htab : tab.before sargs s = true) (hfr : 2 ≤ R.frames) (hlo : W + 28 ≤ R.locals) :
    Back l R p e below s sargs yN len W (fun A₁ a₁ => A₁.cells + 0 ≤ R.cells ∧ A₁.slots + 0 ≤ R.slots ∧ P x t V cd n f y t' V' cd' k g z a₁ A₁.U) (fun A₁ _ v₁ B₁ => Says01 (SameT n f k g) v₁ A₁.U B₁.U ∧ B₁.locs = A₁.locs ++ [] ∧ B₁.cells = A₁.cells + 0 ∧ B₁.slots = A₁.slots + 0) :=
  (law l x t V cd n f y t' V' cd' k g z).pays htab hfr (by omega)
end SEq
end StrChars
namespace StrChars.Road
open Jvm Sem ClassFile Op Lib Jvm.Stand Jvm.Free Jvm.Free.XT
open Jvm.Lib.Cold (StaticIs)
/-- the words of String.equals(Object) -/
abbrev wordsEq : List Jvm.Cond := [.code SEq.yN SEq.yB 3 (some .boolean), .initialized ST, .classLink ST 10 ST, .fieldLink ST 38 ST "COMPACT_STRINGS" "Z", .fieldLink ST 15 ST "coder" "B", .fieldLink ST 9 ST "value" "[B", .methodLink ST 541 LEq.yN, .static LEq.yN, .code LEq.yN LEq.yB 3 (some .boolean), .initialized "java/lang/StringLatin1"]
theorem tabEq_of {a : Array Value} {s : State} (h : ∀ w ∈ wordsEq, w.before a s = true) : SEq.tab.before a s = true := by
  have hl : LEq.tab.before a s = true := unparts (wk h (.code LEq.yN LEq.yB 3 (some .boolean))) (wks h (.initialized LEq.yN.cls :: LEq.site))
  have q := consq hl h
  exact unparts (wk q (.code SEq.yN SEq.yB 3 (some .boolean))) (wks q (.initialized SEq.yN.cls :: SEq.site))
theorem movedEq {Z s : State} {a0 args : Array Value} (hZ : Z.Warmed39 s.vm) (hw : ∀ d ∈ wordsEq, d.before a0 Z = true) : ∀ d ∈ wordsEq, d.before args s = true := fun d hd => by
  have t : ∀ d ∈ wordsEq, (d.onTables && d.keepsFace) = true := by decide +kernel
  exact RoadKit.mv hZ (hw d hd) (t d hd)
/-- the road's facts of a String, as the laws ask it -/
theorem txt_of {Z U : State} {a0 : Array Value} {kI : Nat} (wi : (Jvm.Cond.instantiable ST kI).before a0 Z = true) (al : Z.vm.Alike U.vm) {x t : Addr} {kb : ClassId} {cs : List Int32} {cd N2 : Int32} {vs : List Value} (E : RoadKit.Exa Z U.heap x ST) (V : RoadKit.Fld Z U.heap x ST "value" "[B" (.ref t)) (C : RoadKit.Fld Z U.heap x ST "coder" "B" (.int cd)) (K : RoadKit.Arv Z U.heap t kb .byte N2 vs (.int 0)) (hc : CodA cs cd N2 vs) (hb : ∀ c ∈ cs, ¬ c < 0 ∧ ¬ (65535 : Int32) < c) (l2 : cs.length ≤ 4000) :
    ∃ A, Txt x t A cd cs.length (fun j => cs.getD j 0) U := by
  obtain ⟨A, K1, K2, K3, K4, K5, K6⟩ := K
  have hcod := hc.cod (by omega) K3 K5
  obtain ⟨D, fV, fC, hB, F1, F2, g1, g2, -, -⟩ := strObj wi al E V C
  exact ⟨A, ⟨_, hB.2.2.1, D, hB.1, rfl, by cases q : D.vm <;> first | rfl | exact absurd q (hB.2.1.2 _)⟩, Has.of hB F1 g1, Has.of hB F2 g2, ⟨K1.1, State.isArrayOf_alike al K1.2.1, K1.2.2, by rcases hcod with ⟨-, q, -⟩ | ⟨-, q, -⟩ <;> omega⟩, hcod, fun j hj => by
    have e : cs.getD j 0 = cs[j] := by simp [List.getD_eq_getElem?_getD, hj]
    show ¬ cs.getD j 0 < 0 ∧ ¬ 65535 < cs.getD j 0
    rw [e]; exact hb _ (List.getElem_mem _)⟩
theorem same_list (cs ds : List Int32) : SameT cs.length (fun j => cs.getD j 0) ds.length (fun j => ds.getD j 0) ↔ cs = ds := by
  constructor
  · rintro ⟨e, q⟩
    refine List.ext_getElem e fun j h1 h2 => ?_
    have := q j h1
    simpa [List.getD_eq_getElem?_getD, h1, h2] using this
  · rintro rfl
    exact ⟨rfl, fun _ _ => rfl⟩
/-- **equals(Object) OF TWO SUCH STRINGS**: 1 just where the chars are the same -/
theorem eqW {p : Program} {l : Launch} {e : Env} {R : Room} {s : State} {args : Array Value} {below : List Frame} {len W : Nat} {Z : State} {a0 : Array Value} {h : Heap} (hZ : Z.Warmed39 s.vm) (hw : ∀ d ∈ wordsEq, d.before a0 Z = true) {kI : Nat} (wi : (Jvm.Cond.instantiable ST kI).before a0 Z = true)
    {x t : Addr} {kb : ClassId} {cs : List Int32} {cd N2 : Int32} {vs : List Value} (E : RoadKit.Exa Z h x ST) (V : RoadKit.Fld Z h x ST "value" "[B" (.ref t)) (C : RoadKit.Fld Z h x ST "coder" "B" (.int cd)) (K : RoadKit.Arv Z h t kb .byte N2 vs (.int 0)) (hc : CodA cs cd N2 vs) (hb : ∀ c ∈ cs, ¬ c < 0 ∧ ¬ (65535 : Int32) < c) (l2 : cs.length ≤ 4000)
    {y t' : Addr} {kb' : ClassId} {ds : List Int32} {cd' N2' : Int32} {vs' : List Value} (E' : RoadKit.Exa Z h y ST) (V' : RoadKit.Fld Z h y ST "value" "[B" (.ref t')) (C' : RoadKit.Fld Z h y ST "coder" "B" (.int cd')) (K' : RoadKit.Arv Z h t' kb' .byte N2' vs' (.int 0)) (hc' : CodA ds cd' N2' vs') (hb' : ∀ c ∈ ds, ¬ c < 0 ∧ ¬ (65535 : Int32) < c) (l2' : ds.length ≤ 4000)
    {z : Int32} (S : RoadKit.Sta Z h ST "COMPACT_STRINGS" "Z" (.int z)) (hz : ¬ z = 0) (hfr : 2 ≤ R.frames) (hlo : W + 28 ≤ R.locals) :
    Back l R p e below s args (⟨"java/lang/String", "equals", "(Ljava/lang/Object;)Z"⟩ : MethodName) len W (fun P a => a = #[.ref x, .ref y] ∧ P.U.heap = h ∧ P.cells + 0 ≤ R.cells ∧ P.slots + 0 ≤ R.slots)
      (fun P _ v B => ∃ L, (((v = some (.int 1) ∧ cs = ds) ∨ (v = some (.int 0) ∧ ¬ cs = ds)) ∧ L = [] ∧ B.U.heap = h) ∧ B.locs = P.locs ++ L ∧ B.cells = P.cells + 0 ∧ B.slots = P.slots + 0) := by
  intro m meth c P g ig mk a X hg hsize hdg hW hn hp'
  obtain ⟨rfl, rfl, r1, r2⟩ := hp'
  have al : Z.vm.Alike P.U.vm := hZ.alike.trans X.warmed.alike
  obtain ⟨A, hx⟩ := txt_of wi al E V C K hc hb l2
  obtain ⟨A', hy⟩ := txt_of wi al E' V' C' K' hc' hb' l2'
  obtain ⟨v, B, X', ⟨⟨w, hv, hh, hq⟩, hl, hk, hs⟩, st⟩ := SEq.pays x t A cd cs.length (fun j => cs.getD j 0) y t' A' cd' ds.length (fun j => ds.getD j 0) z (tabEq_of (movedEq hZ hw)) hfr hlo m meth c P g ig mk _ X hg hsize hdg hW hn ⟨r1, r2, rfl, hx, hy, sta_is al S, hz⟩
  refine ⟨v, B, X', ⟨[], ⟨?_, rfl, hh⟩, hl, hk, hs⟩, st⟩
  rcases hq with ⟨rfl, q⟩ | ⟨rfl, q⟩
  · exact Or.inl ⟨hv, (same_list cs ds).mp q⟩
  · exact Or.inr ⟨hv, fun e => q ((same_list cs ds).mpr e)⟩
end StrChars.Road
namespace StrChars.Road
open Jvm Sem ClassFile Op Lib Jvm.Stand Jvm.Free Jvm.Free.XT
open Jvm.Lib.Cold (StaticIs)
/-- what backV says of its String, as the contracts of this text ask it: cs's low bytes, coder 0 -/
theorem codOf {cs : List Int32} {n : Nat} (hn : cs.length = n) (hb : ∀ c ∈ cs, ¬ 255 < c) : CodA cs 0 (Int32.ofNat n) ((cs.map lo8).map Value.int) := Or.inl ⟨rfl, by rw [hn], by simp [List.map_map, Function.comp_def], hb⟩
end StrChars.Road
end Jvm.Pilot.@@N@@
namespace Jvm.Pilot.@@N@@
open Jvm Jvm.ClassFile Sem Op Lib Jvm.Free Jvm.Stand Jvm.LawKit Jvm.RoadKit Bundle Jvm.Pilot.@@N@@.Jvm.D
section Own
variable {p : Program} {l : Launch} {e : Env} {R : Room} {s : State} {m : MethodId} {args : Array Value} {below : List Frame} {meth : Method} {c : Code} {T : State} {locs : List Loc} {cells slots : Nat} {Z : State} {a0 : Array Value} {h : Heap}
/-- from U the run comes to the method's end, and P holds there -/
def OGo (p : Program) (e : Env) (below : List Frame) (U : State) (P : State → Outcome → Prop) : Prop :=
  ∃ t o, Steps p.tables e below U t ∧ t.status = .running ∧ Ended t below o ∧ P t o
theorem OGo.step {U U' : State} {P : State → Outcome → Prop} (k : ∀ t, Steps p.tables e below U' t → Steps p.tables e below U t) (g : OGo p e below U' P) : OGo p e below U P := by
  obtain ⟨t, o, h1, h2⟩ := g
  exact ⟨t, o, k t h1, h2⟩
def OEnd (s : State) (Q : Option Value → Heap → List Loc → Prop) (kc ks : Nat) (t : State) (o : Outcome) : Prop :=
  ∃ v L, o = .returned v ∧ Q v t.heap L ∧ FrameEnd s o t L kc ks
/-- the contract of one body, at one array of arguments and one heap -/
abbrev OMet (l : Launch) (Z : State) (y : MethodName) (bytes : ByteArray) (maxL : Nat) (ret : Option FieldType) (ws : List Jvm.Cond) (rm : Room) (as' : Array Value) (h0 : Heap) (Q : Option Value → Heap → List Loc → Prop) : Prop :=
  MetFree l y (head1 (Jvm.Cond.code y bytes maxL ret :: ws) rm) (fun a U => a = as' ∧ Z.Warmed39 U.vm ∧ U.heap = h0) (fun _ _ _ _ _ => True) (fun _ U o U' => ∃ v L, o = .returned v ∧ Q v U'.heap L ∧ FrameEnd U o U' L rm.cells rm.slots)
theorem OMet.body {y : MethodName} {bytes : ByteArray} {maxL : Nat} {ret : Option FieldType} {ws : List Jvm.Cond} {rm : Room} {as' : Array Value} {h0 : Heap} {Q : Option Value → Heap → List Loc → Prop} (hpn : plainFor y = true)
    (b : ∀ (p : Program) (e : Env) (s : State) (m : MethodId) (below : List Frame) (meth : Method) (c : Code) (s₁ : State), p.tables.exec = Jvm.exec → c.code = bytes → c.maxLocals = maxL → s.vm.findClass y.cls = some m.cls → meth.name = y.name → meth.sig.returnType = ret → meth.locks = false → Z.Warmed39 s.vm →
      Stand p l e rm s m as' below meth c s₁ [] 0 0 → s₁.heap = h0 → OGo p e below (s₁.setTop (entryFrame m as' maxL)) (OEnd s Q rm.cells rm.slots)) : OMet l Z y bytes maxL ret ws rm as' h0 Q := by
  refine MetFree.of_bodySF hpn hisR ?_
  intro p e s m args below meth c s₁ Bd hml0 hP hK
  obtain ⟨rfl, hZ, hh⟩ := hP
  exact b p e s m below meth c s₁ Bd.exec Bd.bytes hml0 (findClass_of_methodNamed Bd.named) (name_of_methodNamed Bd.named Bd.method).1 Bd.returns Bd.notSynchronized hZ (Stand.of_body Bd) (by rw [← hh, Bd.state]; rfl)
theorem own_ret (X : Stand p l e R s m args below meth c T locs cells slots) (hx : p.tables.exec = Jvm.exec) (hlk : meth.locks = false) {pc : Nat} {Ls : Array Slot} {w : Value} {t : FieldType} {i : Instr} {rest : List Value} (hret : meth.sig.returnType = some t) (hn : narrow t w = w)
    (hi : (i = .ireturn ∧ (t = .int ∨ t = .boolean ∨ t = .byte ∨ t = .char ∨ t = .short) ∧ ∃ z, w = .int z) ∨ (i = .lreturn ∧ t = .long ∧ ∃ z, w = .long z) ∨ (i = .dreturn ∧ t = .double ∧ ∃ z, w = .double z) ∨ (i = .freturn ∧ t = .float ∧ ∃ z, w = .float z) ∨ (i = .areturn ∧ t.isReference = true ∧ w.isRef = true))
    (hd : decode c.code pc = .ok (i, 1)) {Q : Option Value → Heap → List Loc → Prop} {kc ks : Nat} (hQ : Q (some w) T.heap locs) (h1 : cells ≤ kc) (h2 : slots ≤ ks) : OGo p e below (T.setTop (mkF m pc Ls (w :: rest))) (OEnd s Q kc ks) := by
  obtain ⟨fs, hr, hrun, hended, hW, hsame⟩ := X.leave (v := some w) (fun h => by rw [hret] at h; cases h) hlk
  exact ⟨_, _, retOut X hx hret hn hi hd hr, hrun, hended, _, _, rfl, hQ, ⟨_, rfl⟩, hW, hsame.mono h1 h2⟩
theorem own_retN (X : Stand p l e R s m args below meth c T locs cells slots) (hx : p.tables.exec = Jvm.exec) (hlk : meth.locks = false) {pc : Nat} {Ls : Array Slot} {z : Int32} {t : FieldType} {rest : List Value} (hret : meth.sig.returnType = some t) (ht : t = .boolean ∨ t = .byte ∨ t = .char ∨ t = .short)
    (hd : decode c.code pc = .ok (.ireturn, 1)) {Q : Option Value → Heap → List Loc → Prop} {kc ks : Nat} (hQ : Q (some (.int (nar t z))) T.heap locs) (h1 : cells ≤ kc) (h2 : slots ≤ ks) : OGo p e below (T.setTop (mkF m pc Ls (.int z :: rest))) (OEnd s Q kc ks) := by
  obtain ⟨fs, hr, hrun, hended, hW, hsame⟩ := X.leave (v := some (.int (nar t z))) (fun h => by rw [hret] at h; cases h) hlk
  exact ⟨_, _, retN X hx hret ht hd hr, hrun, hended, _, _, rfl, hQ, ⟨_, rfl⟩, hW, hsame.mono h1 h2⟩
theorem own_ret0 (X : Stand p l e R s m args below meth c T locs cells slots) (hx : p.tables.exec = Jvm.exec) (hlk : meth.locks = false) {pc : Nat} {Ls : Array Slot} (hret : meth.sig.returnType = none)
    (hd : decode c.code pc = .ok (.return_, 1)) {Q : Option Value → Heap → List Loc → Prop} {kc ks : Nat} (hQ : Q none T.heap locs) (h1 : cells ≤ kc) (h2 : slots ≤ ks) : OGo p e below (T.setTop (mkF m pc Ls [])) (OEnd s Q kc ks) := by
  obtain ⟨fs, hr, hrun, hended, hW, hsame⟩ := X.leave (v := none) (fun _ => rfl) hlk
  exact ⟨_, _, X.returnOut hx hret hd hr, hrun, hended, _, _, rfl, hQ, ⟨_, rfl⟩, hW, hsame.mono h1 h2⟩
/-- who pays a call: at these arguments and this heap -/
abbrev OBack (l : Launch) (R : Room) (p : Program) (e : Env) (below : List Frame) (s : State) (args : Array Value) (y : MethodName) (len W : Nat) (as' : Array Value) (h : Heap) (kc ks : Nat) (Q : Option Value → Heap → List Loc → Prop) : Prop :=
  Back l R p e below s args y len W (fun P a => a = as' ∧ P.U.heap = h ∧ P.cells + kc ≤ R.cells ∧ P.slots + ks ≤ R.slots) (fun P _ v B => ∃ L, Q v B.U.heap L ∧ B.locs = P.locs ++ L ∧ B.cells = P.cells + kc ∧ B.slots = P.slots + ks)
/-- a static call by the callee's contract -/
theorem own_callSK (X : Stand p l e R s m args below meth c T locs cells slots) (hx : p.tables.exec = Jvm.exec) (hZ : Z.Warmed39 s.vm) {own : String} {index : Nat} {y : MethodName} {bytes : ByteArray} {maxL : Nat} {ret : Option FieldType}
    (hown : s.vm.findClass own = some m.cls) (w1 : (Jvm.Cond.methodLink own index y).before a0 Z = true) (w2 : (Jvm.Cond.static y).before a0 Z = true) (w3 : (Jvm.Cond.initialized y.cls).before a0 Z = true)
    (w4 : (Jvm.Cond.code y bytes maxL ret).before a0 Z = true) (hy : y.cls ≠ "java/lang/invoke/MethodHandle" ∧ y.cls ≠ "java/lang/invoke/VarHandle")
    {W : Nat} {kc ks : Nat} {argsL rest : List Value} {Q : Option Value → Heap → List Loc → Prop} (hK : OBack l R p e below s args y 3 W argsL.toArray h kc ks Q) (eT : T.heap = h)
    {pc : Nat} {Ls : Array Slot} (hsize : Ls.size = c.maxLocals) (hlen : ∀ sig, parseMethodDescriptor y.desc = some sig → argsL.length = sig.parameters.length) (hW : (rest.map fun v => v.category).sum = W)
    (hd : decode c.code pc = .ok (.invokestatic index, 3)) (hc : cells + kc ≤ R.cells) (hs : slots + ks ≤ R.slots) {P : State → Outcome → Prop}
    (k : ∀ (v : Option Value) (T' : State) (L : List Loc), Stand p l e R s m args below meth c T' (locs ++ L) (cells + kc) (slots + ks) → Q v T'.heap L → OGo p e below (T'.setTop (mkF m (pc + 3) Ls (v.toList ++ rest))) P) :
    OGo p e below (T.setTop (mkF m pc Ls (argsL.reverse ++ rest))) P := by
  obtain ⟨v, vm, ⟨T', L', k', n'⟩, -, X', ⟨L, hQ, l1, y1, z1⟩, st⟩ := Jvm.LawKit.callS X hx (y := y) hown (mvT hZ w1) (mvT hZ w2) (mvT hZ w3) (mvT hZ w4) hy hK (g := mkF m pc Ls (argsL.reverse ++ rest)) rfl hsize (argsL := argsL) (rest := rest) hlen rfl
    (by show 2 * 0 + _ ≤ _; rw [hW]; omega) hd (fun _ _ => ⟨rfl, eT, hc, hs⟩)
  dsimp only [Pt.U, Pt.locs, Pt.cells, Pt.slots] at X' l1 y1 z1 st hQ
  subst l1 y1 z1
  exact OGo.step st (k v T' L X' hQ)
theorem own_callS (X : Stand p l e R s m args below meth c T locs cells slots) (hx : p.tables.exec = Jvm.exec) (hZ : Z.Warmed39 s.vm) {own : String} {index : Nat} {y : MethodName} {bytes : ByteArray} {maxL : Nat} {ret : Option FieldType}
    (hown : s.vm.findClass own = some m.cls) (w1 : (Jvm.Cond.methodLink own index y).before a0 Z = true) (w2 : (Jvm.Cond.static y).before a0 Z = true) (w3 : (Jvm.Cond.initialized y.cls).before a0 Z = true)
    (w4 : (Jvm.Cond.code y bytes maxL ret).before a0 Z = true) (hy : y.cls ≠ "java/lang/invoke/MethodHandle" ∧ y.cls ≠ "java/lang/invoke/VarHandle")
    {W : Nat} {rm : Room} {argsL rest : List Value} {Q : Option Value → Heap → List Loc → Prop} (hM : OMet l Z y bytes maxL ret [] rm argsL.toArray h Q) (eT : T.heap = h)
    {pc : Nat} {Ls : Array Slot} (hsize : Ls.size = c.maxLocals) (hlen : ∀ sig, parseMethodDescriptor y.desc = some sig → argsL.length = sig.parameters.length) (hW : (rest.map fun v => v.category).sum = W)
    (hd : decode c.code pc = .ok (.invokestatic index, 3)) (hf : rm.frames + 1 ≤ R.frames) (hl : W + (maxL + 11) + rm.locals ≤ R.locals) (hc : cells + rm.cells ≤ R.cells) (hs : slots + rm.slots ≤ R.slots) {P : State → Outcome → Prop}
    (k : ∀ (v : Option Value) (T' : State) (L : List Loc), Stand p l e R s m args below meth c T' (locs ++ L) (cells + rm.cells) (slots + rm.slots) → Q v T'.heap L → OGo p e below (T'.setTop (mkF m (pc + 3) Ls (v.toList ++ rest))) P) :
    OGo p e below (T.setTop (mkF m pc Ls (argsL.reverse ++ rest))) P := 
  own_callSK X hx hZ hown w1 w2 w3 w4 hy (backOf (W := W) hM hZ w4 w3 hf hl) eT hsize hlen hW hd hc hs k
/-- a constructor by its contract -/
theorem own_specialK (X : Stand p l e R s m args below meth c T locs cells slots) (hx : p.tables.exec = Jvm.exec) (hZ : Z.Warmed39 s.vm) {own : String} {index : Nat} {y : MethodName} {bytes : ByteArray} {maxL : Nat} (hy1 : y.name = "<init>")
    (hown : s.vm.findClass own = some m.cls) (w1 : (Jvm.Cond.methodLink own index y).before a0 Z = true) (w2 : (Jvm.Cond.instanceMethod y).before a0 Z = true)
    (w4 : (Jvm.Cond.code y bytes maxL none).before a0 Z = true) (hy : y.cls ≠ "java/lang/invoke/MethodHandle" ∧ y.cls ≠ "java/lang/invoke/VarHandle") {a : Addr}
    {W : Nat} {kc ks : Nat} {argsL rest : List Value} {Q : Option Value → Heap → List Loc → Prop} (hK : OBack l R p e below s args y 3 W (.ref a :: argsL).toArray h kc ks Q) (eT : T.heap = h)
    {pc : Nat} {Ls : Array Slot} (hsize : Ls.size = c.maxLocals) (hlen : ∀ sig, parseMethodDescriptor y.desc = some sig → argsL.length = sig.parameters.length) (hW : (rest.map fun v => v.category).sum = W)
    (hd : decode c.code pc = .ok (.invokespecial index, 3)) (hc : cells + kc ≤ R.cells) (hs : slots + ks ≤ R.slots) {P : State → Outcome → Prop}
    (k : ∀ (v : Option Value) (T' : State) (L : List Loc), Stand p l e R s m args below meth c T' (locs ++ L) (cells + kc) (slots + ks) → Q v T'.heap L → OGo p e below (T'.setTop (mkF m (pc + 3) Ls (v.toList ++ rest))) P) :
    OGo p e below (T.setTop (mkF m pc Ls (argsL.reverse ++ .ref a :: rest))) P := by
  obtain ⟨v, vm, ⟨T', L', k', n'⟩, -, X', ⟨L, hQ, l1, y1, z1⟩, st⟩ := X.specialBack hx (y := y) hy1 hown (mvT hZ w1) (mvT hZ w2) (mvT hZ w4) hy hK (g := mkF m pc Ls (argsL.reverse ++ .ref a :: rest)) rfl hsize (Steps.refl _) (a := a) (argsL := argsL) (rest := rest) hlen rfl
    (by show 2 * 0 + _ ≤ _; rw [hW]; omega) hd (fun _ _ => ⟨rfl, eT, hc, hs⟩)
  dsimp only [Pt.U, Pt.locs, Pt.cells, Pt.slots] at X' l1 y1 z1 st hQ
  subst l1 y1 z1
  exact OGo.step (fun _ kk => st.trans kk) (k v T' L X' hQ)
theorem own_special (X : Stand p l e R s m args below meth c T locs cells slots) (hx : p.tables.exec = Jvm.exec) (hZ : Z.Warmed39 s.vm) {own : String} {index : Nat} {y : MethodName} {bytes : ByteArray} {maxL : Nat} (hy1 : y.name = "<init>")
    (hown : s.vm.findClass own = some m.cls) (w1 : (Jvm.Cond.methodLink own index y).before a0 Z = true) (w2 : (Jvm.Cond.instanceMethod y).before a0 Z = true)
    (w4 : (Jvm.Cond.code y bytes maxL none).before a0 Z = true) (w3 : (Jvm.Cond.initialized y.cls).before a0 Z = true) (hy : y.cls ≠ "java/lang/invoke/MethodHandle" ∧ y.cls ≠ "java/lang/invoke/VarHandle") {a : Addr}
    {W : Nat} {rm : Room} {argsL rest : List Value} {Q : Option Value → Heap → List Loc → Prop} (hM : OMet l Z y bytes maxL none [] rm (.ref a :: argsL).toArray h Q) (eT : T.heap = h)
    {pc : Nat} {Ls : Array Slot} (hsize : Ls.size = c.maxLocals) (hlen : ∀ sig, parseMethodDescriptor y.desc = some sig → argsL.length = sig.parameters.length) (hW : (rest.map fun v => v.category).sum = W)
    (hd : decode c.code pc = .ok (.invokespecial index, 3)) (hf : rm.frames + 1 ≤ R.frames) (hl : W + (maxL + 11) + rm.locals ≤ R.locals) (hc : cells + rm.cells ≤ R.cells) (hs : slots + rm.slots ≤ R.slots) {P : State → Outcome → Prop}
    (k : ∀ (v : Option Value) (T' : State) (L : List Loc), Stand p l e R s m args below meth c T' (locs ++ L) (cells + rm.cells) (slots + rm.slots) → Q v T'.heap L → OGo p e below (T'.setTop (mkF m (pc + 3) Ls (v.toList ++ rest))) P) :
    OGo p e below (T.setTop (mkF m pc Ls (argsL.reverse ++ .ref a :: rest))) P := 
  own_specialK X hx hZ hy1 hown w1 w2 w4 hy (backOf (W := W) hM hZ w4 w3 hf hl) eT hsize hlen hW hd hc hs k
/-- an instance method by its contract -/
theorem own_virtualK (X : Stand p l e R s m args below meth c T locs cells slots) (hx : p.tables.exec = Jvm.exec) (hZ : Z.Warmed39 s.vm) {own C : String} {index : Nat} {y z : MethodName}
    (hown : s.vm.findClass own = some m.cls) (w1 : (Jvm.Cond.methodLink own index y).before a0 Z = true) (w2 : (Jvm.Cond.declares y).before a0 Z = true) (hnf : NotFace s y) (w5 : (Jvm.Cond.selects C y z).before a0 Z = true) (w6 : (Jvm.Cond.instanceMethod z).before a0 Z = true)
    (hy : y.cls ≠ "java/lang/invoke/MethodHandle" ∧ y.cls ≠ "java/lang/invoke/VarHandle") {b : Addr} (hb : Exa Z h b C)
    {W : Nat} {kc ks : Nat} {argsL rest : List Value} {Q : Option Value → Heap → List Loc → Prop} (hK : OBack l R p e below s args z 3 W (.ref b :: argsL).toArray h kc ks Q) (eT : T.heap = h)
    {pc : Nat} {Ls : Array Slot} (hsize : Ls.size = c.maxLocals) (hlen : ∀ sig, parseMethodDescriptor y.desc = some sig → argsL.length = sig.parameters.length) (hW : (rest.map fun v => v.category).sum = W)
    (hd : decode c.code pc = .ok (.invokevirtual index, 3)) (hc : cells + kc ≤ R.cells) (hs : slots + ks ≤ R.slots) {P : State → Outcome → Prop}
    (k : ∀ (v : Option Value) (T' : State) (L : List Loc), Stand p l e R s m args below meth c T' (locs ++ L) (cells + kc) (slots + ks) → Q v T'.heap L → OGo p e below (T'.setTop (mkF m (pc + 3) Ls (v.toList ++ rest))) P) :
    OGo p e below (T.setTop (mkF m pc Ls (argsL.reverse ++ .ref b :: rest))) P := by
  obtain ⟨cq, kq, qa, qb, qc⟩ := isOf hZ eT hb
  obtain ⟨v, vm, ⟨T', L', k', n'⟩, -, X', ⟨L, hQ, l1, y1, z1⟩, st⟩ := X.virtualBack hx (y := y) (z := z) hown (mvT hZ w1) (mvT hZ w2) hnf (mvT hZ w5) (mvT hZ w6) hy hK qa qc (g := mkF m pc Ls (argsL.reverse ++ .ref b :: rest)) rfl hsize (Steps.refl _) (argsL := argsL) (rest := rest) hlen rfl
    (by show 2 * 0 + _ ≤ _; rw [hW]; omega) hd (fun _ _ => ⟨rfl, eT, hc, hs⟩)
  dsimp only [Pt.U, Pt.locs, Pt.cells, Pt.slots] at X' l1 y1 z1 st hQ
  subst l1 y1 z1
  exact OGo.step (fun _ kk => st.trans kk) (k v T' L X' hQ)
theorem own_virtual (X : Stand p l e R s m args below meth c T locs cells slots) (hx : p.tables.exec = Jvm.exec) (hZ : Z.Warmed39 s.vm) {own C : String} {index : Nat} {y z : MethodName} {bytes : ByteArray} {maxL : Nat} {ret : Option FieldType}
    (hown : s.vm.findClass own = some m.cls) (w1 : (Jvm.Cond.methodLink own index y).before a0 Z = true) (w2 : (Jvm.Cond.declares y).before a0 Z = true) (hnf : NotFace s y) (w5 : (Jvm.Cond.selects C y z).before a0 Z = true) (w6 : (Jvm.Cond.instanceMethod z).before a0 Z = true)
    (hy : y.cls ≠ "java/lang/invoke/MethodHandle" ∧ y.cls ≠ "java/lang/invoke/VarHandle") (w4 : (Jvm.Cond.code z bytes maxL ret).before a0 Z = true) (w3 : (Jvm.Cond.initialized z.cls).before a0 Z = true) {b : Addr} (hb : Exa Z h b C)
    {W : Nat} {rm : Room} {argsL rest : List Value} {Q : Option Value → Heap → List Loc → Prop} (hM : OMet l Z z bytes maxL ret [] rm (.ref b :: argsL).toArray h Q) (eT : T.heap = h)
    {pc : Nat} {Ls : Array Slot} (hsize : Ls.size = c.maxLocals) (hlen : ∀ sig, parseMethodDescriptor y.desc = some sig → argsL.length = sig.parameters.length) (hW : (rest.map fun v => v.category).sum = W)
    (hd : decode c.code pc = .ok (.invokevirtual index, 3)) (hf : rm.frames + 1 ≤ R.frames) (hl : W + (maxL + 11) + rm.locals ≤ R.locals) (hc : cells + rm.cells ≤ R.cells) (hs : slots + rm.slots ≤ R.slots) {P : State → Outcome → Prop}
    (k : ∀ (v : Option Value) (T' : State) (L : List Loc), Stand p l e R s m args below meth c T' (locs ++ L) (cells + rm.cells) (slots + rm.slots) → Q v T'.heap L → OGo p e below (T'.setTop (mkF m (pc + 3) Ls (v.toList ++ rest))) P) :
    OGo p e below (T.setTop (mkF m pc Ls (argsL.reverse ++ .ref b :: rest))) P := 
  own_virtualK X hx hZ hown w1 w2 hnf w5 w6 hy hb (backOf (W := W) hM hZ w4 w3 hf hl) eT hsize hlen hW hd hc hs k
/-- an instance method that an ancestor declares, by its contract -/
theorem own_virtualUpK (X : Stand p l e R s m args below meth c T locs cells slots) (hx : p.tables.exec = Jvm.exec) (hZ : Z.Warmed39 s.vm) {own C owner : String} {index : Nat} {y z : MethodName}
    (hown : s.vm.findClass own = some m.cls) (w1 : (Jvm.Cond.methodLink own index y).before a0 Z = true) (w7 : (Jvm.Cond.sameMethod y.cls owner y.name y.desc).before a0 Z = true) (w2 : (Jvm.Cond.declares ⟨owner, y.name, y.desc⟩).before a0 Z = true) (w5 : (Jvm.Cond.selects C y z).before a0 Z = true) (w6 : (Jvm.Cond.instanceMethod z).before a0 Z = true)
    (hy : owner ≠ "java/lang/invoke/MethodHandle" ∧ owner ≠ "java/lang/invoke/VarHandle") {b : Addr} (hb : Exa Z h b C)
    {W : Nat} {kc ks : Nat} {argsL rest : List Value} {Q : Option Value → Heap → List Loc → Prop} (hK : OBack l R p e below s args z 3 W (.ref b :: argsL).toArray h kc ks Q) (eT : T.heap = h)
    {pc : Nat} {Ls : Array Slot} (hsize : Ls.size = c.maxLocals) (hlen : ∀ sig, parseMethodDescriptor y.desc = some sig → argsL.length = sig.parameters.length) (hW : (rest.map fun v => v.category).sum = W)
    (hd : decode c.code pc = .ok (.invokevirtual index, 3)) (hc : cells + kc ≤ R.cells) (hs : slots + ks ≤ R.slots) {P : State → Outcome → Prop}
    (k : ∀ (v : Option Value) (T' : State) (L : List Loc), Stand p l e R s m args below meth c T' (locs ++ L) (cells + kc) (slots + ks) → Q v T'.heap L → OGo p e below (T'.setTop (mkF m (pc + 3) Ls (v.toList ++ rest))) P) :
    OGo p e below (T.setTop (mkF m pc Ls (argsL.reverse ++ .ref b :: rest))) P := by
  obtain ⟨cq, kq, qa, qb, qc⟩ := isOf hZ eT hb
  obtain ⟨v, vm, ⟨T', L', k', n'⟩, -, X', ⟨L, hQ, l1, y1, z1⟩, st⟩ := X.virtualBackUp hx (x := y) (y := z) hown (mvT hZ w1) (mvT hZ w7) (mvT hZ w2) hy (mvT hZ w5) (mvT hZ w6) hK qa qc (g := mkF m pc Ls (argsL.reverse ++ .ref b :: rest)) rfl hsize (Steps.refl _) (argsL := argsL) (rest := rest) hlen rfl
    (by show 2 * 0 + _ ≤ _; rw [hW]; omega) hd (fun _ _ => ⟨rfl, eT, hc, hs⟩)
  dsimp only [Pt.U, Pt.locs, Pt.cells, Pt.slots] at X' l1 y1 z1 st hQ
  subst l1 y1 z1
  exact OGo.step (fun _ kk => st.trans kk) (k v T' L X' hQ)
theorem own_virtualUp (X : Stand p l e R s m args below meth c T locs cells slots) (hx : p.tables.exec = Jvm.exec) (hZ : Z.Warmed39 s.vm) {own C owner : String} {index : Nat} {y z : MethodName} {bytes : ByteArray} {maxL : Nat} {ret : Option FieldType}
    (hown : s.vm.findClass own = some m.cls) (w1 : (Jvm.Cond.methodLink own index y).before a0 Z = true) (w7 : (Jvm.Cond.sameMethod y.cls owner y.name y.desc).before a0 Z = true) (w2 : (Jvm.Cond.declares ⟨owner, y.name, y.desc⟩).before a0 Z = true) (w5 : (Jvm.Cond.selects C y z).before a0 Z = true) (w6 : (Jvm.Cond.instanceMethod z).before a0 Z = true)
    (hy : owner ≠ "java/lang/invoke/MethodHandle" ∧ owner ≠ "java/lang/invoke/VarHandle") (w4 : (Jvm.Cond.code z bytes maxL ret).before a0 Z = true) (w3 : (Jvm.Cond.initialized z.cls).before a0 Z = true) {b : Addr} (hb : Exa Z h b C)
    {W : Nat} {rm : Room} {argsL rest : List Value} {Q : Option Value → Heap → List Loc → Prop} (hM : OMet l Z z bytes maxL ret [] rm (.ref b :: argsL).toArray h Q) (eT : T.heap = h)
    {pc : Nat} {Ls : Array Slot} (hsize : Ls.size = c.maxLocals) (hlen : ∀ sig, parseMethodDescriptor y.desc = some sig → argsL.length = sig.parameters.length) (hW : (rest.map fun v => v.category).sum = W)
    (hd : decode c.code pc = .ok (.invokevirtual index, 3)) (hf : rm.frames + 1 ≤ R.frames) (hl : W + (maxL + 11) + rm.locals ≤ R.locals) (hc : cells + rm.cells ≤ R.cells) (hs : slots + rm.slots ≤ R.slots) {P : State → Outcome → Prop}
    (k : ∀ (v : Option Value) (T' : State) (L : List Loc), Stand p l e R s m args below meth c T' (locs ++ L) (cells + rm.cells) (slots + rm.slots) → Q v T'.heap L → OGo p e below (T'.setTop (mkF m (pc + 3) Ls (v.toList ++ rest))) P) :
    OGo p e below (T.setTop (mkF m pc Ls (argsL.reverse ++ .ref b :: rest))) P := 
  own_virtualUpK X hx hZ hown w1 w7 w2 w5 w6 hy hb (backOf (W := W) hM hZ w4 w3 hf hl) eT hsize hlen hW hd hc hs k
theorem own_cat {v : Value} (q : v.isRef = true) : v.category = 1 := by cases v <;> first | rfl | (simp [Value.isRef] at q)
theorem own_narR {v : Value} {t : FieldType} (q : v.isRef = true) (ht : t.isReference = true := by rfl) : narrow t v = v := by cases v <;> first | (simp [Value.isRef] at q; done) | (cases t <;> first | rfl | (cases ht))
theorem own_fitR {v : Value} {t : FieldType} (q : v.isRef = true) (ht : t.isReference = true := by rfl) : fits t v = true := by cases v <;> first | (simp [Value.isRef] at q; done) | (cases t <;> first | rfl | (cases ht))
theorem own_store1 {l l' : Array Slot} {i : Nat} {v : Value} {o : Slot} (hold : l[i]? = some o) (ho : o = .unset ∨ ∃ w, o = .val w ∧ w.category = 1) (hv : v.category = 1) (hl' : l.setIfInBounds i (.val v) = l' := by rfl) : storeLocals l i v = some l' := by
  rw [XS.store1 hold ho hv, hl']
end Own
theorem own_eqv {args : Array Value} {s : State} {a b : Term} {y : Value} (h : (Jvm.Cond.eq a b).value args s none s [] = some true) (hb : b.eval args s none [] s = some y) : a.eval args s none [] s = some y := by
  cases ha : a.eval args s none [] s with
  | none => simp [Cond.value, ha] at h
  | some x => cases x <;> cases y <;> simp_all [Cond.value]
theorem own_len {args : Array Value} {s : State} {t : Term} {a : Addr} {cl : Cell} {ty : FieldType} {n : Int32} (ev : t.eval args s none [] s = some (.ref a)) (A : Arr s s.heap a cl ty) (h : (Term.length t).eval args s none [] s = some (.int n)) : cl.slots.size < 2 ^ 31 ∧ cl.slots.size.toInt32 = n := by
  have ha : s.arrayAt? a = some cl := Arr.fin (State.WarmedH.refl s).alike A
  by_cases q : cl.slots.size < 2 ^ 31
  · rw [len_f ev ha q] at h
    exact ⟨q, Value.int.inj (Option.some.inj h)⟩
  · simp [Term.eval, ev, ha] at h
    omega
theorem own_elem {args : Array Value} {s : State} {t : Term} {a : Addr} {cl : Cell} {ty : FieldType} {j : Int32} {v : Value} (ev : t.eval args s none [] s = some (.ref a)) (A : Arr s s.heap a cl ty) (h : (Term.elem t (Term.int j)).eval args s none [] s = some v) (hn : ¬ j < 0 := by decide) : cl.slots[j.toNatClampNeg]? = some v := by
  have ha : s.arrayAt? a = some cl := Arr.fin (State.WarmedH.refl s).alike A
  rw [← elem_f ev (Term.int_eval j) ha hn]; exact h
section OwnW
variable {p : Program} {l : Launch} {e : Env} {R : Room} {s : State} {m : MethodId} {args : Array Value} {below : List Frame} {meth : Method} {c : Code} {T : State} {locs : List Loc} {cells slots : Nat} {Z : State} {a0 : Array Value} {h h' : Heap} {EL : List (String × Nat)} {vm0 : Vm}
/-- the contract of one body that may load String constants -/
abbrev OMetW (l : Launch) (Z : State) (EL : List (String × Nat)) (y : MethodName) (bytes : ByteArray) (maxL : Nat) (ret : Option FieldType) (ws : List Jvm.Cond) (rm : Room) (as' : Array Value) (h0 : Heap) (Q : Option Value → Heap → List Loc → Prop) : Prop :=
  MetFree l y (head1 (Jvm.Cond.code y bytes maxL ret :: ws) rm) (fun a U => a = as' ∧ Z.Warmed39 U.vm ∧ U.heap = h0 ∧ CHv Z EL U.vm h0) (fun _ _ _ _ _ => True) (fun _ U o U' => ∃ v L, o = .returned v ∧ Q v U'.heap L ∧ CHr Z EL U.vm U.heap U'.vm U'.heap ∧ ReturnedEndW U o U' L rm.cells rm.slots)
def OEndW (s Z : State) (EL : List (String × Nat)) (Q : Option Value → Heap → List Loc → Prop) (kc ks : Nat) (t : State) (o : Outcome) : Prop :=
  ∃ v L, o = .returned v ∧ Q v t.heap L ∧ CHr Z EL s.vm s.heap t.vm t.heap ∧ ReturnedEndW s o t L kc ks
/-- what a walk that may have interned keeps: the tables at hand, and that what they book stands in the heap at hand -/
def OW (Z s : State) (EL : List (String × Nat)) (vm0 : Vm) (h : Heap) : Prop := (∃ k, s.Since vm0 k ∧ k ≤ h.size) ∧ Z.Warmed39 vm0 ∧ CHr Z EL s.vm s.heap vm0 h
theorem OW.chv (O : OW Z s EL vm0 h) : CHv Z EL vm0 h := O.2.2.1
theorem OW.trans {vm1 : Vm} (O : OW Z s EL vm0 h) (hZ : Z.Warmed39 vm1) {k : Nat} (hS : s.Since vm1 k) (hk : k ≤ h'.size) (C : CHr Z EL vm0 h vm1 h') : OW Z s EL vm1 h' := ⟨⟨k, hS, hk⟩, hZ, O.2.2.trans C⟩
theorem OW.ext (O : OW Z s EL vm0 h) (E : Ext h h') : OW Z s EL vm0 h' := by
  obtain ⟨⟨k, a, b⟩, c, d⟩ := O
  exact ⟨⟨k, a, Nat.le_trans b E.1⟩, c, d.trans (CHr.ext E d.1)⟩
theorem OW.wr {a : Addr} {sl : Nat} {v : Value} (O : OW Z s EL vm0 h) (W : Wr h h' a sl v) (S : Safe Z EL vm0 h a) : OW Z s EL vm0 h' := by
  obtain ⟨⟨k, x, b⟩, c, d⟩ := O
  exact ⟨⟨k, x, by rw [W.size]; exact b⟩, c, d.trans (CHr.wr W S d.1)⟩
theorem OW.keep {ws : List Addr} (O : OW Z s EL vm0 h) (K : Keep h h' ws) (hs : ∀ x ∈ ws, Safe Z EL vm0 h x) : OW Z s EL vm0 h' := by
  obtain ⟨⟨k, x, b⟩, c, d⟩ := O
  exact ⟨⟨k, x, Nat.le_trans b K.1⟩, c, d.trans (CHr.keep K hs d.1)⟩
theorem OW.eq (O : OW Z s EL vm0 h) (q : h' = h) : OW Z s EL vm0 h' := q ▸ O
theorem OMetW.body {y : MethodName} {bytes : ByteArray} {maxL : Nat} {ret : Option FieldType} {ws : List Jvm.Cond} {rm : Room} {as' : Array Value} {h0 : Heap} {Q : Option Value → Heap → List Loc → Prop} (hpn : plainFor y = true)
    (b : ∀ (p : Program) (e : Env) (s : State) (m : MethodId) (below : List Frame) (meth : Method) (c : Code) (s₁ : State), p.tables.exec = Jvm.exec → c.code = bytes → c.maxLocals = maxL → (s.setVm s.vm).vm.findClass y.cls = some m.cls → meth.name = y.name → meth.sig.returnType = ret → meth.locks = false → Z.Warmed39 (s.setVm s.vm).vm →
      Stand p l e rm (s.setVm s.vm) m as' below meth c s₁ [] 0 0 → s₁.heap = h0 → OW Z s EL s.vm h0 → OGo p e below (s₁.setTop (entryFrame m as' maxL)) (OEndW s Z EL Q rm.cells rm.slots)) : OMetW l Z EL y bytes maxL ret ws rm as' h0 Q := by
  refine MetFree.of_bodySF hpn hisR ?_
  intro p e s m args below meth c s₁ Bd hml0 hP hK
  obtain ⟨rfl, hZ, hh, hC⟩ := hP
  exact b p e s m below meth c s₁ Bd.exec Bd.bytes hml0 (findClass_of_methodNamed Bd.named) (name_of_methodNamed Bd.named Bd.method).1 Bd.returns Bd.notSynchronized hZ (Stand.of_body Bd) (by rw [← hh, Bd.state]; rfl)
    ⟨⟨0, (State.WarmedH.refl s).since 0, Nat.zero_le _⟩, hZ, by rw [hh]; exact CHr.refl hC⟩
theorem own_endW (X : Stand p l e R (s.setVm vm0) m args below meth c T locs cells slots) (hlk : meth.locks = false) (hEL : EW Z a0 EL) (O : OW Z s EL vm0 h) (eT : T.heap = h) {v : Option Value} (hv : meth.sig.returnType = none → v = none) {Q : Option Value → Heap → List Loc → Prop} {kc ks : Nat} (hQ : Q v T.heap locs) (h1 : cells ≤ kc) (h2 : slots ≤ ks) :
    ∃ fs, (∀ (f : JFrame) (acts : List Action), f.method = m → f.locked = none → f.entered = [] → (doReturn e (T.setTop f) acts v).1 = T.setFrames fs) ∧ (T.setFrames fs).status = .running ∧ Ended (T.setFrames fs) below (.returned v) ∧ OEndW s Z EL Q kc ks (T.setFrames fs) (.returned v) := by
  obtain ⟨⟨k, hS, hk⟩, hZ, hC⟩ := O
  obtain ⟨fs, q1, q2, q3, q4, q5, q6, q7⟩ := X.leaveW hS (by rw [eT]; exact hk) (v := v) hv hlk
  refine ⟨fs, q1, q2, q3, v, locs, rfl, hQ, ?_, q4, q5, q6, q7.mono h1 h2⟩
  have C := hC.trans (CHv.at X hZ hEL hC.1)
  rw [← eT] at C
  exact C
theorem own_retW (X : Stand p l e R (s.setVm vm0) m args below meth c T locs cells slots) (hx : p.tables.exec = Jvm.exec) (hlk : meth.locks = false) (hEL : EW Z a0 EL) (O : OW Z s EL vm0 h) (eT : T.heap = h) {pc : Nat} {Ls : Array Slot} {w : Value} {t : FieldType} {i : Instr} {rest : List Value} (hret : meth.sig.returnType = some t) (hn : narrow t w = w)
    (hi : (i = .ireturn ∧ (t = .int ∨ t = .boolean ∨ t = .byte ∨ t = .char ∨ t = .short) ∧ ∃ z, w = .int z) ∨ (i = .lreturn ∧ t = .long ∧ ∃ z, w = .long z) ∨ (i = .dreturn ∧ t = .double ∧ ∃ z, w = .double z) ∨ (i = .freturn ∧ t = .float ∧ ∃ z, w = .float z) ∨ (i = .areturn ∧ t.isReference = true ∧ w.isRef = true))
    (hd : decode c.code pc = .ok (i, 1)) {Q : Option Value → Heap → List Loc → Prop} {kc ks : Nat} (hQ : Q (some w) T.heap locs) (h1 : cells ≤ kc) (h2 : slots ≤ ks) : OGo p e below (T.setTop (mkF m pc Ls (w :: rest))) (OEndW s Z EL Q kc ks) := by
  obtain ⟨fs, hr, q2, q3, q4⟩ := own_endW X hlk hEL O eT (v := some w) (fun h => by rw [hret] at h; cases h) hQ h1 h2
  exact ⟨_, _, retOut X hx hret hn hi hd hr, q2, q3, q4⟩
theorem own_retNW (X : Stand p l e R (s.setVm vm0) m args below meth c T locs cells slots) (hx : p.tables.exec = Jvm.exec) (hlk : meth.locks = false) (hEL : EW Z a0 EL) (O : OW Z s EL vm0 h) (eT : T.heap = h) {pc : Nat} {Ls : Array Slot} {z : Int32} {t : FieldType} {rest : List Value} (hret : meth.sig.returnType = some t) (ht : t = .boolean ∨ t = .byte ∨ t = .char ∨ t = .short)
    (hd : decode c.code pc = .ok (.ireturn, 1)) {Q : Option Value → Heap → List Loc → Prop} {kc ks : Nat} (hQ : Q (some (.int (nar t z))) T.heap locs) (h1 : cells ≤ kc) (h2 : slots ≤ ks) : OGo p e below (T.setTop (mkF m pc Ls (.int z :: rest))) (OEndW s Z EL Q kc ks) := by
  obtain ⟨fs, hr, q2, q3, q4⟩ := own_endW X hlk hEL O eT (v := some (.int (nar t z))) (fun h => by rw [hret] at h; cases h) hQ h1 h2
  exact ⟨_, _, retN X hx hret ht hd hr, q2, q3, q4⟩
theorem own_ret0W (X : Stand p l e R (s.setVm vm0) m args below meth c T locs cells slots) (hx : p.tables.exec = Jvm.exec) (hlk : meth.locks = false) (hEL : EW Z a0 EL) (O : OW Z s EL vm0 h) (eT : T.heap = h) {pc : Nat} {Ls : Array Slot} (hret : meth.sig.returnType = none)
    (hd : decode c.code pc = .ok (.return_, 1)) {Q : Option Value → Heap → List Loc → Prop} {kc ks : Nat} (hQ : Q none T.heap locs) (h1 : cells ≤ kc) (h2 : slots ≤ ks) : OGo p e below (T.setTop (mkF m pc Ls [])) (OEndW s Z EL Q kc ks) := by
  obtain ⟨fs, hr, q2, q3, q4⟩ := own_endW X hlk hEL O eT (v := none) (fun _ => rfl) hQ h1 h2
  exact ⟨_, _, X.returnOut hx hret hd hr, q2, q3, q4⟩
/-- behind a callee that may have interned -/
theorem own_behind {T' : State} {own : String} {L : List Loc} {kc ks : Nat} {Q : Option Value → Heap → List Loc → Prop} {v : Option Value} (O : OW Z s EL vm0 h) (eT : T.heap = h) (hown : (s.setVm vm0).vm.findClass own = some m.cls)
    (hS2 : (s.setVm vm0).Since T'.vm T'.heap.size) (hg : T.heap.size ≤ T'.heap.size) (C : CHr Z EL vm0 h T'.vm T'.heap) : OW Z s EL T'.vm T'.heap ∧ Z.Warmed39 (s.setVm T'.vm).vm ∧ (s.setVm T'.vm).vm.findClass own = some m.cls := by
  obtain ⟨⟨k, hS, hk⟩, hZ, hC⟩ := O
  have hW : Z.Warmed39 T'.vm := State.Warmed39.trans (t := s.setVm vm0) hZ hS2.1
  exact ⟨⟨⟨_, hS.trans hS2 (Nat.le_trans hk (by rw [← eT]; exact hg)), Nat.le_refl _⟩, hW, hC.trans C⟩, hW, (hS2.1.alike.findClass _ _).trans hown⟩
theorem own_callSW (X : Stand p l e R (s.setVm vm0) m args below meth c T locs cells slots) (hx : p.tables.exec = Jvm.exec) (hZ : Z.Warmed39 (s.setVm vm0).vm) {own : String} {index : Nat} {y : MethodName} {bytes : ByteArray} {maxL : Nat} {ret : Option FieldType}
    (hown : (s.setVm vm0).vm.findClass own = some m.cls) (w1 : (Jvm.Cond.methodLink own index y).before a0 Z = true) (w2 : (Jvm.Cond.static y).before a0 Z = true) (w3 : (Jvm.Cond.initialized y.cls).before a0 Z = true)
    (w4 : (Jvm.Cond.code y bytes maxL ret).before a0 Z = true) (hy : y.cls ≠ "java/lang/invoke/MethodHandle" ∧ y.cls ≠ "java/lang/invoke/VarHandle") (hEL : EW Z a0 EL) (O : OW Z s EL vm0 h)
    {W : Nat} {rm : Room} {argsL rest : List Value} {Q : Option Value → Heap → List Loc → Prop} (hM : OMetW l Z EL y bytes maxL ret [] rm argsL.toArray h Q) (eT : T.heap = h)
    {pc : Nat} {Ls : Array Slot} (hsize : Ls.size = c.maxLocals) (hlen : ∀ sig, parseMethodDescriptor y.desc = some sig → argsL.length = sig.parameters.length) (hW : (rest.map fun v => v.category).sum = W)
    (hd : decode c.code pc = .ok (.invokestatic index, 3)) (hf : rm.frames + 1 ≤ R.frames) (hl : W + (maxL + 11) + rm.locals ≤ R.locals) (hc : cells + rm.cells ≤ R.cells) (hs : slots + rm.slots ≤ R.slots) {P : State → Outcome → Prop}
    (k : ∀ (v : Option Value) (T' : State) (L : List Loc), Stand p l e R (s.setVm T'.vm) m args below meth c T' (locs ++ L) (cells + rm.cells) (slots + rm.slots) → Q v T'.heap L → OW Z s EL T'.vm T'.heap → Z.Warmed39 (s.setVm T'.vm).vm → (s.setVm T'.vm).vm.findClass own = some m.cls → CHr Z EL vm0 h T'.vm T'.heap → OGo p e below (T'.setTop (mkF m (pc + 3) Ls (v.toList ++ rest))) P) :
    OGo p e below (T.setTop (mkF m pc Ls (argsL.reverse ++ rest))) P := by
  obtain ⟨v, vm, ⟨T', L', k', n'⟩, -, X', hS2, hg, ⟨L, hQ, l1, y1, z1, C⟩, st⟩ := callSS X hx (y := y) hown (mvT hZ w1) (mvT hZ w2) (mvT hZ w3) (mvT hZ w4) hy (backOfSH (W := W) hM hZ w4 w3 hf hl hEL O.chv) (g := mkF m pc Ls (argsL.reverse ++ rest)) rfl hsize (argsL := argsL) (rest := rest) hlen rfl
    (by show 2 * 0 + _ ≤ _; rw [hW]; omega) hd (fun _ _ => ⟨rfl, eT, hc, hs⟩)
  dsimp only [Pt.U, Pt.locs, Pt.cells, Pt.slots] at X' l1 y1 z1 st hQ hS2 hg C
  subst l1 y1 z1
  obtain ⟨r1, r2, r3⟩ := own_behind (L := L) (kc := 0) (ks := 0) (Q := Q) (v := v) O eT hown hS2 hg C
  exact OGo.step (fun _ kk => st.trans kk) (k v T' L X' hQ r1 r2 r3 C)
theorem own_specialW (X : Stand p l e R (s.setVm vm0) m args below meth c T locs cells slots) (hx : p.tables.exec = Jvm.exec) (hZ : Z.Warmed39 (s.setVm vm0).vm) {own : String} {index : Nat} {y : MethodName} {bytes : ByteArray} {maxL : Nat} (hy1 : y.name = "<init>")
    (hown : (s.setVm vm0).vm.findClass own = some m.cls) (w1 : (Jvm.Cond.methodLink own index y).before a0 Z = true) (w2 : (Jvm.Cond.instanceMethod y).before a0 Z = true)
    (w4 : (Jvm.Cond.code y bytes maxL none).before a0 Z = true) (w3 : (Jvm.Cond.initialized y.cls).before a0 Z = true) (hy : y.cls ≠ "java/lang/invoke/MethodHandle" ∧ y.cls ≠ "java/lang/invoke/VarHandle") (hEL : EW Z a0 EL) (O : OW Z s EL vm0 h) {a : Addr}
    {W : Nat} {rm : Room} {argsL rest : List Value} {Q : Option Value → Heap → List Loc → Prop} (hM : OMetW l Z EL y bytes maxL none [] rm (.ref a :: argsL).toArray h Q) (eT : T.heap = h)
    {pc : Nat} {Ls : Array Slot} (hsize : Ls.size = c.maxLocals) (hlen : ∀ sig, parseMethodDescriptor y.desc = some sig → argsL.length = sig.parameters.length) (hW : (rest.map fun v => v.category).sum = W)
    (hd : decode c.code pc = .ok (.invokespecial index, 3)) (hf : rm.frames + 1 ≤ R.frames) (hl : W + (maxL + 11) + rm.locals ≤ R.locals) (hc : cells + rm.cells ≤ R.cells) (hs : slots + rm.slots ≤ R.slots) {P : State → Outcome → Prop}
    (k : ∀ (v : Option Value) (T' : State) (L : List Loc), Stand p l e R (s.setVm T'.vm) m args below meth c T' (locs ++ L) (cells + rm.cells) (slots + rm.slots) → Q v T'.heap L → OW Z s EL T'.vm T'.heap → Z.Warmed39 (s.setVm T'.vm).vm → (s.setVm T'.vm).vm.findClass own = some m.cls → CHr Z EL vm0 h T'.vm T'.heap → OGo p e below (T'.setTop (mkF m (pc + 3) Ls (v.toList ++ rest))) P) :
    OGo p e below (T.setTop (mkF m pc Ls (argsL.reverse ++ .ref a :: rest))) P := by
  obtain ⟨v, vm, ⟨T', L', k', n'⟩, -, X', hS2, hg, ⟨L, hQ, l1, y1, z1, C⟩, st⟩ := X.specialBackS hx (y := y) hy1 hown (mvT hZ w1) (mvT hZ w2) (mvT hZ w4) hy (backOfSH (W := W) hM hZ w4 w3 hf hl hEL O.chv) (g := mkF m pc Ls (argsL.reverse ++ .ref a :: rest)) rfl hsize (Steps.refl _) (a := a) (argsL := argsL) (rest := rest) hlen rfl
    (by show 2 * 0 + _ ≤ _; rw [hW]; omega) hd (fun _ _ => ⟨rfl, eT, hc, hs⟩)
  dsimp only [Pt.U, Pt.locs, Pt.cells, Pt.slots] at X' l1 y1 z1 st hQ hS2 hg C
  subst l1 y1 z1
  obtain ⟨r1, r2, r3⟩ := own_behind (L := L) (kc := 0) (ks := 0) (Q := Q) (v := v) O eT hown hS2 hg C
  exact OGo.step (fun _ kk => st.trans kk) (k v T' L X' hQ r1 r2 r3 C)
theorem own_virtualW (X : Stand p l e R (s.setVm vm0) m args below meth c T locs cells slots) (hx : p.tables.exec = Jvm.exec) (hZ : Z.Warmed39 (s.setVm vm0).vm) {own C : String} {index : Nat} {y z : MethodName} {bytes : ByteArray} {maxL : Nat} {ret : Option FieldType}
    (hown : (s.setVm vm0).vm.findClass own = some m.cls) (w1 : (Jvm.Cond.methodLink own index y).before a0 Z = true) (w2 : (Jvm.Cond.declares y).before a0 Z = true) (hnf : NotFace (s.setVm vm0) y) (w5 : (Jvm.Cond.selects C y z).before a0 Z = true) (w6 : (Jvm.Cond.instanceMethod z).before a0 Z = true)
    (hy : y.cls ≠ "java/lang/invoke/MethodHandle" ∧ y.cls ≠ "java/lang/invoke/VarHandle") (w4 : (Jvm.Cond.code z bytes maxL ret).before a0 Z = true) (w3 : (Jvm.Cond.initialized z.cls).before a0 Z = true) (hEL : EW Z a0 EL) (O : OW Z s EL vm0 h) {b : Addr} (hb : Exa Z h b C)
    {W : Nat} {rm : Room} {argsL rest : List Value} {Q : Option Value → Heap → List Loc → Prop} (hM : OMetW l Z EL z bytes maxL ret [] rm (.ref b :: argsL).toArray h Q) (eT : T.heap = h)
    {pc : Nat} {Ls : Array Slot} (hsize : Ls.size = c.maxLocals) (hlen : ∀ sig, parseMethodDescriptor y.desc = some sig → argsL.length = sig.parameters.length) (hW : (rest.map fun v => v.category).sum = W)
    (hd : decode c.code pc = .ok (.invokevirtual index, 3)) (hf : rm.frames + 1 ≤ R.frames) (hl : W + (maxL + 11) + rm.locals ≤ R.locals) (hc : cells + rm.cells ≤ R.cells) (hs : slots + rm.slots ≤ R.slots) {P : State → Outcome → Prop}
    (k : ∀ (v : Option Value) (T' : State) (L : List Loc), Stand p l e R (s.setVm T'.vm) m args below meth c T' (locs ++ L) (cells + rm.cells) (slots + rm.slots) → Q v T'.heap L → OW Z s EL T'.vm T'.heap → Z.Warmed39 (s.setVm T'.vm).vm → (s.setVm T'.vm).vm.findClass own = some m.cls → CHr Z EL vm0 h T'.vm T'.heap → OGo p e below (T'.setTop (mkF m (pc + 3) Ls (v.toList ++ rest))) P) :
    OGo p e below (T.setTop (mkF m pc Ls (argsL.reverse ++ .ref b :: rest))) P := by
  obtain ⟨cq, kq, qa, qb, qc⟩ := isOf hZ eT hb
  obtain ⟨v, vm, ⟨T', L', k', n'⟩, -, X', hS2, hg, ⟨L, hQ, l1, y1, z1, C⟩, st⟩ := X.virtualBackS hx (y := y) (z := z) hown (mvT hZ w1) (mvT hZ w2) hnf (mvT hZ w5) (mvT hZ w6) hy (backOfSH (W := W) hM hZ w4 w3 hf hl hEL O.chv) qa qc (g := mkF m pc Ls (argsL.reverse ++ .ref b :: rest)) rfl hsize (Steps.refl _) (argsL := argsL) (rest := rest) hlen rfl
    (by show 2 * 0 + _ ≤ _; rw [hW]; omega) hd (fun _ _ => ⟨rfl, eT, hc, hs⟩)
  dsimp only [Pt.U, Pt.locs, Pt.cells, Pt.slots] at X' l1 y1 z1 st hQ hS2 hg C
  subst l1 y1 z1
  obtain ⟨r1, r2, r3⟩ := own_behind (L := L) (kc := 0) (ks := 0) (Q := Q) (v := v) O eT hown hS2 hg C
  exact OGo.step (fun _ kk => st.trans kk) (k v T' L X' hQ r1 r2 r3 C)
/-- 'ldc' of a String constant of EL -/
theorem own_ldcW (X : Stand p l e R (s.setVm vm0) m args below meth c T locs cells slots) (hx : p.tables.exec = Jvm.exec) {own text : String} {index : Nat} (hown : (s.setVm vm0).vm.findClass own = some m.cls) (w : (Jvm.Cond.stringLink own index text).before a0 Z = true) (wS : ∀ a ∈ Bundle.stringAtoms, a.before a0 Z = true)
    (hEL : EW Z a0 EL) (O : OW Z s EL vm0 h) (eT : T.heap = h) (hmem : (own, index) ∈ EL) {vs : List Value} {z : Int32} (ht : (∀ c ∈ text.toList, c.toNat < 256) ∧ text.toList.map (fun c => Value.int (Jvm.Lit.byteI c.toNat.toUInt16)) = vs) (hz : ¬ z < 0) (hl : z.toNatClampNeg = vs.length)
    {pc : Nat} {Ls : Array Slot} {st : List Value} (hd : decode c.code pc = .ok (.ldc index, 2)) {n : Nat} (hn : 4 * text.toList.length ≤ n) (hbig : n ≤ 536870912) (hc : cells + 2 ≤ R.cells) (hl' : slots + (n + 4) ≤ R.slots) {P : State → Outcome → Prop}
    (k : ∀ (a b : Addr) (kb : ClassId) (T' : State), Stand p l e R (s.setVm T'.vm) m args below meth c T' locs (cells + 2) (slots + (n + 4)) → Ext h T'.heap → OW Z s EL T'.vm T'.heap → Z.Warmed39 (s.setVm T'.vm).vm → (s.setVm T'.vm).vm.findClass own = some m.cls → CHr Z EL vm0 h T'.vm T'.heap →
      Exa Z T'.heap a "java/lang/String" → Fld Z T'.heap a "java/lang/String" "coder" "B" (.int 0) → Fld Z T'.heap a "java/lang/String" "value" "[B" (.ref b) → Arv Z T'.heap b kb .byte z vs (.int 0) → (∀ x, Safe Z EL T'.vm T'.heap x → x ≠ a ∧ x ≠ b) → OGo p e below (T'.setTop (mkF m (pc + 2) Ls (.ref a :: st))) P) :
    OGo p e below (T.setTop (mkF m pc Ls st)) P := by
  obtain ⟨⟨k0, hS, hk⟩, hZ, hC⟩ := O
  obtain ⟨a, T', h', k1, b, kb, X', rfl, E, hS2, hk2, hW, hf, hE, hF1, hF2, hA, -, -, C, -, hsf, stp⟩ := ldcCH X hx hZ hown w wS eT hS hk hEL hmem hC.1 ht hz hl (g := mkF m pc Ls st) rfl hd hn hbig hc hl'
  exact OGo.step stp (k a b kb T' X' E ⟨⟨k1, hS2, hk2⟩, hW, hC.trans C⟩ hW hf C hE hF1 hF2 hA hsf)
end OwnW
theorem own_pd0 : parseMethodDescriptor "([C)V" = some ⟨[(.array .char)], none⟩ := by decide +kernel
theorem own_pd1 : parseMethodDescriptor "()V" = some ⟨[], none⟩ := by decide +kernel
theorem own_pd2 : parseMethodDescriptor "(Ljava/lang/Object;)Z" = some ⟨[(.object "java/lang/Object")], some .boolean⟩ := by decide +kernel
theorem own_pd3 : parseMethodDescriptor "(Ljava/lang/Object;Ljava/lang/Object;)Z" = some ⟨[(.object "java/lang/Object"), (.object "java/lang/Object")], some .boolean⟩ := by decide +kernel
theorem own_pd4 : parseMethodDescriptor "(I)Ljava/lang/String;" = some ⟨[.int], some (.object "java/lang/String")⟩ := by decide +kernel
theorem own_pd5 : parseMethodDescriptor "(Ljava/lang/String;Ljava/lang/String;Ljava/lang/String;)V" = some ⟨[(.object "java/lang/String"), (.object "java/lang/String"), (.object "java/lang/String")], none⟩ := by decide +kernel
theorem own_pd6 : parseMethodDescriptor "(Ljava/lang/String;Ljava/lang/String;)Z" = some ⟨[(.object "java/lang/String"), (.object "java/lang/String")], some .boolean⟩ := by decide +kernel
theorem own_pd7 : parseMethodDescriptor "([CIILjava/lang/Void;)V" = some ⟨[(.array .char), .int, .int, (.object "java/lang/Void")], none⟩ := by decide +kernel
theorem own_pn0 : plainName "com/example/tags_to_grants/tagstogrants/policy/CellEqualsPinLaw" = true := by first | (simp [plainName, overriddenIn]; done) | decide +kernel
theorem own_pn1 : plainName "java/lang/Record" = true := by first | (simp [plainName, overriddenIn]; done) | decide +kernel
theorem own_pn2 : plainName "com/example/tags_to_grants/tagstogrants/policy/Policy$Cell" = true := by first | (simp [plainName, overriddenIn]; done) | decide +kernel
theorem own_pn3 : plainName "java/lang/String" = true := by first | (simp [plainName, overriddenIn]; done) | decide +kernel
theorem own_pn4 : plainName "java/util/Objects" = true := by first | (simp [plainName, overriddenIn]; done) | decide +kernel
theorem own_d_method_2_code_0 : decode method_2_code 0 = .ok (.iload_n 0, 1) := by decide +kernel
theorem own_d_method_2_code_1 : decode method_2_code 1 = .ok (.iconst 3, 1) := by decide +kernel
theorem own_d_method_2_code_2 : decode method_2_code 2 = .ok (.iand, 1) := by decide +kernel
theorem own_d_method_2_code_3 : decode method_2_code 3 = .ok (.istore_n 1, 1) := by decide +kernel
theorem own_d_method_2_code_4 : decode method_2_code 4 = .ok (.iload_n 0, 1) := by decide +kernel
theorem own_d_method_2_code_5 : decode method_2_code 5 = .ok (.iconst 2, 1) := by decide +kernel
theorem own_d_method_2_code_6 : decode method_2_code 6 = .ok (.iushr, 1) := by decide +kernel
theorem own_d_method_2_code_7 : decode method_2_code 7 = .ok (.sipush 255, 3) := by decide +kernel
theorem own_d_method_2_code_10 : decode method_2_code 10 = .ok (.iand, 1) := by decide +kernel
theorem own_d_method_2_code_11 : decode method_2_code 11 = .ok (.i2c, 1) := by decide +kernel
theorem own_d_method_2_code_12 : decode method_2_code 12 = .ok (.istore_n 2, 1) := by decide +kernel
theorem own_d_method_2_code_13 : decode method_2_code 13 = .ok (.iload_n 0, 1) := by decide +kernel
theorem own_d_method_2_code_14 : decode method_2_code 14 = .ok (.bipush 10, 2) := by decide +kernel
theorem own_d_method_2_code_16 : decode method_2_code 16 = .ok (.iushr, 1) := by decide +kernel
theorem own_d_method_2_code_17 : decode method_2_code 17 = .ok (.sipush 255, 3) := by decide +kernel
theorem own_d_method_2_code_20 : decode method_2_code 20 = .ok (.iand, 1) := by decide +kernel
theorem own_d_method_2_code_21 : decode method_2_code 21 = .ok (.i2c, 1) := by decide +kernel
theorem own_d_method_2_code_22 : decode method_2_code 22 = .ok (.istore_n 3, 1) := by decide +kernel
theorem own_d_method_2_code_23 : decode method_2_code 23 = .ok (.iload_n 1, 1) := by decide +kernel
theorem own_d_method_2_code_24 : decode method_2_code 24 = .ok (.ifCond .ne 5, 3) := by decide +kernel
theorem own_d_method_2_code_27 : decode method_2_code 27 = .ok (.aconst_null, 1) := by decide +kernel
theorem own_d_method_2_code_28 : decode method_2_code 28 = .ok (.areturn, 1) := by decide +kernel
theorem own_d_method_2_code_29 : decode method_2_code 29 = .ok (.iload_n 1, 1) := by decide +kernel
theorem own_d_method_2_code_30 : decode method_2_code 30 = .ok (.iconst 1, 1) := by decide +kernel
theorem own_d_method_2_code_31 : decode method_2_code 31 = .ok (.if_icmp .ne 14, 3) := by decide +kernel
theorem own_d_method_2_code_34 : decode method_2_code 34 = .ok (.new 7, 3) := by decide +kernel
theorem own_d_method_2_code_37 : decode method_2_code 37 = .ok (.dup, 1) := by decide +kernel
theorem own_d_method_2_code_38 : decode method_2_code 38 = .ok (.iconst 0, 1) := by decide +kernel
theorem own_d_method_2_code_39 : decode method_2_code 39 = .ok (.newarray .char, 2) := by decide +kernel
theorem own_d_method_2_code_41 : decode method_2_code 41 = .ok (.invokespecial 9, 3) := by decide +kernel
theorem own_d_method_2_code_44 : decode method_2_code 44 = .ok (.areturn, 1) := by decide +kernel
theorem own_d_method_2_code_45 : decode method_2_code 45 = .ok (.iload_n 1, 1) := by decide +kernel
theorem own_d_method_2_code_46 : decode method_2_code 46 = .ok (.iconst 2, 1) := by decide +kernel
theorem own_d_method_2_code_47 : decode method_2_code 47 = .ok (.if_icmp .ne 18, 3) := by decide +kernel
theorem own_d_method_2_code_50 : decode method_2_code 50 = .ok (.new 7, 3) := by decide +kernel
theorem own_d_method_2_code_53 : decode method_2_code 53 = .ok (.dup, 1) := by decide +kernel
theorem own_d_method_2_code_54 : decode method_2_code 54 = .ok (.iconst 1, 1) := by decide +kernel
theorem own_d_method_2_code_55 : decode method_2_code 55 = .ok (.newarray .char, 2) := by decide +kernel
theorem own_d_method_2_code_57 : decode method_2_code 57 = .ok (.dup, 1) := by decide +kernel
theorem own_d_method_2_code_58 : decode method_2_code 58 = .ok (.iconst 0, 1) := by decide +kernel
theorem own_d_method_2_code_59 : decode method_2_code 59 = .ok (.iload_n 2, 1) := by decide +kernel
theorem own_d_method_2_code_60 : decode method_2_code 60 = .ok (.castore, 1) := by decide +kernel
theorem own_d_method_2_code_61 : decode method_2_code 61 = .ok (.invokespecial 9, 3) := by decide +kernel
theorem own_d_method_2_code_64 : decode method_2_code 64 = .ok (.areturn, 1) := by decide +kernel
theorem own_d_method_2_code_65 : decode method_2_code 65 = .ok (.new 7, 3) := by decide +kernel
theorem own_d_method_2_code_68 : decode method_2_code 68 = .ok (.dup, 1) := by decide +kernel
theorem own_d_method_2_code_69 : decode method_2_code 69 = .ok (.iconst 2, 1) := by decide +kernel
theorem own_d_method_2_code_70 : decode method_2_code 70 = .ok (.newarray .char, 2) := by decide +kernel
theorem own_d_method_2_code_72 : decode method_2_code 72 = .ok (.dup, 1) := by decide +kernel
theorem own_d_method_2_code_73 : decode method_2_code 73 = .ok (.iconst 0, 1) := by decide +kernel
theorem own_d_method_2_code_74 : decode method_2_code 74 = .ok (.iload_n 2, 1) := by decide +kernel
theorem own_d_method_2_code_75 : decode method_2_code 75 = .ok (.castore, 1) := by decide +kernel
theorem own_d_method_2_code_76 : decode method_2_code 76 = .ok (.dup, 1) := by decide +kernel
theorem own_d_method_2_code_77 : decode method_2_code 77 = .ok (.iconst 1, 1) := by decide +kernel
theorem own_d_method_2_code_78 : decode method_2_code 78 = .ok (.iload_n 3, 1) := by decide +kernel
theorem own_d_method_2_code_79 : decode method_2_code 79 = .ok (.castore, 1) := by decide +kernel
theorem own_d_method_2_code_80 : decode method_2_code 80 = .ok (.invokespecial 9, 3) := by decide +kernel
theorem own_d_method_2_code_83 : decode method_2_code 83 = .ok (.areturn, 1) := by decide +kernel
theorem own_d_jdk_30_method_1_code_0 : decode jdk_30_method_1_code 0 = .ok (.aload_n 0, 1) := by decide +kernel
theorem own_d_jdk_30_method_1_code_1 : decode jdk_30_method_1_code 1 = .ok (.invokespecial 1, 3) := by decide +kernel
theorem own_d_jdk_30_method_1_code_4 : decode jdk_30_method_1_code 4 = .ok (.return_, 1) := by decide +kernel
theorem own_d_prog_64_method_1_code_0 : decode prog_64_method_1_code 0 = .ok (.aload_n 0, 1) := by decide +kernel
theorem own_d_prog_64_method_1_code_1 : decode prog_64_method_1_code 1 = .ok (.invokespecial 1, 3) := by decide +kernel
theorem own_d_prog_64_method_1_code_4 : decode prog_64_method_1_code 4 = .ok (.aload_n 0, 1) := by decide +kernel
theorem own_d_prog_64_method_1_code_5 : decode prog_64_method_1_code 5 = .ok (.aload_n 1, 1) := by decide +kernel
theorem own_d_prog_64_method_1_code_6 : decode prog_64_method_1_code 6 = .ok (.putfield 7, 3) := by decide +kernel
theorem own_d_prog_64_method_1_code_9 : decode prog_64_method_1_code 9 = .ok (.aload_n 0, 1) := by decide +kernel
theorem own_d_prog_64_method_1_code_10 : decode prog_64_method_1_code 10 = .ok (.aload_n 2, 1) := by decide +kernel
theorem own_d_prog_64_method_1_code_11 : decode prog_64_method_1_code 11 = .ok (.putfield 13, 3) := by decide +kernel
theorem own_d_prog_64_method_1_code_14 : decode prog_64_method_1_code 14 = .ok (.aload_n 0, 1) := by decide +kernel
theorem own_d_prog_64_method_1_code_15 : decode prog_64_method_1_code 15 = .ok (.aload_n 3, 1) := by decide +kernel
theorem own_d_prog_64_method_1_code_16 : decode prog_64_method_1_code 16 = .ok (.putfield 16, 3) := by decide +kernel
theorem own_d_prog_64_method_1_code_19 : decode prog_64_method_1_code 19 = .ok (.return_, 1) := by decide +kernel
theorem own_d_method_3_code_0 : decode method_3_code 0 = .ok (.aload_n 0, 1) := by decide +kernel
theorem own_d_method_3_code_1 : decode method_3_code 1 = .ok (.ifnonnull 13, 3) := by decide +kernel
theorem own_d_method_3_code_4 : decode method_3_code 4 = .ok (.aload_n 1, 1) := by decide +kernel
theorem own_d_method_3_code_5 : decode method_3_code 5 = .ok (.ifnonnull 7, 3) := by decide +kernel
theorem own_d_method_3_code_8 : decode method_3_code 8 = .ok (.iconst 1, 1) := by decide +kernel
theorem own_d_method_3_code_9 : decode method_3_code 9 = .ok (.goto 4, 3) := by decide +kernel
theorem own_d_method_3_code_13 : decode method_3_code 13 = .ok (.ireturn, 1) := by decide +kernel
theorem own_d_method_3_code_12 : decode method_3_code 12 = .ok (.iconst 0, 1) := by decide +kernel
theorem own_d_method_3_code_14 : decode method_3_code 14 = .ok (.aload_n 1, 1) := by decide +kernel
theorem own_d_method_3_code_15 : decode method_3_code 15 = .ok (.ifnonnull 5, 3) := by decide +kernel
theorem own_d_method_3_code_18 : decode method_3_code 18 = .ok (.iconst 0, 1) := by decide +kernel
theorem own_d_method_3_code_19 : decode method_3_code 19 = .ok (.ireturn, 1) := by decide +kernel
theorem own_d_method_3_code_20 : decode method_3_code 20 = .ok (.aload_n 0, 1) := by decide +kernel
theorem own_d_method_3_code_21 : decode method_3_code 21 = .ok (.aload_n 1, 1) := by decide +kernel
theorem own_d_method_3_code_22 : decode method_3_code 22 = .ok (.invokevirtual 12, 3) := by decide +kernel
theorem own_d_method_3_code_25 : decode method_3_code 25 = .ok (.ireturn, 1) := by decide +kernel
theorem own_d_jdk_42_method_66_code_0 : decode jdk_42_method_66_code 0 = .ok (.aload_n 0, 1) := by decide +kernel
theorem own_d_jdk_42_method_66_code_1 : decode jdk_42_method_66_code 1 = .ok (.aload_n 1, 1) := by decide +kernel
theorem own_d_jdk_42_method_66_code_2 : decode jdk_42_method_66_code 2 = .ok (.if_acmp .ne 5, 3) := by decide +kernel
theorem own_d_jdk_42_method_66_code_7 : decode jdk_42_method_66_code 7 = .ok (.aload_n 1, 1) := by decide +kernel
theorem own_d_jdk_42_method_66_code_8 : decode jdk_42_method_66_code 8 = .ok (.instanceof 10, 3) := by decide +kernel
theorem own_d_jdk_42_method_66_code_11 : decode jdk_42_method_66_code 11 = .ok (.ifCond .eq 43, 3) := by decide +kernel
theorem own_d_jdk_42_method_66_code_54 : decode jdk_42_method_66_code 54 = .ok (.iconst 0, 1) := by decide +kernel
theorem own_d_jdk_42_method_66_code_55 : decode jdk_42_method_66_code 55 = .ok (.ireturn, 1) := by decide +kernel
theorem own_d_jdk_31_method_2_code_0 : decode jdk_31_method_2_code 0 = .ok (.aload_n 0, 1) := by decide +kernel
theorem own_d_jdk_31_method_2_code_1 : decode jdk_31_method_2_code 1 = .ok (.aload_n 1, 1) := by decide +kernel
theorem own_d_jdk_31_method_2_code_2 : decode jdk_31_method_2_code 2 = .ok (.if_acmp .eq 15, 3) := by decide +kernel
theorem own_d_jdk_31_method_2_code_17 : decode jdk_31_method_2_code 17 = .ok (.iconst 1, 1) := by decide +kernel
theorem own_d_jdk_31_method_2_code_18 : decode jdk_31_method_2_code 18 = .ok (.goto 4, 3) := by decide +kernel
theorem own_d_jdk_31_method_2_code_22 : decode jdk_31_method_2_code 22 = .ok (.ireturn, 1) := by decide +kernel
theorem own_d_jdk_31_method_2_code_5 : decode jdk_31_method_2_code 5 = .ok (.aload_n 0, 1) := by decide +kernel
theorem own_d_jdk_31_method_2_code_6 : decode jdk_31_method_2_code 6 = .ok (.ifnull 15, 3) := by decide +kernel
theorem own_d_jdk_31_method_2_code_21 : decode jdk_31_method_2_code 21 = .ok (.iconst 0, 1) := by decide +kernel
theorem own_d_jdk_31_method_2_code_9 : decode jdk_31_method_2_code 9 = .ok (.aload_n 0, 1) := by decide +kernel
theorem own_d_jdk_31_method_2_code_10 : decode jdk_31_method_2_code 10 = .ok (.aload_n 1, 1) := by decide +kernel
theorem own_d_jdk_31_method_2_code_11 : decode jdk_31_method_2_code 11 = .ok (.invokevirtual 14, 3) := by decide +kernel
theorem own_d_jdk_31_method_2_code_14 : decode jdk_31_method_2_code 14 = .ok (.ifCond .eq 7, 3) := by decide +kernel
theorem own_d_prog_64_method_3_code_0 : decode prog_64_method_3_code 0 = .ok (.aload_n 1, 1) := by decide +kernel
theorem own_d_prog_64_method_3_code_1 : decode prog_64_method_3_code 1 = .ok (.instanceof 8, 3) := by decide +kernel
theorem own_d_prog_64_method_3_code_4 : decode prog_64_method_3_code 4 = .ok (.ifCond .eq 54, 3) := by decide +kernel
theorem own_d_prog_64_method_3_code_58 : decode prog_64_method_3_code 58 = .ok (.iconst 0, 1) := by decide +kernel
theorem own_d_prog_64_method_3_code_59 : decode prog_64_method_3_code 59 = .ok (.ireturn, 1) := by decide +kernel
theorem own_d_prog_64_method_3_code_7 : decode prog_64_method_3_code 7 = .ok (.aload_n 1, 1) := by decide +kernel
theorem own_d_prog_64_method_3_code_8 : decode prog_64_method_3_code 8 = .ok (.checkcast 8, 3) := by decide +kernel
theorem own_d_prog_64_method_3_code_11 : decode prog_64_method_3_code 11 = .ok (.astore_n 2, 1) := by decide +kernel
theorem own_d_prog_64_method_3_code_12 : decode prog_64_method_3_code 12 = .ok (.aload_n 0, 1) := by decide +kernel
theorem own_d_prog_64_method_3_code_13 : decode prog_64_method_3_code 13 = .ok (.getfield 7, 3) := by decide +kernel
theorem own_d_prog_64_method_3_code_16 : decode prog_64_method_3_code 16 = .ok (.aload_n 2, 1) := by decide +kernel
theorem own_d_prog_64_method_3_code_17 : decode prog_64_method_3_code 17 = .ok (.getfield 7, 3) := by decide +kernel
theorem own_d_prog_64_method_3_code_20 : decode prog_64_method_3_code 20 = .ok (.invokestatic 25, 3) := by decide +kernel
theorem own_d_prog_64_method_3_code_23 : decode prog_64_method_3_code 23 = .ok (.ifCond .eq 35, 3) := by decide +kernel
theorem own_d_prog_64_method_3_code_26 : decode prog_64_method_3_code 26 = .ok (.aload_n 0, 1) := by decide +kernel
theorem own_d_prog_64_method_3_code_27 : decode prog_64_method_3_code 27 = .ok (.getfield 13, 3) := by decide +kernel
theorem own_d_prog_64_method_3_code_30 : decode prog_64_method_3_code 30 = .ok (.aload_n 2, 1) := by decide +kernel
theorem own_d_prog_64_method_3_code_31 : decode prog_64_method_3_code 31 = .ok (.getfield 13, 3) := by decide +kernel
theorem own_d_prog_64_method_3_code_34 : decode prog_64_method_3_code 34 = .ok (.invokestatic 25, 3) := by decide +kernel
theorem own_d_prog_64_method_3_code_37 : decode prog_64_method_3_code 37 = .ok (.ifCond .eq 21, 3) := by decide +kernel
theorem own_d_prog_64_method_3_code_40 : decode prog_64_method_3_code 40 = .ok (.aload_n 0, 1) := by decide +kernel
theorem own_d_prog_64_method_3_code_41 : decode prog_64_method_3_code 41 = .ok (.getfield 16, 3) := by decide +kernel
theorem own_d_prog_64_method_3_code_44 : decode prog_64_method_3_code 44 = .ok (.aload_n 2, 1) := by decide +kernel
theorem own_d_prog_64_method_3_code_45 : decode prog_64_method_3_code 45 = .ok (.getfield 16, 3) := by decide +kernel
theorem own_d_prog_64_method_3_code_48 : decode prog_64_method_3_code 48 = .ok (.invokestatic 25, 3) := by decide +kernel
theorem own_d_prog_64_method_3_code_51 : decode prog_64_method_3_code 51 = .ok (.ifCond .eq 7, 3) := by decide +kernel
theorem own_d_prog_64_method_3_code_54 : decode prog_64_method_3_code 54 = .ok (.iconst 1, 1) := by decide +kernel
theorem own_d_prog_64_method_3_code_55 : decode prog_64_method_3_code 55 = .ok (.goto 4, 3) := by decide +kernel
theorem own_d_jdk_42_method_149_code_0 : decode jdk_42_method_149_code 0 = .ok (.aload_n 0, 1) := by decide +kernel
theorem own_d_jdk_42_method_149_code_1 : decode jdk_42_method_149_code 1 = .ok (.invokespecial 1, 3) := by decide +kernel
theorem own_d_jdk_42_method_149_code_4 : decode jdk_42_method_149_code 4 = .ok (.iload_n 3, 1) := by decide +kernel
theorem own_d_jdk_42_method_149_code_5 : decode jdk_42_method_149_code 5 = .ok (.ifCond .ne 22, 3) := by decide +kernel
theorem own_d_jdk_42_method_149_code_8 : decode jdk_42_method_149_code 8 = .ok (.aload_n 0, 1) := by decide +kernel
theorem own_d_jdk_42_method_149_code_9 : decode jdk_42_method_149_code 9 = .ok (.ldc 7, 2) := by decide +kernel
theorem own_d_jdk_42_method_149_code_11 : decode jdk_42_method_149_code 11 = .ok (.getfield 9, 3) := by decide +kernel
theorem own_d_jdk_42_method_149_code_14 : decode jdk_42_method_149_code 14 = .ok (.putfield 9, 3) := by decide +kernel
theorem own_d_jdk_42_method_149_code_17 : decode jdk_42_method_149_code 17 = .ok (.aload_n 0, 1) := by decide +kernel
theorem own_d_jdk_42_method_149_code_18 : decode jdk_42_method_149_code 18 = .ok (.ldc 7, 2) := by decide +kernel
theorem own_d_jdk_42_method_149_code_20 : decode jdk_42_method_149_code 20 = .ok (.getfield 15, 3) := by decide +kernel
theorem own_d_jdk_42_method_149_code_23 : decode jdk_42_method_149_code 23 = .ok (.putfield 15, 3) := by decide +kernel
theorem own_d_jdk_42_method_149_code_26 : decode jdk_42_method_149_code 26 = .ok (.return_, 1) := by decide +kernel
theorem own_d_jdk_42_method_3_code_0 : decode jdk_42_method_3_code 0 = .ok (.aload_n 0, 1) := by decide +kernel
theorem own_d_jdk_42_method_3_code_1 : decode jdk_42_method_3_code 1 = .ok (.aload_n 1, 1) := by decide +kernel
theorem own_d_jdk_42_method_3_code_2 : decode jdk_42_method_3_code 2 = .ok (.iconst 0, 1) := by decide +kernel
theorem own_d_jdk_42_method_3_code_3 : decode jdk_42_method_3_code 3 = .ok (.aload_n 1, 1) := by decide +kernel
theorem own_d_jdk_42_method_3_code_4 : decode jdk_42_method_3_code 4 = .ok (.arraylength, 1) := by decide +kernel
theorem own_d_jdk_42_method_3_code_5 : decode jdk_42_method_3_code 5 = .ok (.aconst_null, 1) := by decide +kernel
theorem own_d_jdk_42_method_3_code_6 : decode jdk_42_method_3_code 6 = .ok (.invokespecial 27, 3) := by decide +kernel
theorem own_d_jdk_42_method_3_code_9 : decode jdk_42_method_3_code 9 = .ok (.return_, 1) := by decide +kernel
theorem own_hEL {Z : State} {a0 : Array Value} (hw : ∀ d ∈ tables_1, d.before a0 Z = true) : EW Z a0 consts_1 := (EW.cons (hw _ (List.mem_of_getElem? (i := 34) rfl)) (by decide) EW.nil)
theorem own_wS {Z : State} {a0 : Array Value} (hw : ∀ d ∈ tables_1, d.before a0 Z = true) : ∀ a ∈ Bundle.stringAtoms, a.before a0 Z = true := fun a ha => hw a ((by decide +kernel : ∀ a ∈ Bundle.stringAtoms, a ∈ tables_1) a ha)

section OwnS
variable {p : Program} {l : Launch} {e : Env} {R : Room} {s : State} {args : Array Value} {below : List Frame} {Z : State} {a0 : Array Value} {h h1 h2 : Heap} {EL : List (String × Nat)} {vm : Vm}
theorem own_ext_refl (h : Heap) : Ext h h := ⟨Nat.le_refl _, fun _ _ q => q⟩
theorem own_ext_trans (E : Ext h h1) (F : Ext h1 h2) : Ext h h2 := ⟨Nat.le_trans E.1 F.1, fun a c q => F.2 a c (E.2 a c q)⟩
theorem own_ext_keep {ws : List Addr} (E : Ext h h1) (K : Keep h1 h2 ws) (q : ∀ x ∈ ws, h.size ≤ x) : Ext h h2 := ⟨Nat.le_trans E.1 K.1, fun a c r => K.2.1 a c (E.2 a c r) fun z => absurd (Array.getElem?_eq_some_iff.mp r).1 (Nat.not_lt.mpr (q a z))⟩
theorem own_ext_wr {a : Addr} {sl : Nat} {v : Value} (E : Ext h h1) (W : Wr h1 h2 a sl v) (q : h.size ≤ a) : Ext h h2 := own_ext_keep E (Keep.of_wr W) (allS q all0)
theorem own_keep_ext (E : Ext h h1) (ws : List Addr) : Keep h h1 ws := (Keep.refl h ws).ext E
/-- the String x says cs -/
def OStr (Z : State) (h : Heap) (x : Addr) (cs : List Int32) : Prop :=
  ∃ (t : Addr) (kb : ClassId) (cd N2 : Int32) (vs : List Value), Exa Z h x "java/lang/String" ∧ Fld Z h x "java/lang/String" "value" "[B" (.ref t) ∧ Fld Z h x "java/lang/String" "coder" "B" (.int cd) ∧ Arv Z h t kb .byte N2 vs (.int 0) ∧
    StrChars.Road.CodA cs cd N2 vs ∧ (∀ c ∈ cs, ¬ c < 0 ∧ ¬ (65535 : Int32) < c) ∧ cs.length ≤ 4000
theorem OStr.ext {x : Addr} {cs : List Int32} (F : OStr Z h x cs) (E : Ext h h1) : OStr Z h1 x cs := by
  obtain ⟨t, kb, cd, N2, vs, a, b, c, d, r⟩ := F
  exact ⟨t, kb, cd, N2, vs, a.ext E, b.ext E, c.ext E, d.ext E, r⟩
theorem OStr.exa {x : Addr} {cs : List Int32} (F : OStr Z h x cs) : Exa Z h x "java/lang/String" := by obtain ⟨t, kb, cd, N2, vs, a, r⟩ := F; exact a
theorem OStr.lt {x : Addr} {cs : List Int32} (F : OStr Z h x cs) : x < h.size := F.exa.lt
/-- a value that is null or a String -/
def OSv (Z : State) (h : Heap) (v : Value) (o : Option (List Int32)) : Prop := (v = .null ∧ o = none) ∨ ∃ x cs, v = .ref x ∧ o = some cs ∧ OStr Z h x cs
theorem OSv.ext {v : Value} {o : Option (List Int32)} (F : OSv Z h v o) (E : Ext h h1) : OSv Z h1 v o := by
  rcases F with q | ⟨x, cs, q1, q2, q3⟩
  · exact Or.inl q
  · exact Or.inr ⟨x, cs, q1, q2, q3.ext E⟩
theorem OSv.isRef {v : Value} {o : Option (List Int32)} (F : OSv Z h v o) : v.isRef = true := by
  rcases F with ⟨rfl, -⟩ | ⟨x, cs, rfl, -⟩ <;> rfl
/-- two that were made one after the other -/
theorem OSv.sep {v w : Value} {o o' : Option (List Int32)} (F : OSv Z h v o) (G : OSv Z h1 w o') (q : ∀ y, w = .ref y → h.size ≤ y) : v = w → o = o' := by
  intro e
  subst e
  rcases F with ⟨rfl, rfl⟩ | ⟨x, cs, rfl, rfl, F⟩
  · rcases G with ⟨-, rfl⟩ | ⟨y, ds, q1, -⟩
    · rfl
    · cases q1
  · exact absurd F.lt (Nat.not_lt.mpr (q x rfl))
/-- a String under construction, its 'value' not yet written, is no booked one -/
theorem own_safe_null {x : Addr} (hal : Z.vm.Alike vm) (E : Exa Z h x "java/lang/String") (F : Fld Z h x "java/lang/String" "value" "[B" .null) : Safe Z EL vm h x := fun B => by
  obtain ⟨cell, cf, k, i, f, e1, e2, -, -, -, -, e7⟩ := F
  obtain ⟨p, -, u, a, -, q, -, G, rfl | rfl⟩ := B
  · cases (show h[q.sa]? = some q.sC from G.ha).symm.trans e1
    obtain ⟨cS, ⟨⟨-, -, -, ⟨c1, k1, i1, f1, -⟩, -, -, -, v1, -⟩, -⟩, -⟩ := G
    obtain ⟨k3, e3, -⟩ := State.fieldFound?_setVm (s := Z) hal e2
    have e4 := (show (Wst Z vm h).fieldFound? _ _ _ = _ from e3).symm.trans f1
    simp only [Option.some.injEq, Prod.mk.injEq] at e4
    rw [← e4.2.2.2, e7] at v1
    cases v1
  · cases (show h[q.sd]? = some q.SA from G.hd).symm.trans e1
    obtain ⟨cell2, k2, g1, g2, -⟩ := E
    cases e1.symm.trans g1
    obtain ⟨cS, -, -, fb, -⟩ := G
    have fb' : vm.findClass "[B" = some q.SA.cls := fb
    rw [hal.findClass] at fb'
    exact ids_ne fb' g2 (by decide) rfl
/-- a class with no road to another -/
theorem own_notCast {C O K : String} {n : Nat} (w : (Jvm.Cond.superclass C O).before a0 Z = true) (w0 : (Jvm.Cond.noSuperclass O).before a0 Z = true) (wk : (Jvm.Cond.instantiable K n).before a0 Z = true) (h1 : C ≠ K) (h2 : O ≠ K) : ∃ c t, Z.vm.findClass C = some c ∧ Z.vm.findClass K = some t ∧ Z.vm.assignable c t = false := by
  obtain ⟨co, ko, o1, o2, o3, -, -⟩ := Cond.noSuperclass_spec w0
  obtain ⟨t, kt, t1, t2, t3, t4, -, -⟩ := Cond.instantiable_spec wk
  obtain ⟨c, c0⟩ := found_sup w
  obtain ⟨pp, k, kp, c1, c2, c3, c4, c5, c6, c7⟩ := Cond.superclass_spec c0 w
  cases o1.symm.trans c1
  have n1 := ids_ne c0 t1 h1
  have n2 := ids_ne o1 t1 h2
  have hi : kt.isInterface = false := by simp only [Bool.or_eq_false_iff] at t4; exact t4.1
  have hs : ∀ fuel, Z.vm.isSubclassAux fuel co t = false := fun fuel => by
    cases fuel with
    | zero => rfl
    | succ f => simp [Vm.isSubclassAux, n2, o2, o3]
  have hc : ∀ fuel, Z.vm.isSubclassAux fuel c t = false := fun fuel => by
    cases fuel with
    | zero => rfl
    | succ f => simp [Vm.isSubclassAux, n1, c2, c4, hs]
  refine ⟨c, t, c0, t1, ?_⟩
  show Z.vm.assignableAux (255 + 1) c t = false
  simp [Vm.assignableAux, n1, c2, t2, c5, t3, hi, Vm.isSubclass, hc]
/-- equals of two Strings -/
theorem own_seq {len W : Nat} (hZ : Z.Warmed39 s.vm) (hw : ∀ d ∈ StrChars.Road.wordsEq, d.before a0 Z = true) {kI : Nat} (wi : (Jvm.Cond.instantiable "java/lang/String" kI).before a0 Z = true) {x y : Addr} {cs ds : List Int32} (F : OStr Z h x cs) (G : OStr Z h y ds)
    {z : Int32} (S : Sta Z h "java/lang/String" "COMPACT_STRINGS" "Z" (.int z)) (hz : ¬ z = 0) (n0 : Nat) (hfr : 2 ≤ R.frames) (hlo : W + 28 ≤ R.locals) :
    OBack l R p e below s args (⟨"java/lang/String", "equals", "(Ljava/lang/Object;)Z"⟩ : MethodName) len W #[.ref x, .ref y] h 0 0 (fun v h' L => v = some (.int (if cs = ds then 1 else 0)) ∧ Fr n0 L ∧ h' = h) := by
  obtain ⟨t, kb, cd, N2, vs, a1, a2, a3, a4, a5, a6, a7⟩ := F
  obtain ⟨t', kb', cd', N2', vs', b1, b2, b3, b4, b5, b6, b7⟩ := G
  refine Back.mono (StrChars.Road.eqW hZ hw wi a1 a2 a3 a4 a5 a6 a7 b1 b2 b3 b4 b5 b6 b7 S hz hfr hlo) (fun P a hp => hp) (fun P a v B hp hq => ?_)
  obtain ⟨L, ⟨q1, rfl, q3⟩, hl, hc, hs⟩ := hq
  refine ⟨[], ⟨?_, Fr.nil n0, q3⟩, hl, hc, hs⟩
  rcases q1 with ⟨q, r⟩ | ⟨q, r⟩
  · rw [q, if_pos r]
  · rw [q, if_neg r]
end OwnS
theorem own_ch255 (x : Int32) : ¬ nar .char ((x &&& (255 : Int32)).toUInt32.toUInt16.toUInt32.toInt32) < 0 ∧ ¬ (255 : Int32) < nar .char ((x &&& (255 : Int32)).toUInt32.toUInt16.toUInt32.toInt32) := by
  have t : ∀ k : Fin 256, ¬ nar .char ((Int32.ofNat k.val).toUInt32.toUInt16.toUInt32.toInt32) < 0 ∧ ¬ (255 : Int32) < nar .char ((Int32.ofNat k.val).toUInt32.toUInt16.toUInt32.toInt32) := by decide +kernel
  have h : (x &&& 255).toBitVec.toNat < 256 := by
    simp only [Int32.toBitVec_and, BitVec.toNat_and]
    exact Nat.lt_succ_of_le Nat.and_le_right
  have e : (x &&& 255) = Int32.ofNat (x &&& 255).toBitVec.toNat := by
    apply Int32.toBitVec_inj.mp
    show _ = BitVec.ofNat 32 _
    rw [BitVec.ofNat_toNat]; simp
  rw [e]
  exact t ⟨_, h⟩
theorem own_up (cs : List Int32) (h : ∀ c ∈ cs, ¬ c < 0 ∧ ¬ (255 : Int32) < c) : ∀ c ∈ cs, ¬ c < 0 ∧ ¬ (65535 : Int32) < c := fun c hc => ⟨(h c hc).1, fun q => (h c hc).2 (Int32.lt_trans (by decide : (255 : Int32) < 65535) q)⟩
theorem own_all0 {P : Int32 → Prop} : ∀ c ∈ ([] : List Int32), P c := fun _ q => nomatch q
theorem own_allS {P : Int32 → Prop} {x : Int32} {cs : List Int32} (a : P x) (r : ∀ c ∈ cs, P c) : ∀ c ∈ x :: cs, P c := fun c q => by
  cases q with
  | head => exact a
  | tail _ q => exact r c q


def own_so (p1 : Int32) : Option (List Int32) := if (p1 &&& (3 : Int32)) = (0 : Int32) then none else if (p1 &&& (3 : Int32)) = (1 : Int32) then some [] else if (p1 &&& (3 : Int32)) = (2 : Int32) then some [(nar .char ((((p1.toUInt32 >>> ((2 : Int32) &&& 31).toUInt32).toInt32) &&& (255 : Int32)).toUInt32.toUInt16.toUInt32.toInt32))] else some [(nar .char ((((p1.toUInt32 >>> ((2 : Int32) &&& 31).toUInt32).toInt32) &&& (255 : Int32)).toUInt32.toUInt16.toUInt32.toInt32)), (nar .char ((((p1.toUInt32 >>> ((10 : Int32) &&& 31).toUInt32).toInt32) &&& (255 : Int32)).toUInt32.toUInt16.toUInt32.toInt32))]

theorem own_if0 {q : Prop} [Decidable q] (h : (if q then (1 : Int32) else 0) = 0) : ¬ q := fun z => by rw [if_pos z] at h; exact absurd h (by decide)
theorem own_if1 {q : Prop} [Decidable q] (h : ¬ (if q then (1 : Int32) else 0) = 0) : q := by
  by_cases z : q
  · exact z
  · exact absurd (if_neg z) h
theorem own_narB {q : Prop} [Decidable q] : nar .boolean (if q then (1 : Int32) else 0) = if q then (1 : Int32) else 0 := by split <;> rfl
theorem own_nar1 : nar .boolean (1 : Int32) = 1 := by decide
theorem own_nar0 : nar .boolean (0 : Int32) = 0 := by decide

set_option maxRecDepth 65536 in
set_option maxHeartbeats 40000000 in
theorem own_new4E (l : Launch) (Z : State) (a0 : Array Value) (hw : ∀ d ∈ tables_1, d.before a0 Z = true) (ws : List Jvm.Cond) (a b : Addr) (h0 : Heap) (n0 : Nat) (Z0 : n0 ≤ h0.size) (E1 : Exa Z h0 a "java/lang/String") (Fv : Fld Z h0 a "java/lang/String" "value" "[B" .null) (Fc : Fld Z h0 a "java/lang/String" "coder" "B" (.int (0 : Int32))) (ga : n0 ≤ a) :
    OMetW l Z consts_1 (⟨"java/lang/String", "<init>", "([CIILjava/lang/Void;)V"⟩ : MethodName) jdk_42_method_149_code 6 none ws ({ frames := 1, cells := 4, slots := 8, locals := 16 } : Room) #[(.ref a), (.ref b), (.int (0 : Int32)), (.int (0 : Int32)), .null] h0 (fun v h L => v = none ∧ Fr n0 L ∧ Keep h0 h [a] ∧ OStr Z h a []) := by
  refine OMetW.body (plainFor_of_name own_pn3) ?_
  intro p e s m below meth c s₁ hx hby hml hown hnm hret hlk hZ X0 e0 OW0
  have hEL := own_hEL hw
  have wS := own_wS hw
  refine OGo.step (fun _ kk => castTop (show entryFrame m #[(.ref a), (.ref b), (.int (0 : Int32)), (.int (0 : Int32)), .null] 6 = (mkF m 0 #[.val (.ref a), .val (.ref b), .val (.int (0 : Int32)), .val (.int (0 : Int32)), .val .null, .unset] []) from by first | (simp [entryFrame, mkF, argsToLocals, Value.category]; done) | rfl) kk) ?_
  show OGo p e below (s₁.setTop (mkF m 0 #[.val (.ref a), .val (.ref b), .val (.int (0 : Int32)), .val (.int (0 : Int32)), .val .null, .unset] [])) (OEndW s Z consts_1 (fun v h L => v = none ∧ Fr n0 L ∧ Keep h0 h [a] ∧ OStr Z h a []) ({ frames := 1, cells := 4, slots := 8, locals := 16 } : Room).cells ({ frames := 1, cells := 4, slots := 8, locals := 16 } : Room).slots)
  have sf207 := own_safe_null (EL := consts_1) OW0.2.1.alike E1 Fv
  refine OGo.step (fun _ kk => XS.aloadN X0.here hx rfl (hb hby own_d_jdk_42_method_149_code_0) rfl rfl kk) ?_
  show OGo p e below (s₁.setTop (mkF m 1 #[.val (.ref a), .val (.ref b), .val (.int (0 : Int32)), .val (.int (0 : Int32)), .val .null, .unset] [(.ref a)])) (OEndW s Z consts_1 (fun v h L => v = none ∧ Fr n0 L ∧ Keep h0 h [a] ∧ OStr Z h a []) ({ frames := 1, cells := 4, slots := 8, locals := 16 } : Room).cells ({ frames := 1, cells := 4, slots := 8, locals := 16 } : Room).slots)
  obtain ⟨T208, X208, e208, st208⟩ := initO X0 hx hZ hown (hw _ (List.mem_of_getElem? (i := 15) rfl)) (hw _ (List.mem_of_getElem? (i := 16) rfl)) (hw _ (List.mem_of_getElem? (i := 17) rfl)) e0 (g := (mkF m 1 #[.val (.ref a), .val (.ref b), .val (.int (0 : Int32)), .val (.int (0 : Int32)), .val .null, .unset] [(.ref a)])) rfl (by rw [hml]; rfl) rfl (hb hby own_d_jdk_42_method_149_code_1) (by decide) (W := 0) (by show 2 * 0 + _ ≤ _; exact Nat.le_of_eq rfl) (by decide)
  refine OGo.step st208 ?_
  show OGo p e below (T208.setTop (mkF m 4 #[.val (.ref a), .val (.ref b), .val (.int (0 : Int32)), .val (.int (0 : Int32)), .val .null, .unset] [])) (OEndW s Z consts_1 (fun v h L => v = none ∧ Fr n0 L ∧ Keep h0 h [a] ∧ OStr Z h a []) ({ frames := 1, cells := 4, slots := 8, locals := 16 } : Room).cells ({ frames := 1, cells := 4, slots := 8, locals := 16 } : Room).slots)
  refine OGo.step (fun _ kk => XS.iloadN X208.here hx rfl (hb hby own_d_jdk_42_method_149_code_4) rfl kk) ?_
  show OGo p e below (T208.setTop (mkF m 5 #[.val (.ref a), .val (.ref b), .val (.int (0 : Int32)), .val (.int (0 : Int32)), .val .null, .unset] [(.int (0 : Int32))])) (OEndW s Z consts_1 (fun v h L => v = none ∧ Fr n0 L ∧ Keep h0 h [a] ∧ OStr Z h a []) ({ frames := 1, cells := 4, slots := 8, locals := 16 } : Room).cells ({ frames := 1, cells := 4, slots := 8, locals := 16 } : Room).slots)
  refine OGo.step (fun _ kk => XS.ifNo X208.here hx rfl (hb hby own_d_jdk_42_method_149_code_5) rfl ((if0 _ _).trans (teq rfl).2) kk) ?_
  show OGo p e below (T208.setTop (mkF m 8 #[.val (.ref a), .val (.ref b), .val (.int (0 : Int32)), .val (.int (0 : Int32)), .val .null, .unset] [])) (OEndW s Z consts_1 (fun v h L => v = none ∧ Fr n0 L ∧ Keep h0 h [a] ∧ OStr Z h a []) ({ frames := 1, cells := 4, slots := 8, locals := 16 } : Room).cells ({ frames := 1, cells := 4, slots := 8, locals := 16 } : Room).slots)
  refine OGo.step (fun _ kk => XS.aloadN X208.here hx rfl (hb hby own_d_jdk_42_method_149_code_8) rfl rfl kk) ?_
  show OGo p e below (T208.setTop (mkF m 9 #[.val (.ref a), .val (.ref b), .val (.int (0 : Int32)), .val (.int (0 : Int32)), .val .null, .unset] [(.ref a)])) (OEndW s Z consts_1 (fun v h L => v = none ∧ Fr n0 L ∧ Keep h0 h [a] ∧ OStr Z h a []) ({ frames := 1, cells := 4, slots := 8, locals := 16 } : Room).cells ({ frames := 1, cells := 4, slots := 8, locals := 16 } : Room).slots)
  refine own_ldcW X208 hx hown (hw _ (List.mem_of_getElem? (i := 34) rfl)) wS hEL OW0 e208 (by decide) (vs := []) (z := (0 : Int32)) ⟨by decide, by decide⟩ (by decide) (by decide) (pc := 9) (Ls := #[.val (.ref a), .val (.ref b), .val (.int (0 : Int32)), .val (.int (0 : Int32)), .val .null, .unset]) (st := [(.ref a)]) (hb hby own_d_jdk_42_method_149_code_9) (n := 0) (by decide) (by decide) (by decide) (by decide) ?_
  intro z zb kb209 T209 X209 E209 OW209 hZ hown CH209 Es209 Fc209 Fv209 Av209 Ns209
  have sf210 := CH209.safe (E1).lt sf207
  have sz209 : n0 ≤ T209.heap.size := Nat.le_trans Z0 E209.1
  show OGo p e below (T209.setTop (mkF m 11 #[.val (.ref a), .val (.ref b), .val (.int (0 : Int32)), .val (.int (0 : Int32)), .val .null, .unset] [(.ref z), (.ref a)])) (OEndW s Z consts_1 (fun v h L => v = none ∧ Fr n0 L ∧ Keep h0 h [a] ∧ OStr Z h a []) ({ frames := 1, cells := 4, slots := 8, locals := 16 } : Room).cells ({ frames := 1, cells := 4, slots := 8, locals := 16 } : Room).slots)
  have nab := (Ns209 _ sf210).2
  obtain ⟨T211, X211, e211, st211⟩ := getF X209 hx hZ hown (host := "") (Or.inl (hw _ (List.mem_of_getElem? (i := 32) rfl))) Via.refl rfl Fv209 (g := (mkF m 11 #[.val (.ref a), .val (.ref b), .val (.int (0 : Int32)), .val (.int (0 : Int32)), .val .null, .unset] [(.ref z), (.ref a)])) rfl rfl (hb hby own_d_jdk_42_method_149_code_11)
  refine OGo.step st211 ?_
  show OGo p e below (T211.setTop (mkF m 14 #[.val (.ref a), .val (.ref b), .val (.int (0 : Int32)), .val (.int (0 : Int32)), .val .null, .unset] [(.ref zb), (.ref a)])) (OEndW s Z consts_1 (fun v h L => v = none ∧ Fr n0 L ∧ Keep h0 h [a] ∧ OStr Z h a []) ({ frames := 1, cells := 4, slots := 8, locals := 16 } : Room).cells ({ frames := 1, cells := 4, slots := 8, locals := 16 } : Room).slots)
  have fc212 := (Fv.ext E209)
  have fc213 := (E1.ext E209)
  obtain ⟨T214, h214, X214, e214, W214, st214⟩ := putF X211 hx hZ hown (host := "") (Or.inl (hw _ (List.mem_of_getElem? (i := 32) rfl))) Via.refl e211 fc212 fc213 (Or.inr ⟨(hw _ (List.mem_of_getElem? (i := 33) rfl)), rfl, hnm⟩) (hw _ (List.mem_of_getElem? (i := 5) rfl)) (ty := (.array .byte)) (by decide) rfl rfl (g := (mkF m 14 #[.val (.ref a), .val (.ref b), .val (.int (0 : Int32)), .val (.int (0 : Int32)), .val .null, .unset] [(.ref zb), (.ref a)])) rfl rfl (hb hby own_d_jdk_42_method_149_code_14)
  refine OGo.step st214 ?_
  show OGo p e below (T214.setTop (mkF m 17 #[.val (.ref a), .val (.ref b), .val (.int (0 : Int32)), .val (.int (0 : Int32)), .val .null, .unset] [])) (OEndW s Z consts_1 (fun v h L => v = none ∧ Fr n0 L ∧ Keep h0 h [a] ∧ OStr Z h a []) ({ frames := 1, cells := 4, slots := 8, locals := 16 } : Room).cells ({ frames := 1, cells := 4, slots := 8, locals := 16 } : Room).slots)
  have Fw214 := fc212.same W214
  have Nf214 := Fr.snoc X214 (Fr.nil n0) ga
  have sz214 : n0 ≤ h214.size := by rw [W214.size]; exact sz209
  have sw215 := sf210
  have sf216 := Safe.wr W214 sw215 OW209.chv sf210
  have OW217 := OW209.wr W214 sw215
  refine OGo.step (fun _ kk => XS.aloadN X214.here hx rfl (hb hby own_d_jdk_42_method_149_code_17) rfl rfl kk) ?_
  show OGo p e below (T214.setTop (mkF m 18 #[.val (.ref a), .val (.ref b), .val (.int (0 : Int32)), .val (.int (0 : Int32)), .val .null, .unset] [(.ref a)])) (OEndW s Z consts_1 (fun v h L => v = none ∧ Fr n0 L ∧ Keep h0 h [a] ∧ OStr Z h a []) ({ frames := 1, cells := 4, slots := 8, locals := 16 } : Room).cells ({ frames := 1, cells := 4, slots := 8, locals := 16 } : Room).slots)
  refine own_ldcW X214 hx hown (hw _ (List.mem_of_getElem? (i := 34) rfl)) wS hEL OW217 e214 (by decide) (vs := []) (z := (0 : Int32)) ⟨by decide, by decide⟩ (by decide) (by decide) (pc := 18) (Ls := #[.val (.ref a), .val (.ref b), .val (.int (0 : Int32)), .val (.int (0 : Int32)), .val .null, .unset]) (st := [(.ref a)]) (hb hby own_d_jdk_42_method_149_code_18) (n := 0) (by decide) (by decide) (by decide) (by decide) ?_
  intro z2 z2b kb218 T218 X218 E218 OW218 hZ hown CH218 Es218 Fc218 Fv218 Av218 Ns218
  have fc220 := (fc213.wr W214)
  have sf219 := CH218.safe (fc220).lt sf216
  have sz218 : n0 ≤ T218.heap.size := Nat.le_trans sz214 E218.1
  show OGo p e below (T218.setTop (mkF m 20 #[.val (.ref a), .val (.ref b), .val (.int (0 : Int32)), .val (.int (0 : Int32)), .val .null, .unset] [(.ref z2), (.ref a)])) (OEndW s Z consts_1 (fun v h L => v = none ∧ Fr n0 L ∧ Keep h0 h [a] ∧ OStr Z h a []) ({ frames := 1, cells := 4, slots := 8, locals := 16 } : Room).cells ({ frames := 1, cells := 4, slots := 8, locals := 16 } : Room).slots)
  obtain ⟨T221, X221, e221, st221⟩ := getF X218 hx hZ hown (host := "") (Or.inl (hw _ (List.mem_of_getElem? (i := 30) rfl))) Via.refl rfl Fc218 (g := (mkF m 20 #[.val (.ref a), .val (.ref b), .val (.int (0 : Int32)), .val (.int (0 : Int32)), .val .null, .unset] [(.ref z2), (.ref a)])) rfl rfl (hb hby own_d_jdk_42_method_149_code_20)
  refine OGo.step st221 ?_
  show OGo p e below (T221.setTop (mkF m 23 #[.val (.ref a), .val (.ref b), .val (.int (0 : Int32)), .val (.int (0 : Int32)), .val .null, .unset] [(.int (0 : Int32)), (.ref a)])) (OEndW s Z consts_1 (fun v h L => v = none ∧ Fr n0 L ∧ Keep h0 h [a] ∧ OStr Z h a []) ({ frames := 1, cells := 4, slots := 8, locals := 16 } : Room).cells ({ frames := 1, cells := 4, slots := 8, locals := 16 } : Room).slots)
  have fc222 := (((Fc.ext E209).other W214 (Or.inr (slot_ne (Or.inr (hw _ (List.mem_of_getElem? (i := 31) rfl))) (Or.inr (hw _ (List.mem_of_getElem? (i := 33) rfl))) (by decide) (t := .byte) (t' := (.array .byte)) (by decide) (by decide)))).ext E218)
  have fc223 := (fc220.ext E218)
  obtain ⟨T224, h224, X224, e224, W224, st224⟩ := putFN X221 hx hZ hown (hw _ (List.mem_of_getElem? (i := 30) rfl)) Via.refl e221 fc222 fc223 (Or.inr ⟨(hw _ (List.mem_of_getElem? (i := 31) rfl)), rfl, hnm⟩) (hw _ (List.mem_of_getElem? (i := 5) rfl)) (ty := .byte) (v' := (.int (0 : Int32))) (by decide) rfl rfl (g := (mkF m 23 #[.val (.ref a), .val (.ref b), .val (.int (0 : Int32)), .val (.int (0 : Int32)), .val .null, .unset] [(.int (0 : Int32)), (.ref a)])) rfl rfl (hb hby own_d_jdk_42_method_149_code_23)
  refine OGo.step st224 ?_
  show OGo p e below (T224.setTop (mkF m 26 #[.val (.ref a), .val (.ref b), .val (.int (0 : Int32)), .val (.int (0 : Int32)), .val .null, .unset] [])) (OEndW s Z consts_1 (fun v h L => v = none ∧ Fr n0 L ∧ Keep h0 h [a] ∧ OStr Z h a []) ({ frames := 1, cells := 4, slots := 8, locals := 16 } : Room).cells ({ frames := 1, cells := 4, slots := 8, locals := 16 } : Room).slots)
  have Fw224 := fc222.same W224
  have Nf224 := Fr.snoc X224 Nf214 ga
  have sz224 : n0 ≤ h224.size := by rw [W224.size]; exact sz218
  have sw225 := sf219
  have sf226 := Safe.wr W224 sw225 OW218.chv sf219
  have OW227 := OW218.wr W224 sw225
  have fc228 := (fc223.wr W224)
  have fc229 := ((Fw214.ext E218).other W224 (Or.inr (slot_ne (Or.inr (hw _ (List.mem_of_getElem? (i := 33) rfl))) (Or.inr (hw _ (List.mem_of_getElem? (i := 31) rfl))) (by decide) (t := (.array .byte)) (t' := .byte) (by decide) (by decide))))
  have fc230 := (((Av209.other W214 (Ne.symm nab)).ext E218).other W224 (Ne.symm nab))
  have HQ : OStr Z h224 a [] := ⟨zb, _, 0, 0, [], fc228, fc229, Fw224, fc230, Or.inl ⟨rfl, rfl, rfl, own_all0⟩, own_all0, by decide⟩
  have HK := (((((Keep.refl h0 [a]).ext E209).wr W214 (Or.inl (List.mem_of_getElem? (i := 0) rfl))).ext E218).wr W224 (Or.inl (List.mem_of_getElem? (i := 0) rfl)))
  exact own_ret0W X224 hx hlk hEL OW227 e224 hret (hb hby own_d_jdk_42_method_149_code_26) (by rw [e224]; exact ⟨rfl, Nf224, HK, HQ⟩) (by decide) (by decide)

set_option maxRecDepth 65536 in
set_option maxHeartbeats 40000000 in
theorem own_new1E (l : Launch) (Z : State) (a0 : Array Value) (hw : ∀ d ∈ tables_1, d.before a0 Z = true) (ws : List Jvm.Cond) (a b : Addr) (kb : ClassId) (h0 : Heap) (n0 : Nat) (Z0 : n0 ≤ h0.size) (E1 : Exa Z h0 a "java/lang/String") (Fv : Fld Z h0 a "java/lang/String" "value" "[B" .null) (Fc : Fld Z h0 a "java/lang/String" "coder" "B" (.int (0 : Int32))) (ga : n0 ≤ a) (Vb : Arv Z h0 b kb .char (0 : Int32) [] (.int (0 : Int32))) :
    OMetW l Z consts_1 (⟨"java/lang/String", "<init>", "([C)V"⟩ : MethodName) jdk_42_method_3_code 2 none ws ({ frames := 2, cells := 4, slots := 8, locals := 33 } : Room) #[(.ref a), (.ref b)] h0 (fun v h L => v = none ∧ Fr n0 L ∧ Keep h0 h [a] ∧ OStr Z h a []) := by
  refine OMetW.body (plainFor_of_name own_pn3) ?_
  intro p e s m below meth c s₁ hx hby hml hown hnm hret hlk hZ X0 e0 OW0
  have hEL := own_hEL hw
  have wS := own_wS hw
  refine OGo.step (fun _ kk => castTop (show entryFrame m #[(.ref a), (.ref b)] 2 = (mkF m 0 #[.val (.ref a), .val (.ref b)] []) from by first | (simp [entryFrame, mkF, argsToLocals, Value.category]; done) | rfl) kk) ?_
  show OGo p e below (s₁.setTop (mkF m 0 #[.val (.ref a), .val (.ref b)] [])) (OEndW s Z consts_1 (fun v h L => v = none ∧ Fr n0 L ∧ Keep h0 h [a] ∧ OStr Z h a []) ({ frames := 2, cells := 4, slots := 8, locals := 33 } : Room).cells ({ frames := 2, cells := 4, slots := 8, locals := 33 } : Room).slots)
  obtain ⟨cb, Ab, qb, Sb, Mb, Hb, Gb⟩ := Vb
  refine OGo.step (fun _ kk => XS.aloadN X0.here hx rfl (hb hby own_d_jdk_42_method_3_code_0) rfl rfl kk) ?_
  show OGo p e below (s₁.setTop (mkF m 1 #[.val (.ref a), .val (.ref b)] [(.ref a)])) (OEndW s Z consts_1 (fun v h L => v = none ∧ Fr n0 L ∧ Keep h0 h [a] ∧ OStr Z h a []) ({ frames := 2, cells := 4, slots := 8, locals := 33 } : Room).cells ({ frames := 2, cells := 4, slots := 8, locals := 33 } : Room).slots)
  refine OGo.step (fun _ kk => XS.aloadN X0.here hx rfl (hb hby own_d_jdk_42_method_3_code_1) rfl rfl kk) ?_
  show OGo p e below (s₁.setTop (mkF m 2 #[.val (.ref a), .val (.ref b)] [(.ref b), (.ref a)])) (OEndW s Z consts_1 (fun v h L => v = none ∧ Fr n0 L ∧ Keep h0 h [a] ∧ OStr Z h a []) ({ frames := 2, cells := 4, slots := 8, locals := 33 } : Room).cells ({ frames := 2, cells := 4, slots := 8, locals := 33 } : Room).slots)
  refine OGo.step (fun _ kk => XS.iconst X0.here hx rfl (hb hby own_d_jdk_42_method_3_code_2) kk) ?_
  show OGo p e below (s₁.setTop (mkF m 3 #[.val (.ref a), .val (.ref b)] [(.int (0 : Int32)), (.ref b), (.ref a)])) (OEndW s Z consts_1 (fun v h L => v = none ∧ Fr n0 L ∧ Keep h0 h [a] ∧ OStr Z h a []) ({ frames := 2, cells := 4, slots := 8, locals := 33 } : Room).cells ({ frames := 2, cells := 4, slots := 8, locals := 33 } : Room).slots)
  refine OGo.step (fun _ kk => XS.aloadN X0.here hx rfl (hb hby own_d_jdk_42_method_3_code_3) rfl rfl kk) ?_
  show OGo p e below (s₁.setTop (mkF m 4 #[.val (.ref a), .val (.ref b)] [(.ref b), (.int (0 : Int32)), (.ref b), (.ref a)])) (OEndW s Z consts_1 (fun v h L => v = none ∧ Fr n0 L ∧ Keep h0 h [a] ∧ OStr Z h a []) ({ frames := 2, cells := 4, slots := 8, locals := 33 } : Room).cells ({ frames := 2, cells := 4, slots := 8, locals := 33 } : Room).slots)
  refine OGo.step (fun _ kk => X0.arraylength hx (by rw [e0]; exact (Ab).1) (State.isArrayOf_alike hZ.alike (Ab).2.1) (g := (mkF m 4 #[.val (.ref a), .val (.ref b)] [(.ref b), (.int (0 : Int32)), (.ref b), (.ref a)])) rfl rfl (hb hby own_d_jdk_42_method_3_code_4) _ kk) ?_
  rw [len_of Sb Mb]
  show OGo p e below (s₁.setTop (mkF m 5 #[.val (.ref a), .val (.ref b)] [(.int (0 : Int32)), (.int (0 : Int32)), (.ref b), (.ref a)])) (OEndW s Z consts_1 (fun v h L => v = none ∧ Fr n0 L ∧ Keep h0 h [a] ∧ OStr Z h a []) ({ frames := 2, cells := 4, slots := 8, locals := 33 } : Room).cells ({ frames := 2, cells := 4, slots := 8, locals := 33 } : Room).slots)
  refine OGo.step (fun _ kk => XS.aconstNull X0.here hx rfl (hb hby own_d_jdk_42_method_3_code_5) kk) ?_
  show OGo p e below (s₁.setTop (mkF m 6 #[.val (.ref a), .val (.ref b)] [.null, (.int (0 : Int32)), (.int (0 : Int32)), (.ref b), (.ref a)])) (OEndW s Z consts_1 (fun v h L => v = none ∧ Fr n0 L ∧ Keep h0 h [a] ∧ OStr Z h a []) ({ frames := 2, cells := 4, slots := 8, locals := 33 } : Room).cells ({ frames := 2, cells := 4, slots := 8, locals := 33 } : Room).slots)
  refine own_specialW X0 hx hZ (y := (⟨"java/lang/String", "<init>", "([CIILjava/lang/Void;)V"⟩ : MethodName)) rfl hown (hw _ (List.mem_of_getElem? (i := 11) rfl)) (hw _ (List.mem_of_getElem? (i := 12) rfl)) (hw _ (List.mem_of_getElem? (i := 14) rfl)) (hw _ (List.mem_of_getElem? (i := 6) rfl)) (by decide) hEL OW0 (a := a) (W := 0) (own_new4E l Z a0 hw [] a b h0 n0 Z0 E1 Fv Fc ga) e0  (pc := 6) (Ls := #[.val (.ref a), .val (.ref b)]) (argsL := [(.ref b), (.int (0 : Int32)), (.int (0 : Int32)), .null]) (rest := []) (by rw [hml]; rfl) (lenOf own_pd7 rfl) rfl (hb hby own_d_jdk_42_method_3_code_6) (by decide) (by decide) (by decide) (by decide) ?_
  intro v231 T231 L231 X231 hQ231 OW231 hZ hown CH231
  obtain ⟨rfl, N231, K231, O231⟩ := hQ231
  show OGo p e below (T231.setTop (mkF m 9 #[.val (.ref a), .val (.ref b)] [])) (OEndW s Z consts_1 (fun v h L => v = none ∧ Fr n0 L ∧ Keep h0 h [a] ∧ OStr Z h a []) ({ frames := 2, cells := 4, slots := 8, locals := 33 } : Room).cells ({ frames := 2, cells := 4, slots := 8, locals := 33 } : Room).slots)
  exact own_ret0W X231 hx hlk hEL OW231 rfl hret (hb hby own_d_jdk_42_method_3_code_9) ⟨rfl, Fr.app (Fr.nil n0) N231, K231, O231⟩ (by decide) (by decide)

set_option maxRecDepth 65536 in
set_option maxHeartbeats 40000000 in
theorem own_s (l : Launch) (Z : State) (a0 : Array Value) (hw : ∀ d ∈ tables_1, d.before a0 Z = true) (ws : List Jvm.Cond) (p1 zc : Int32) (h0 : Heap) (n0 : Nat) (Z0 : n0 ≤ h0.size) (SC : Sta Z h0 "java/lang/String" "COMPACT_STRINGS" "Z" (.int zc)) (hzc : ¬ zc = 0) :
    OMetW l Z consts_1 (⟨"com/example/tags_to_grants/tagstogrants/policy/CellEqualsPinLaw", "s", "(I)Ljava/lang/String;"⟩ : MethodName) method_2_code 4 (some (.object "java/lang/String")) ws ({ frames := 4, cells := 6, slots := 12, locals := 66 } : Room) #[(.int p1)] h0 (fun v h L => ∃ w, v = some w ∧ Fr n0 L ∧ Ext h0 h ∧ OSv Z h w (own_so p1) ∧ ∀ y, w = .ref y → h0.size ≤ y) := by
  refine OMetW.body (plainFor_of_name own_pn0) ?_
  intro p e s m below meth c s₁ hx hby hml hown hnm hret hlk hZ X0 e0 OW0
  have hEL := own_hEL hw
  have wS := own_wS hw
  refine OGo.step (fun _ kk => castTop (show entryFrame m #[(.int p1)] 4 = (mkF m 0 #[.val (.int p1), .unset, .unset, .unset] []) from by first | (simp [entryFrame, mkF, argsToLocals, Value.category]; done) | rfl) kk) ?_
  show OGo p e below (s₁.setTop (mkF m 0 #[.val (.int p1), .unset, .unset, .unset] [])) (OEndW s Z consts_1 (fun v h L => ∃ w, v = some w ∧ Fr n0 L ∧ Ext h0 h ∧ OSv Z h w (own_so p1) ∧ ∀ y, w = .ref y → h0.size ≤ y) ({ frames := 4, cells := 6, slots := 12, locals := 66 } : Room).cells ({ frames := 4, cells := 6, slots := 12, locals := 66 } : Room).slots)
  refine OGo.step (fun _ kk => XS.iloadN X0.here hx rfl (hb hby own_d_method_2_code_0) rfl kk) ?_
  show OGo p e below (s₁.setTop (mkF m 1 #[.val (.int p1), .unset, .unset, .unset] [(.int p1)])) (OEndW s Z consts_1 (fun v h L => ∃ w, v = some w ∧ Fr n0 L ∧ Ext h0 h ∧ OSv Z h w (own_so p1) ∧ ∀ y, w = .ref y → h0.size ≤ y) ({ frames := 4, cells := 6, slots := 12, locals := 66 } : Room).cells ({ frames := 4, cells := 6, slots := 12, locals := 66 } : Room).slots)
  refine OGo.step (fun _ kk => XS.iconst X0.here hx rfl (hb hby own_d_method_2_code_1) kk) ?_
  show OGo p e below (s₁.setTop (mkF m 2 #[.val (.int p1), .unset, .unset, .unset] [(.int (3 : Int32)), (.int p1)])) (OEndW s Z consts_1 (fun v h L => ∃ w, v = some w ∧ Fr n0 L ∧ Ext h0 h ∧ OSv Z h w (own_so p1) ∧ ∀ y, w = .ref y → h0.size ≤ y) ({ frames := 4, cells := 6, slots := 12, locals := 66 } : Room).cells ({ frames := 4, cells := 6, slots := 12, locals := 66 } : Room).slots)
  refine OGo.step (fun _ kk => XS.iand X0.here hx rfl (hb hby own_d_method_2_code_2) rfl kk) ?_
  show OGo p e below (s₁.setTop (mkF m 3 #[.val (.int p1), .unset, .unset, .unset] [(.int (p1 &&& (3 : Int32)))])) (OEndW s Z consts_1 (fun v h L => ∃ w, v = some w ∧ Fr n0 L ∧ Ext h0 h ∧ OSv Z h w (own_so p1) ∧ ∀ y, w = .ref y → h0.size ≤ y) ({ frames := 4, cells := 6, slots := 12, locals := 66 } : Room).cells ({ frames := 4, cells := 6, slots := 12, locals := 66 } : Room).slots)
  refine OGo.step (fun _ kk => XS.istoreN X0.here hx rfl (hb hby own_d_method_2_code_3) rfl (l' := #[.val (.int p1), .val (.int (p1 &&& (3 : Int32))), .unset, .unset]) rfl kk) ?_
  show OGo p e below (s₁.setTop (mkF m 4 #[.val (.int p1), .val (.int (p1 &&& (3 : Int32))), .unset, .unset] [])) (OEndW s Z consts_1 (fun v h L => ∃ w, v = some w ∧ Fr n0 L ∧ Ext h0 h ∧ OSv Z h w (own_so p1) ∧ ∀ y, w = .ref y → h0.size ≤ y) ({ frames := 4, cells := 6, slots := 12, locals := 66 } : Room).cells ({ frames := 4, cells := 6, slots := 12, locals := 66 } : Room).slots)
  refine OGo.step (fun _ kk => XS.iloadN X0.here hx rfl (hb hby own_d_method_2_code_4) rfl kk) ?_
  show OGo p e below (s₁.setTop (mkF m 5 #[.val (.int p1), .val (.int (p1 &&& (3 : Int32))), .unset, .unset] [(.int p1)])) (OEndW s Z consts_1 (fun v h L => ∃ w, v = some w ∧ Fr n0 L ∧ Ext h0 h ∧ OSv Z h w (own_so p1) ∧ ∀ y, w = .ref y → h0.size ≤ y) ({ frames := 4, cells := 6, slots := 12, locals := 66 } : Room).cells ({ frames := 4, cells := 6, slots := 12, locals := 66 } : Room).slots)
  refine OGo.step (fun _ kk => XS.iconst X0.here hx rfl (hb hby own_d_method_2_code_5) kk) ?_
  show OGo p e below (s₁.setTop (mkF m 6 #[.val (.int p1), .val (.int (p1 &&& (3 : Int32))), .unset, .unset] [(.int (2 : Int32)), (.int p1)])) (OEndW s Z consts_1 (fun v h L => ∃ w, v = some w ∧ Fr n0 L ∧ Ext h0 h ∧ OSv Z h w (own_so p1) ∧ ∀ y, w = .ref y → h0.size ≤ y) ({ frames := 4, cells := 6, slots := 12, locals := 66 } : Room).cells ({ frames := 4, cells := 6, slots := 12, locals := 66 } : Room).slots)
  refine OGo.step (fun _ kk => XS.iushr X0.here hx rfl (hb hby own_d_method_2_code_6) rfl kk) ?_
  show OGo p e below (s₁.setTop (mkF m 7 #[.val (.int p1), .val (.int (p1 &&& (3 : Int32))), .unset, .unset] [(.int ((p1.toUInt32 >>> ((2 : Int32) &&& 31).toUInt32).toInt32))])) (OEndW s Z consts_1 (fun v h L => ∃ w, v = some w ∧ Fr n0 L ∧ Ext h0 h ∧ OSv Z h w (own_so p1) ∧ ∀ y, w = .ref y → h0.size ≤ y) ({ frames := 4, cells := 6, slots := 12, locals := 66 } : Room).cells ({ frames := 4, cells := 6, slots := 12, locals := 66 } : Room).slots)
  refine OGo.step (fun _ kk => XS.sipush X0.here hx rfl (hb hby own_d_method_2_code_7) kk) ?_
  show OGo p e below (s₁.setTop (mkF m 10 #[.val (.int p1), .val (.int (p1 &&& (3 : Int32))), .unset, .unset] [(.int (255 : Int32)), (.int ((p1.toUInt32 >>> ((2 : Int32) &&& 31).toUInt32).toInt32))])) (OEndW s Z consts_1 (fun v h L => ∃ w, v = some w ∧ Fr n0 L ∧ Ext h0 h ∧ OSv Z h w (own_so p1) ∧ ∀ y, w = .ref y → h0.size ≤ y) ({ frames := 4, cells := 6, slots := 12, locals := 66 } : Room).cells ({ frames := 4, cells := 6, slots := 12, locals := 66 } : Room).slots)
  refine OGo.step (fun _ kk => XS.iand X0.here hx rfl (hb hby own_d_method_2_code_10) rfl kk) ?_
  show OGo p e below (s₁.setTop (mkF m 11 #[.val (.int p1), .val (.int (p1 &&& (3 : Int32))), .unset, .unset] [(.int (((p1.toUInt32 >>> ((2 : Int32) &&& 31).toUInt32).toInt32) &&& (255 : Int32)))])) (OEndW s Z consts_1 (fun v h L => ∃ w, v = some w ∧ Fr n0 L ∧ Ext h0 h ∧ OSv Z h w (own_so p1) ∧ ∀ y, w = .ref y → h0.size ≤ y) ({ frames := 4, cells := 6, slots := 12, locals := 66 } : Room).cells ({ frames := 4, cells := 6, slots := 12, locals := 66 } : Room).slots)
  refine OGo.step (fun _ kk => XS.i2c X0.here hx rfl (hb hby own_d_method_2_code_11) rfl kk) ?_
  show OGo p e below (s₁.setTop (mkF m 12 #[.val (.int p1), .val (.int (p1 &&& (3 : Int32))), .unset, .unset] [(.int ((((p1.toUInt32 >>> ((2 : Int32) &&& 31).toUInt32).toInt32) &&& (255 : Int32)).toUInt32.toUInt16.toUInt32.toInt32))])) (OEndW s Z consts_1 (fun v h L => ∃ w, v = some w ∧ Fr n0 L ∧ Ext h0 h ∧ OSv Z h w (own_so p1) ∧ ∀ y, w = .ref y → h0.size ≤ y) ({ frames := 4, cells := 6, slots := 12, locals := 66 } : Room).cells ({ frames := 4, cells := 6, slots := 12, locals := 66 } : Room).slots)
  refine OGo.step (fun _ kk => XS.istoreN X0.here hx rfl (hb hby own_d_method_2_code_12) rfl (l' := #[.val (.int p1), .val (.int (p1 &&& (3 : Int32))), .val (.int ((((p1.toUInt32 >>> ((2 : Int32) &&& 31).toUInt32).toInt32) &&& (255 : Int32)).toUInt32.toUInt16.toUInt32.toInt32)), .unset]) rfl kk) ?_
  show OGo p e below (s₁.setTop (mkF m 13 #[.val (.int p1), .val (.int (p1 &&& (3 : Int32))), .val (.int ((((p1.toUInt32 >>> ((2 : Int32) &&& 31).toUInt32).toInt32) &&& (255 : Int32)).toUInt32.toUInt16.toUInt32.toInt32)), .unset] [])) (OEndW s Z consts_1 (fun v h L => ∃ w, v = some w ∧ Fr n0 L ∧ Ext h0 h ∧ OSv Z h w (own_so p1) ∧ ∀ y, w = .ref y → h0.size ≤ y) ({ frames := 4, cells := 6, slots := 12, locals := 66 } : Room).cells ({ frames := 4, cells := 6, slots := 12, locals := 66 } : Room).slots)
  refine OGo.step (fun _ kk => XS.iloadN X0.here hx rfl (hb hby own_d_method_2_code_13) rfl kk) ?_
  show OGo p e below (s₁.setTop (mkF m 14 #[.val (.int p1), .val (.int (p1 &&& (3 : Int32))), .val (.int ((((p1.toUInt32 >>> ((2 : Int32) &&& 31).toUInt32).toInt32) &&& (255 : Int32)).toUInt32.toUInt16.toUInt32.toInt32)), .unset] [(.int p1)])) (OEndW s Z consts_1 (fun v h L => ∃ w, v = some w ∧ Fr n0 L ∧ Ext h0 h ∧ OSv Z h w (own_so p1) ∧ ∀ y, w = .ref y → h0.size ≤ y) ({ frames := 4, cells := 6, slots := 12, locals := 66 } : Room).cells ({ frames := 4, cells := 6, slots := 12, locals := 66 } : Room).slots)
  refine OGo.step (fun _ kk => XS.bipush X0.here hx rfl (hb hby own_d_method_2_code_14) kk) ?_
  show OGo p e below (s₁.setTop (mkF m 16 #[.val (.int p1), .val (.int (p1 &&& (3 : Int32))), .val (.int ((((p1.toUInt32 >>> ((2 : Int32) &&& 31).toUInt32).toInt32) &&& (255 : Int32)).toUInt32.toUInt16.toUInt32.toInt32)), .unset] [(.int (10 : Int32)), (.int p1)])) (OEndW s Z consts_1 (fun v h L => ∃ w, v = some w ∧ Fr n0 L ∧ Ext h0 h ∧ OSv Z h w (own_so p1) ∧ ∀ y, w = .ref y → h0.size ≤ y) ({ frames := 4, cells := 6, slots := 12, locals := 66 } : Room).cells ({ frames := 4, cells := 6, slots := 12, locals := 66 } : Room).slots)
  refine OGo.step (fun _ kk => XS.iushr X0.here hx rfl (hb hby own_d_method_2_code_16) rfl kk) ?_
  show OGo p e below (s₁.setTop (mkF m 17 #[.val (.int p1), .val (.int (p1 &&& (3 : Int32))), .val (.int ((((p1.toUInt32 >>> ((2 : Int32) &&& 31).toUInt32).toInt32) &&& (255 : Int32)).toUInt32.toUInt16.toUInt32.toInt32)), .unset] [(.int ((p1.toUInt32 >>> ((10 : Int32) &&& 31).toUInt32).toInt32))])) (OEndW s Z consts_1 (fun v h L => ∃ w, v = some w ∧ Fr n0 L ∧ Ext h0 h ∧ OSv Z h w (own_so p1) ∧ ∀ y, w = .ref y → h0.size ≤ y) ({ frames := 4, cells := 6, slots := 12, locals := 66 } : Room).cells ({ frames := 4, cells := 6, slots := 12, locals := 66 } : Room).slots)
  refine OGo.step (fun _ kk => XS.sipush X0.here hx rfl (hb hby own_d_method_2_code_17) kk) ?_
  show OGo p e below (s₁.setTop (mkF m 20 #[.val (.int p1), .val (.int (p1 &&& (3 : Int32))), .val (.int ((((p1.toUInt32 >>> ((2 : Int32) &&& 31).toUInt32).toInt32) &&& (255 : Int32)).toUInt32.toUInt16.toUInt32.toInt32)), .unset] [(.int (255 : Int32)), (.int ((p1.toUInt32 >>> ((10 : Int32) &&& 31).toUInt32).toInt32))])) (OEndW s Z consts_1 (fun v h L => ∃ w, v = some w ∧ Fr n0 L ∧ Ext h0 h ∧ OSv Z h w (own_so p1) ∧ ∀ y, w = .ref y → h0.size ≤ y) ({ frames := 4, cells := 6, slots := 12, locals := 66 } : Room).cells ({ frames := 4, cells := 6, slots := 12, locals := 66 } : Room).slots)
  refine OGo.step (fun _ kk => XS.iand X0.here hx rfl (hb hby own_d_method_2_code_20) rfl kk) ?_
  show OGo p e below (s₁.setTop (mkF m 21 #[.val (.int p1), .val (.int (p1 &&& (3 : Int32))), .val (.int ((((p1.toUInt32 >>> ((2 : Int32) &&& 31).toUInt32).toInt32) &&& (255 : Int32)).toUInt32.toUInt16.toUInt32.toInt32)), .unset] [(.int (((p1.toUInt32 >>> ((10 : Int32) &&& 31).toUInt32).toInt32) &&& (255 : Int32)))])) (OEndW s Z consts_1 (fun v h L => ∃ w, v = some w ∧ Fr n0 L ∧ Ext h0 h ∧ OSv Z h w (own_so p1) ∧ ∀ y, w = .ref y → h0.size ≤ y) ({ frames := 4, cells := 6, slots := 12, locals := 66 } : Room).cells ({ frames := 4, cells := 6, slots := 12, locals := 66 } : Room).slots)
  refine OGo.step (fun _ kk => XS.i2c X0.here hx rfl (hb hby own_d_method_2_code_21) rfl kk) ?_
  show OGo p e below (s₁.setTop (mkF m 22 #[.val (.int p1), .val (.int (p1 &&& (3 : Int32))), .val (.int ((((p1.toUInt32 >>> ((2 : Int32) &&& 31).toUInt32).toInt32) &&& (255 : Int32)).toUInt32.toUInt16.toUInt32.toInt32)), .unset] [(.int ((((p1.toUInt32 >>> ((10 : Int32) &&& 31).toUInt32).toInt32) &&& (255 : Int32)).toUInt32.toUInt16.toUInt32.toInt32))])) (OEndW s Z consts_1 (fun v h L => ∃ w, v = some w ∧ Fr n0 L ∧ Ext h0 h ∧ OSv Z h w (own_so p1) ∧ ∀ y, w = .ref y → h0.size ≤ y) ({ frames := 4, cells := 6, slots := 12, locals := 66 } : Room).cells ({ frames := 4, cells := 6, slots := 12, locals := 66 } : Room).slots)
  refine OGo.step (fun _ kk => XS.istoreN X0.here hx rfl (hb hby own_d_method_2_code_22) rfl (l' := #[.val (.int p1), .val (.int (p1 &&& (3 : Int32))), .val (.int ((((p1.toUInt32 >>> ((2 : Int32) &&& 31).toUInt32).toInt32) &&& (255 : Int32)).toUInt32.toUInt16.toUInt32.toInt32)), .val (.int ((((p1.toUInt32 >>> ((10 : Int32) &&& 31).toUInt32).toInt32) &&& (255 : Int32)).toUInt32.toUInt16.toUInt32.toInt32))]) rfl kk) ?_
  show OGo p e below (s₁.setTop (mkF m 23 #[.val (.int p1), .val (.int (p1 &&& (3 : Int32))), .val (.int ((((p1.toUInt32 >>> ((2 : Int32) &&& 31).toUInt32).toInt32) &&& (255 : Int32)).toUInt32.toUInt16.toUInt32.toInt32)), .val (.int ((((p1.toUInt32 >>> ((10 : Int32) &&& 31).toUInt32).toInt32) &&& (255 : Int32)).toUInt32.toUInt16.toUInt32.toInt32))] [])) (OEndW s Z consts_1 (fun v h L => ∃ w, v = some w ∧ Fr n0 L ∧ Ext h0 h ∧ OSv Z h w (own_so p1) ∧ ∀ y, w = .ref y → h0.size ≤ y) ({ frames := 4, cells := 6, slots := 12, locals := 66 } : Room).cells ({ frames := 4, cells := 6, slots := 12, locals := 66 } : Room).slots)
  refine OGo.step (fun _ kk => XS.iloadN X0.here hx rfl (hb hby own_d_method_2_code_23) rfl kk) ?_
  show OGo p e below (s₁.setTop (mkF m 24 #[.val (.int p1), .val (.int (p1 &&& (3 : Int32))), .val (.int ((((p1.toUInt32 >>> ((2 : Int32) &&& 31).toUInt32).toInt32) &&& (255 : Int32)).toUInt32.toUInt16.toUInt32.toInt32)), .val (.int ((((p1.toUInt32 >>> ((10 : Int32) &&& 31).toUInt32).toInt32) &&& (255 : Int32)).toUInt32.toUInt16.toUInt32.toInt32))] [(.int (p1 &&& (3 : Int32)))])) (OEndW s Z consts_1 (fun v h L => ∃ w, v = some w ∧ Fr n0 L ∧ Ext h0 h ∧ OSv Z h w (own_so p1) ∧ ∀ y, w = .ref y → h0.size ≤ y) ({ frames := 4, cells := 6, slots := 12, locals := 66 } : Room).cells ({ frames := 4, cells := 6, slots := 12, locals := 66 } : Room).slots)
  by_cases hs0 : (p1 &&& (3 : Int32)) = (0 : Int32)
  · refine OGo.step (fun _ kk => XS.ifNo X0.here hx rfl (hb hby own_d_method_2_code_24) rfl ((if0 _ _).trans (teq hs0).2) kk) ?_
    show OGo p e below (s₁.setTop (mkF m 27 #[.val (.int p1), .val (.int (p1 &&& (3 : Int32))), .val (.int ((((p1.toUInt32 >>> ((2 : Int32) &&& 31).toUInt32).toInt32) &&& (255 : Int32)).toUInt32.toUInt16.toUInt32.toInt32)), .val (.int ((((p1.toUInt32 >>> ((10 : Int32) &&& 31).toUInt32).toInt32) &&& (255 : Int32)).toUInt32.toUInt16.toUInt32.toInt32))] [])) (OEndW s Z consts_1 (fun v h L => ∃ w, v = some w ∧ Fr n0 L ∧ Ext h0 h ∧ OSv Z h w (own_so p1) ∧ ∀ y, w = .ref y → h0.size ≤ y) ({ frames := 4, cells := 6, slots := 12, locals := 66 } : Room).cells ({ frames := 4, cells := 6, slots := 12, locals := 66 } : Room).slots)
    refine OGo.step (fun _ kk => XS.aconstNull X0.here hx rfl (hb hby own_d_method_2_code_27) kk) ?_
    show OGo p e below (s₁.setTop (mkF m 28 #[.val (.int p1), .val (.int (p1 &&& (3 : Int32))), .val (.int ((((p1.toUInt32 >>> ((2 : Int32) &&& 31).toUInt32).toInt32) &&& (255 : Int32)).toUInt32.toUInt16.toUInt32.toInt32)), .val (.int ((((p1.toUInt32 >>> ((10 : Int32) &&& 31).toUInt32).toInt32) &&& (255 : Int32)).toUInt32.toUInt16.toUInt32.toInt32))] [.null])) (OEndW s Z consts_1 (fun v h L => ∃ w, v = some w ∧ Fr n0 L ∧ Ext h0 h ∧ OSv Z h w (own_so p1) ∧ ∀ y, w = .ref y → h0.size ≤ y) ({ frames := 4, cells := 6, slots := 12, locals := 66 } : Room).cells ({ frames := 4, cells := 6, slots := 12, locals := 66 } : Room).slots)
    exact own_retW X0 hx hlk hEL OW0 e0 hret rfl (Or.inr (Or.inr (Or.inr (Or.inr ⟨rfl, rfl, rfl⟩)))) (hb hby own_d_method_2_code_28) (by rw [e0]; exact ⟨_, rfl, (Fr.nil n0), own_ext_refl _, Or.inl ⟨rfl, by rw [own_so, if_pos hs0]⟩, fun y q => by cases q⟩) (by decide) (by decide)
  · refine OGo.step (fun _ kk => XS.ifYes X0.here hx rfl (pc0 := 24) (pc' := 29) rfl (hb hby own_d_method_2_code_24) rfl ((if0 _ _).trans (feq hs0).2) (by decide) (by decide) kk) ?_
    show OGo p e below (s₁.setTop (mkF m 29 #[.val (.int p1), .val (.int (p1 &&& (3 : Int32))), .val (.int ((((p1.toUInt32 >>> ((2 : Int32) &&& 31).toUInt32).toInt32) &&& (255 : Int32)).toUInt32.toUInt16.toUInt32.toInt32)), .val (.int ((((p1.toUInt32 >>> ((10 : Int32) &&& 31).toUInt32).toInt32) &&& (255 : Int32)).toUInt32.toUInt16.toUInt32.toInt32))] [])) (OEndW s Z consts_1 (fun v h L => ∃ w, v = some w ∧ Fr n0 L ∧ Ext h0 h ∧ OSv Z h w (own_so p1) ∧ ∀ y, w = .ref y → h0.size ≤ y) ({ frames := 4, cells := 6, slots := 12, locals := 66 } : Room).cells ({ frames := 4, cells := 6, slots := 12, locals := 66 } : Room).slots)
    refine OGo.step (fun _ kk => XS.iloadN X0.here hx rfl (hb hby own_d_method_2_code_29) rfl kk) ?_
    show OGo p e below (s₁.setTop (mkF m 30 #[.val (.int p1), .val (.int (p1 &&& (3 : Int32))), .val (.int ((((p1.toUInt32 >>> ((2 : Int32) &&& 31).toUInt32).toInt32) &&& (255 : Int32)).toUInt32.toUInt16.toUInt32.toInt32)), .val (.int ((((p1.toUInt32 >>> ((10 : Int32) &&& 31).toUInt32).toInt32) &&& (255 : Int32)).toUInt32.toUInt16.toUInt32.toInt32))] [(.int (p1 &&& (3 : Int32)))])) (OEndW s Z consts_1 (fun v h L => ∃ w, v = some w ∧ Fr n0 L ∧ Ext h0 h ∧ OSv Z h w (own_so p1) ∧ ∀ y, w = .ref y → h0.size ≤ y) ({ frames := 4, cells := 6, slots := 12, locals := 66 } : Room).cells ({ frames := 4, cells := 6, slots := 12, locals := 66 } : Room).slots)
    refine OGo.step (fun _ kk => XS.iconst X0.here hx rfl (hb hby own_d_method_2_code_30) kk) ?_
    show OGo p e below (s₁.setTop (mkF m 31 #[.val (.int p1), .val (.int (p1 &&& (3 : Int32))), .val (.int ((((p1.toUInt32 >>> ((2 : Int32) &&& 31).toUInt32).toInt32) &&& (255 : Int32)).toUInt32.toUInt16.toUInt32.toInt32)), .val (.int ((((p1.toUInt32 >>> ((10 : Int32) &&& 31).toUInt32).toInt32) &&& (255 : Int32)).toUInt32.toUInt16.toUInt32.toInt32))] [(.int (1 : Int32)), (.int (p1 &&& (3 : Int32)))])) (OEndW s Z consts_1 (fun v h L => ∃ w, v = some w ∧ Fr n0 L ∧ Ext h0 h ∧ OSv Z h w (own_so p1) ∧ ∀ y, w = .ref y → h0.size ≤ y) ({ frames := 4, cells := 6, slots := 12, locals := 66 } : Room).cells ({ frames := 4, cells := 6, slots := 12, locals := 66 } : Room).slots)
    by_cases hs1 : (p1 &&& (3 : Int32)) = (1 : Int32)
    · refine OGo.step (fun _ kk => XS.icmpNo X0.here hx rfl (hb hby own_d_method_2_code_31) rfl (teq hs1).2 kk) ?_
      show OGo p e below (s₁.setTop (mkF m 34 #[.val (.int p1), .val (.int (p1 &&& (3 : Int32))), .val (.int ((((p1.toUInt32 >>> ((2 : Int32) &&& 31).toUInt32).toInt32) &&& (255 : Int32)).toUInt32.toUInt16.toUInt32.toInt32)), .val (.int ((((p1.toUInt32 >>> ((10 : Int32) &&& 31).toUInt32).toInt32) &&& (255 : Int32)).toUInt32.toUInt16.toUInt32.toInt32))] [])) (OEndW s Z consts_1 (fun v h L => ∃ w, v = some w ∧ Fr n0 L ∧ Ext h0 h ∧ OSv Z h w (own_so p1) ∧ ∀ y, w = .ref y → h0.size ≤ y) ({ frames := 4, cells := 6, slots := 12, locals := 66 } : Room).cells ({ frames := 4, cells := 6, slots := 12, locals := 66 } : Room).slots)
      obtain ⟨T1, h1, X1, e1, E1, A1, D1, U1, st1⟩ := newO X0 hx hZ hown (hw _ (List.mem_of_getElem? (i := 4) rfl)) (hw _ (List.mem_of_getElem? (i := 5) rfl)) (hw _ (List.mem_of_getElem? (i := 6) rfl)) e0 (g := (mkF m 34 #[.val (.int p1), .val (.int (p1 &&& (3 : Int32))), .val (.int ((((p1.toUInt32 >>> ((2 : Int32) &&& 31).toUInt32).toInt32) &&& (255 : Int32)).toUInt32.toUInt16.toUInt32.toInt32)), .val (.int ((((p1.toUInt32 >>> ((10 : Int32) &&& 31).toUInt32).toInt32) &&& (255 : Int32)).toUInt32.toUInt16.toUInt32.toInt32))] [])) rfl (hb hby own_d_method_2_code_34) (by decide) (by decide)
      obtain ⟨x0, g1⟩ : ∃ z, z = h0.size := ⟨_, rfl⟩
      rw [← g1] at A1 D1 U1 st1
      refine OGo.step st1 ?_
      show OGo p e below (T1.setTop (mkF m 37 #[.val (.int p1), .val (.int (p1 &&& (3 : Int32))), .val (.int ((((p1.toUInt32 >>> ((2 : Int32) &&& 31).toUInt32).toInt32) &&& (255 : Int32)).toUInt32.toUInt16.toUInt32.toInt32)), .val (.int ((((p1.toUInt32 >>> ((10 : Int32) &&& 31).toUInt32).toInt32) &&& (255 : Int32)).toUInt32.toUInt16.toUInt32.toInt32))] [(.ref x0)])) (OEndW s Z consts_1 (fun v h L => ∃ w, v = some w ∧ Fr n0 L ∧ Ext h0 h ∧ OSv Z h w (own_so p1) ∧ ∀ y, w = .ref y → h0.size ≤ y) ({ frames := 4, cells := 6, slots := 12, locals := 66 } : Room).cells ({ frames := 4, cells := 6, slots := 12, locals := 66 } : Room).slots)
      have gf_x0 : n0 ≤ x0 := Nat.le_trans Z0 (Nat.le_of_eq g1.symm)
      have sz1 : n0 ≤ h1.size := Nat.le_trans Z0 E1.1
      have OW2 := OW0.ext E1
      have F1_coder : Fld Z h1 x0 "java/lang/String" "coder" "B" (.int (0 : Int32)) := D1 (Or.inr (hw _ (List.mem_of_getElem? (i := 31) rfl))) (ty := .byte) (by decide)
      have F1_value : Fld Z h1 x0 "java/lang/String" "value" "[B" .null := D1 (Or.inr (hw _ (List.mem_of_getElem? (i := 33) rfl))) (ty := (.array .byte)) (by decide)
      have sf3 := own_safe_null (EL := consts_1) OW2.2.1.alike A1 F1_value
      refine OGo.step (fun _ kk => XS.dup X1.here hx rfl (hb hby own_d_method_2_code_37) rfl rfl kk) ?_
      show OGo p e below (T1.setTop (mkF m 38 #[.val (.int p1), .val (.int (p1 &&& (3 : Int32))), .val (.int ((((p1.toUInt32 >>> ((2 : Int32) &&& 31).toUInt32).toInt32) &&& (255 : Int32)).toUInt32.toUInt16.toUInt32.toInt32)), .val (.int ((((p1.toUInt32 >>> ((10 : Int32) &&& 31).toUInt32).toInt32) &&& (255 : Int32)).toUInt32.toUInt16.toUInt32.toInt32))] [(.ref x0), (.ref x0)])) (OEndW s Z consts_1 (fun v h L => ∃ w, v = some w ∧ Fr n0 L ∧ Ext h0 h ∧ OSv Z h w (own_so p1) ∧ ∀ y, w = .ref y → h0.size ≤ y) ({ frames := 4, cells := 6, slots := 12, locals := 66 } : Room).cells ({ frames := 4, cells := 6, slots := 12, locals := 66 } : Room).slots)
      refine OGo.step (fun _ kk => XS.iconst X1.here hx rfl (hb hby own_d_method_2_code_38) kk) ?_
      show OGo p e below (T1.setTop (mkF m 39 #[.val (.int p1), .val (.int (p1 &&& (3 : Int32))), .val (.int ((((p1.toUInt32 >>> ((2 : Int32) &&& 31).toUInt32).toInt32) &&& (255 : Int32)).toUInt32.toUInt16.toUInt32.toInt32)), .val (.int ((((p1.toUInt32 >>> ((10 : Int32) &&& 31).toUInt32).toInt32) &&& (255 : Int32)).toUInt32.toUInt16.toUInt32.toInt32))] [(.int (0 : Int32)), (.ref x0), (.ref x0)])) (OEndW s Z consts_1 (fun v h L => ∃ w, v = some w ∧ Fr n0 L ∧ Ext h0 h ∧ OSv Z h w (own_so p1) ∧ ∀ y, w = .ref y → h0.size ≤ y) ({ frames := 4, cells := 6, slots := 12, locals := 66 } : Room).cells ({ frames := 4, cells := 6, slots := 12, locals := 66 } : Room).slots)
      obtain ⟨T4, h4, k4, X4, e4, E4, A4, st4⟩ := newP X1 hx hZ (hw _ (List.mem_of_getElem? (i := 7) rfl)) e1 (g := (mkF m 39 #[.val (.int p1), .val (.int (p1 &&& (3 : Int32))), .val (.int ((((p1.toUInt32 >>> ((2 : Int32) &&& 31).toUInt32).toInt32) &&& (255 : Int32)).toUInt32.toUInt16.toUInt32.toInt32)), .val (.int ((((p1.toUInt32 >>> ((10 : Int32) &&& 31).toUInt32).toInt32) &&& (255 : Int32)).toUInt32.toUInt16.toUInt32.toInt32))] [(.int (0 : Int32)), (.ref x0), (.ref x0)])) rfl (hb hby own_d_method_2_code_39) rfl (by decide) (cap := 0) (by decide) (by decide) (by decide) (by decide)
      obtain ⟨b0, g4⟩ : ∃ z, z = h1.size := ⟨_, rfl⟩
      rw [← g4] at A4 st4
      refine OGo.step st4 ?_
      show OGo p e below (T4.setTop (mkF m 41 #[.val (.int p1), .val (.int (p1 &&& (3 : Int32))), .val (.int ((((p1.toUInt32 >>> ((2 : Int32) &&& 31).toUInt32).toInt32) &&& (255 : Int32)).toUInt32.toUInt16.toUInt32.toInt32)), .val (.int ((((p1.toUInt32 >>> ((10 : Int32) &&& 31).toUInt32).toInt32) &&& (255 : Int32)).toUInt32.toUInt16.toUInt32.toInt32))] [(.ref b0), (.ref x0), (.ref x0)])) (OEndW s Z consts_1 (fun v h L => ∃ w, v = some w ∧ Fr n0 L ∧ Ext h0 h ∧ OSv Z h w (own_so p1) ∧ ∀ y, w = .ref y → h0.size ≤ y) ({ frames := 4, cells := 6, slots := 12, locals := 66 } : Room).cells ({ frames := 4, cells := 6, slots := 12, locals := 66 } : Room).slots)
      have ne_x0_b0 : x0 ≠ b0 := Nat.ne_of_lt (Nat.lt_of_lt_of_le A1.lt (Nat.le_of_eq g4.symm))
      have gf_b0 : n0 ≤ b0 := Nat.le_trans sz1 (Nat.le_of_eq g4.symm)
      have sz4 : n0 ≤ h4.size := Nat.le_trans sz1 E4.1
      have sf5 := Safe.ext E4 OW2.chv sf3
      have OW6 := OW2.ext E4
      have Va7 : Arv Z h4 b0 k4 .char (0 : Int32) [] (.int (0 : Int32)) := (Arv.new A4 (by decide)).pad (pad_rep [] (.int (0 : Int32)) 0)
      have fc8 := (A1.ext E4)
      have fc9 := (F1_value.ext E4)
      have fc10 := (F1_coder.ext E4)
      refine own_specialW X4 hx hZ (y := (⟨"java/lang/String", "<init>", "([C)V"⟩ : MethodName)) rfl hown (hw _ (List.mem_of_getElem? (i := 8) rfl)) (hw _ (List.mem_of_getElem? (i := 9) rfl)) (hw _ (List.mem_of_getElem? (i := 10) rfl)) (hw _ (List.mem_of_getElem? (i := 6) rfl)) (by decide) hEL OW6 (a := x0) (W := 1) (own_new1E l Z a0 hw [] x0 b0 _ h4 n0 sz4 fc8 fc9 fc10 gf_x0 Va7) e4  (pc := 41) (Ls := #[.val (.int p1), .val (.int (p1 &&& (3 : Int32))), .val (.int ((((p1.toUInt32 >>> ((2 : Int32) &&& 31).toUInt32).toInt32) &&& (255 : Int32)).toUInt32.toUInt16.toUInt32.toInt32)), .val (.int ((((p1.toUInt32 >>> ((10 : Int32) &&& 31).toUInt32).toInt32) &&& (255 : Int32)).toUInt32.toUInt16.toUInt32.toInt32))]) (argsL := [(.ref b0)]) (rest := [(.ref x0)]) (by rw [hml]; rfl) (lenOf own_pd0 rfl) rfl (hb hby own_d_method_2_code_41) (by decide) (by decide) (by decide) (by decide) ?_
      intro v11 T11 L11 X11 hQ11 OW11 hZ hown CH11
      obtain ⟨rfl, N11, K11, O11⟩ := hQ11
      have sf12 := CH11.safe (fc8).lt sf5
      show OGo p e below (T11.setTop (mkF m 44 #[.val (.int p1), .val (.int (p1 &&& (3 : Int32))), .val (.int ((((p1.toUInt32 >>> ((2 : Int32) &&& 31).toUInt32).toInt32) &&& (255 : Int32)).toUInt32.toUInt16.toUInt32.toInt32)), .val (.int ((((p1.toUInt32 >>> ((10 : Int32) &&& 31).toUInt32).toInt32) &&& (255 : Int32)).toUInt32.toUInt16.toUInt32.toInt32))] [(.ref x0)])) (OEndW s Z consts_1 (fun v h L => ∃ w, v = some w ∧ Fr n0 L ∧ Ext h0 h ∧ OSv Z h w (own_so p1) ∧ ∀ y, w = .ref y → h0.size ≤ y) ({ frames := 4, cells := 6, slots := 12, locals := 66 } : Room).cells ({ frames := 4, cells := 6, slots := 12, locals := 66 } : Room).slots)
      have Nc11 := Fr.app (Fr.nil n0) N11
      have sz11 : n0 ≤ T11.heap.size := Nat.le_trans sz4 K11.1
      have xt13 := (own_ext_trans E1 E4)
      have xt14 := (own_ext_keep xt13 K11 (allS (Nat.le_of_eq g1.symm) all0))
      exact own_retW X11 hx hlk hEL OW11 rfl hret rfl (Or.inr (Or.inr (Or.inr (Or.inr ⟨rfl, rfl, rfl⟩)))) (hb hby own_d_method_2_code_44) ⟨_, rfl, Nc11, xt14, Or.inr ⟨x0, _, rfl, by rw [own_so, if_neg hs0, if_pos hs1], O11⟩, fun y q => by cases q; exact (Nat.le_of_eq g1.symm)⟩ (by decide) (by decide)
    · refine OGo.step (fun _ kk => XS.icmpYes X0.here hx rfl (pc0 := 31) (pc' := 45) rfl (hb hby own_d_method_2_code_31) rfl (feq hs1).2 (by decide) (by decide) kk) ?_
      show OGo p e below (s₁.setTop (mkF m 45 #[.val (.int p1), .val (.int (p1 &&& (3 : Int32))), .val (.int ((((p1.toUInt32 >>> ((2 : Int32) &&& 31).toUInt32).toInt32) &&& (255 : Int32)).toUInt32.toUInt16.toUInt32.toInt32)), .val (.int ((((p1.toUInt32 >>> ((10 : Int32) &&& 31).toUInt32).toInt32) &&& (255 : Int32)).toUInt32.toUInt16.toUInt32.toInt32))] [])) (OEndW s Z consts_1 (fun v h L => ∃ w, v = some w ∧ Fr n0 L ∧ Ext h0 h ∧ OSv Z h w (own_so p1) ∧ ∀ y, w = .ref y → h0.size ≤ y) ({ frames := 4, cells := 6, slots := 12, locals := 66 } : Room).cells ({ frames := 4, cells := 6, slots := 12, locals := 66 } : Room).slots)
      refine OGo.step (fun _ kk => XS.iloadN X0.here hx rfl (hb hby own_d_method_2_code_45) rfl kk) ?_
      show OGo p e below (s₁.setTop (mkF m 46 #[.val (.int p1), .val (.int (p1 &&& (3 : Int32))), .val (.int ((((p1.toUInt32 >>> ((2 : Int32) &&& 31).toUInt32).toInt32) &&& (255 : Int32)).toUInt32.toUInt16.toUInt32.toInt32)), .val (.int ((((p1.toUInt32 >>> ((10 : Int32) &&& 31).toUInt32).toInt32) &&& (255 : Int32)).toUInt32.toUInt16.toUInt32.toInt32))] [(.int (p1 &&& (3 : Int32)))])) (OEndW s Z consts_1 (fun v h L => ∃ w, v = some w ∧ Fr n0 L ∧ Ext h0 h ∧ OSv Z h w (own_so p1) ∧ ∀ y, w = .ref y → h0.size ≤ y) ({ frames := 4, cells := 6, slots := 12, locals := 66 } : Room).cells ({ frames := 4, cells := 6, slots := 12, locals := 66 } : Room).slots)
      refine OGo.step (fun _ kk => XS.iconst X0.here hx rfl (hb hby own_d_method_2_code_46) kk) ?_
      show OGo p e below (s₁.setTop (mkF m 47 #[.val (.int p1), .val (.int (p1 &&& (3 : Int32))), .val (.int ((((p1.toUInt32 >>> ((2 : Int32) &&& 31).toUInt32).toInt32) &&& (255 : Int32)).toUInt32.toUInt16.toUInt32.toInt32)), .val (.int ((((p1.toUInt32 >>> ((10 : Int32) &&& 31).toUInt32).toInt32) &&& (255 : Int32)).toUInt32.toUInt16.toUInt32.toInt32))] [(.int (2 : Int32)), (.int (p1 &&& (3 : Int32)))])) (OEndW s Z consts_1 (fun v h L => ∃ w, v = some w ∧ Fr n0 L ∧ Ext h0 h ∧ OSv Z h w (own_so p1) ∧ ∀ y, w = .ref y → h0.size ≤ y) ({ frames := 4, cells := 6, slots := 12, locals := 66 } : Room).cells ({ frames := 4, cells := 6, slots := 12, locals := 66 } : Room).slots)
      by_cases hs2 : (p1 &&& (3 : Int32)) = (2 : Int32)
      · refine OGo.step (fun _ kk => XS.icmpNo X0.here hx rfl (hb hby own_d_method_2_code_47) rfl (teq hs2).2 kk) ?_
        show OGo p e below (s₁.setTop (mkF m 50 #[.val (.int p1), .val (.int (p1 &&& (3 : Int32))), .val (.int ((((p1.toUInt32 >>> ((2 : Int32) &&& 31).toUInt32).toInt32) &&& (255 : Int32)).toUInt32.toUInt16.toUInt32.toInt32)), .val (.int ((((p1.toUInt32 >>> ((10 : Int32) &&& 31).toUInt32).toInt32) &&& (255 : Int32)).toUInt32.toUInt16.toUInt32.toInt32))] [])) (OEndW s Z consts_1 (fun v h L => ∃ w, v = some w ∧ Fr n0 L ∧ Ext h0 h ∧ OSv Z h w (own_so p1) ∧ ∀ y, w = .ref y → h0.size ≤ y) ({ frames := 4, cells := 6, slots := 12, locals := 66 } : Room).cells ({ frames := 4, cells := 6, slots := 12, locals := 66 } : Room).slots)
        obtain ⟨T15, h15, X15, e15, E15, A15, D15, U15, st15⟩ := newO X0 hx hZ hown (hw _ (List.mem_of_getElem? (i := 4) rfl)) (hw _ (List.mem_of_getElem? (i := 5) rfl)) (hw _ (List.mem_of_getElem? (i := 6) rfl)) e0 (g := (mkF m 50 #[.val (.int p1), .val (.int (p1 &&& (3 : Int32))), .val (.int ((((p1.toUInt32 >>> ((2 : Int32) &&& 31).toUInt32).toInt32) &&& (255 : Int32)).toUInt32.toUInt16.toUInt32.toInt32)), .val (.int ((((p1.toUInt32 >>> ((10 : Int32) &&& 31).toUInt32).toInt32) &&& (255 : Int32)).toUInt32.toUInt16.toUInt32.toInt32))] [])) rfl (hb hby own_d_method_2_code_50) (by decide) (by decide)
        obtain ⟨x0, g15⟩ : ∃ z, z = h0.size := ⟨_, rfl⟩
        rw [← g15] at A15 D15 U15 st15
        refine OGo.step st15 ?_
        show OGo p e below (T15.setTop (mkF m 53 #[.val (.int p1), .val (.int (p1 &&& (3 : Int32))), .val (.int ((((p1.toUInt32 >>> ((2 : Int32) &&& 31).toUInt32).toInt32) &&& (255 : Int32)).toUInt32.toUInt16.toUInt32.toInt32)), .val (.int ((((p1.toUInt32 >>> ((10 : Int32) &&& 31).toUInt32).toInt32) &&& (255 : Int32)).toUInt32.toUInt16.toUInt32.toInt32))] [(.ref x0)])) (OEndW s Z consts_1 (fun v h L => ∃ w, v = some w ∧ Fr n0 L ∧ Ext h0 h ∧ OSv Z h w (own_so p1) ∧ ∀ y, w = .ref y → h0.size ≤ y) ({ frames := 4, cells := 6, slots := 12, locals := 66 } : Room).cells ({ frames := 4, cells := 6, slots := 12, locals := 66 } : Room).slots)
        have gf_x0 : n0 ≤ x0 := Nat.le_trans Z0 (Nat.le_of_eq g15.symm)
        have sz15 : n0 ≤ h15.size := Nat.le_trans Z0 E15.1
        have OW16 := OW0.ext E15
        have F15_coder : Fld Z h15 x0 "java/lang/String" "coder" "B" (.int (0 : Int32)) := D15 (Or.inr (hw _ (List.mem_of_getElem? (i := 31) rfl))) (ty := .byte) (by decide)
        have F15_value : Fld Z h15 x0 "java/lang/String" "value" "[B" .null := D15 (Or.inr (hw _ (List.mem_of_getElem? (i := 33) rfl))) (ty := (.array .byte)) (by decide)
        have sf17 := own_safe_null (EL := consts_1) OW16.2.1.alike A15 F15_value
        refine OGo.step (fun _ kk => XS.dup X15.here hx rfl (hb hby own_d_method_2_code_53) rfl rfl kk) ?_
        show OGo p e below (T15.setTop (mkF m 54 #[.val (.int p1), .val (.int (p1 &&& (3 : Int32))), .val (.int ((((p1.toUInt32 >>> ((2 : Int32) &&& 31).toUInt32).toInt32) &&& (255 : Int32)).toUInt32.toUInt16.toUInt32.toInt32)), .val (.int ((((p1.toUInt32 >>> ((10 : Int32) &&& 31).toUInt32).toInt32) &&& (255 : Int32)).toUInt32.toUInt16.toUInt32.toInt32))] [(.ref x0), (.ref x0)])) (OEndW s Z consts_1 (fun v h L => ∃ w, v = some w ∧ Fr n0 L ∧ Ext h0 h ∧ OSv Z h w (own_so p1) ∧ ∀ y, w = .ref y → h0.size ≤ y) ({ frames := 4, cells := 6, slots := 12, locals := 66 } : Room).cells ({ frames := 4, cells := 6, slots := 12, locals := 66 } : Room).slots)
        refine OGo.step (fun _ kk => XS.iconst X15.here hx rfl (hb hby own_d_method_2_code_54) kk) ?_
        show OGo p e below (T15.setTop (mkF m 55 #[.val (.int p1), .val (.int (p1 &&& (3 : Int32))), .val (.int ((((p1.toUInt32 >>> ((2 : Int32) &&& 31).toUInt32).toInt32) &&& (255 : Int32)).toUInt32.toUInt16.toUInt32.toInt32)), .val (.int ((((p1.toUInt32 >>> ((10 : Int32) &&& 31).toUInt32).toInt32) &&& (255 : Int32)).toUInt32.toUInt16.toUInt32.toInt32))] [(.int (1 : Int32)), (.ref x0), (.ref x0)])) (OEndW s Z consts_1 (fun v h L => ∃ w, v = some w ∧ Fr n0 L ∧ Ext h0 h ∧ OSv Z h w (own_so p1) ∧ ∀ y, w = .ref y → h0.size ≤ y) ({ frames := 4, cells := 6, slots := 12, locals := 66 } : Room).cells ({ frames := 4, cells := 6, slots := 12, locals := 66 } : Room).slots)
        obtain ⟨T18, h18, k18, X18, e18, E18, A18, st18⟩ := newP X15 hx hZ (hw _ (List.mem_of_getElem? (i := 7) rfl)) e15 (g := (mkF m 55 #[.val (.int p1), .val (.int (p1 &&& (3 : Int32))), .val (.int ((((p1.toUInt32 >>> ((2 : Int32) &&& 31).toUInt32).toInt32) &&& (255 : Int32)).toUInt32.toUInt16.toUInt32.toInt32)), .val (.int ((((p1.toUInt32 >>> ((10 : Int32) &&& 31).toUInt32).toInt32) &&& (255 : Int32)).toUInt32.toUInt16.toUInt32.toInt32))] [(.int (1 : Int32)), (.ref x0), (.ref x0)])) rfl (hb hby own_d_method_2_code_55) rfl (by decide) (cap := 1) (by decide) (by decide) (by decide) (by decide)
        obtain ⟨b0, g18⟩ : ∃ z, z = h15.size := ⟨_, rfl⟩
        rw [← g18] at A18 st18
        refine OGo.step st18 ?_
        show OGo p e below (T18.setTop (mkF m 57 #[.val (.int p1), .val (.int (p1 &&& (3 : Int32))), .val (.int ((((p1.toUInt32 >>> ((2 : Int32) &&& 31).toUInt32).toInt32) &&& (255 : Int32)).toUInt32.toUInt16.toUInt32.toInt32)), .val (.int ((((p1.toUInt32 >>> ((10 : Int32) &&& 31).toUInt32).toInt32) &&& (255 : Int32)).toUInt32.toUInt16.toUInt32.toInt32))] [(.ref b0), (.ref x0), (.ref x0)])) (OEndW s Z consts_1 (fun v h L => ∃ w, v = some w ∧ Fr n0 L ∧ Ext h0 h ∧ OSv Z h w (own_so p1) ∧ ∀ y, w = .ref y → h0.size ≤ y) ({ frames := 4, cells := 6, slots := 12, locals := 66 } : Room).cells ({ frames := 4, cells := 6, slots := 12, locals := 66 } : Room).slots)
        have ne_x0_b0 : x0 ≠ b0 := Nat.ne_of_lt (Nat.lt_of_lt_of_le A15.lt (Nat.le_of_eq g18.symm))
        have gf_b0 : n0 ≤ b0 := Nat.le_trans sz15 (Nat.le_of_eq g18.symm)
        have sz18 : n0 ≤ h18.size := Nat.le_trans sz15 E18.1
        have sf19 := Safe.ext E18 OW16.chv sf17
        have OW20 := OW16.ext E18
        have Va21 : Arv Z h18 b0 k18 .char (1 : Int32) [(.int (0 : Int32))] (.int (0 : Int32)) := (Arv.new A18 (by decide)).pad (pad_rep [] (.int (0 : Int32)) 1)
        refine OGo.step (fun _ kk => XS.dup X18.here hx rfl (hb hby own_d_method_2_code_57) rfl rfl kk) ?_
        show OGo p e below (T18.setTop (mkF m 58 #[.val (.int p1), .val (.int (p1 &&& (3 : Int32))), .val (.int ((((p1.toUInt32 >>> ((2 : Int32) &&& 31).toUInt32).toInt32) &&& (255 : Int32)).toUInt32.toUInt16.toUInt32.toInt32)), .val (.int ((((p1.toUInt32 >>> ((10 : Int32) &&& 31).toUInt32).toInt32) &&& (255 : Int32)).toUInt32.toUInt16.toUInt32.toInt32))] [(.ref b0), (.ref b0), (.ref x0), (.ref x0)])) (OEndW s Z consts_1 (fun v h L => ∃ w, v = some w ∧ Fr n0 L ∧ Ext h0 h ∧ OSv Z h w (own_so p1) ∧ ∀ y, w = .ref y → h0.size ≤ y) ({ frames := 4, cells := 6, slots := 12, locals := 66 } : Room).cells ({ frames := 4, cells := 6, slots := 12, locals := 66 } : Room).slots)
        refine OGo.step (fun _ kk => XS.iconst X18.here hx rfl (hb hby own_d_method_2_code_58) kk) ?_
        show OGo p e below (T18.setTop (mkF m 59 #[.val (.int p1), .val (.int (p1 &&& (3 : Int32))), .val (.int ((((p1.toUInt32 >>> ((2 : Int32) &&& 31).toUInt32).toInt32) &&& (255 : Int32)).toUInt32.toUInt16.toUInt32.toInt32)), .val (.int ((((p1.toUInt32 >>> ((10 : Int32) &&& 31).toUInt32).toInt32) &&& (255 : Int32)).toUInt32.toUInt16.toUInt32.toInt32))] [(.int (0 : Int32)), (.ref b0), (.ref b0), (.ref x0), (.ref x0)])) (OEndW s Z consts_1 (fun v h L => ∃ w, v = some w ∧ Fr n0 L ∧ Ext h0 h ∧ OSv Z h w (own_so p1) ∧ ∀ y, w = .ref y → h0.size ≤ y) ({ frames := 4, cells := 6, slots := 12, locals := 66 } : Room).cells ({ frames := 4, cells := 6, slots := 12, locals := 66 } : Room).slots)
        refine OGo.step (fun _ kk => XS.iloadN X18.here hx rfl (hb hby own_d_method_2_code_59) rfl kk) ?_
        show OGo p e below (T18.setTop (mkF m 60 #[.val (.int p1), .val (.int (p1 &&& (3 : Int32))), .val (.int ((((p1.toUInt32 >>> ((2 : Int32) &&& 31).toUInt32).toInt32) &&& (255 : Int32)).toUInt32.toUInt16.toUInt32.toInt32)), .val (.int ((((p1.toUInt32 >>> ((10 : Int32) &&& 31).toUInt32).toInt32) &&& (255 : Int32)).toUInt32.toUInt16.toUInt32.toInt32))] [(.int ((((p1.toUInt32 >>> ((2 : Int32) &&& 31).toUInt32).toInt32) &&& (255 : Int32)).toUInt32.toUInt16.toUInt32.toInt32)), (.int (0 : Int32)), (.ref b0), (.ref b0), (.ref x0), (.ref x0)])) (OEndW s Z consts_1 (fun v h L => ∃ w, v = some w ∧ Fr n0 L ∧ Ext h0 h ∧ OSv Z h w (own_so p1) ∧ ∀ y, w = .ref y → h0.size ≤ y) ({ frames := 4, cells := 6, slots := 12, locals := 66 } : Room).cells ({ frames := 4, cells := 6, slots := 12, locals := 66 } : Room).slots)
        obtain ⟨cA22, A22, q22, S22, M22, H22, G22⟩ := Va21
        obtain ⟨T23, h23, X23, e23, W23, st23⟩ := stC X18 hx hZ e18 A22 (j := (0 : Int32)) (inb_of S22 ⟨by decide, by decide⟩) (g := (mkF m 60 #[.val (.int p1), .val (.int (p1 &&& (3 : Int32))), .val (.int ((((p1.toUInt32 >>> ((2 : Int32) &&& 31).toUInt32).toInt32) &&& (255 : Int32)).toUInt32.toUInt16.toUInt32.toInt32)), .val (.int ((((p1.toUInt32 >>> ((10 : Int32) &&& 31).toUInt32).toInt32) &&& (255 : Int32)).toUInt32.toUInt16.toUInt32.toInt32))] [(.int ((((p1.toUInt32 >>> ((2 : Int32) &&& 31).toUInt32).toInt32) &&& (255 : Int32)).toUInt32.toUInt16.toUInt32.toInt32)), (.int (0 : Int32)), (.ref b0), (.ref b0), (.ref x0), (.ref x0)])) rfl rfl (hb hby own_d_method_2_code_60)
        refine OGo.step st23 ?_
        show OGo p e below (T23.setTop (mkF m 61 #[.val (.int p1), .val (.int (p1 &&& (3 : Int32))), .val (.int ((((p1.toUInt32 >>> ((2 : Int32) &&& 31).toUInt32).toInt32) &&& (255 : Int32)).toUInt32.toUInt16.toUInt32.toInt32)), .val (.int ((((p1.toUInt32 >>> ((10 : Int32) &&& 31).toUInt32).toInt32) &&& (255 : Int32)).toUInt32.toUInt16.toUInt32.toInt32))] [(.ref b0), (.ref x0), (.ref x0)])) (OEndW s Z consts_1 (fun v h L => ∃ w, v = some w ∧ Fr n0 L ∧ Ext h0 h ∧ OSv Z h w (own_so p1) ∧ ∀ y, w = .ref y → h0.size ≤ y) ({ frames := 4, cells := 6, slots := 12, locals := 66 } : Room).cells ({ frames := 4, cells := 6, slots := 12, locals := 66 } : Room).slots)
        have Va22 : Arv Z h23 b0 k18 .char (1 : Int32) [(.int (nar .char ((((p1.toUInt32 >>> ((2 : Int32) &&& 31).toUInt32).toInt32) &&& (255 : Int32)).toUInt32.toUInt16.toUInt32.toInt32)))] (.int (0 : Int32)) := Arv.set A22 q22 S22 M22 H22 G22 (fits_nar_char _) W23 0 rfl (Nat.le_of_ble_eq_true rfl)
        have Nf23 := Fr.snoc X23 (Fr.nil n0) gf_b0
        have sz23 : n0 ≤ h23.size := by rw [W23.size]; exact sz18
        have sw24 := (Safe.arr (EL := consts_1) OW20.2.1.alike A22 (by decide))
        have sf25 := Safe.wr W23 sw24 OW20.chv sf19
        have OW26 := OW20.wr W23 sw24
        have fc27 := ((A15.ext E18).wr W23)
        have fc28 := ((F15_value.ext E18).other W23 (Or.inl ne_x0_b0))
        have fc29 := ((F15_coder.ext E18).other W23 (Or.inl ne_x0_b0))
        have hpx0 : ∀ c ∈ ([(nar .char ((((p1.toUInt32 >>> ((2 : Int32) &&& 31).toUInt32).toInt32) &&& (255 : Int32)).toUInt32.toUInt16.toUInt32.toInt32))] : List Int32), ¬ c < 0 ∧ ¬ (255 : Int32) < c := (own_allS (own_ch255 _) own_all0)
        have xt30 := (own_ext_trans E15 E18)
        have xt31 := (own_ext_wr xt30 W23 (Nat.le_trans E15.1 (Nat.le_of_eq g18.symm)))
        have fx32 := SC.ext xt31
        refine own_specialK X23 hx hZ (y := (⟨"java/lang/String", "<init>", "([C)V"⟩ : MethodName)) rfl hown (hw _ (List.mem_of_getElem? (i := 8) rfl)) (hw _ (List.mem_of_getElem? (i := 9) rfl)) (hw _ (List.mem_of_getElem? (i := 10) rfl)) (by decide) (a := x0) (W := 1) (StrChars.Road.backV (W := 1) hZ (fun d hd => hw d ((by decide +kernel : ∀ d ∈ StrChars.Road.words, d ∈ tables_1) d hd)) (kI := 4) (hw _ (List.mem_of_getElem? (i := 5) rfl)) (cs := ([(nar .char ((((p1.toUInt32 >>> ((2 : Int32) &&& 31).toUInt32).toInt32) &&& (255 : Int32)).toUInt32.toUInt16.toUInt32.toInt32))] : List Int32)) (bs := (([(nar .char ((((p1.toUInt32 >>> ((2 : Int32) &&& 31).toUInt32).toInt32) &&& (255 : Int32)).toUInt32.toUInt16.toUInt32.toInt32))] : List Int32)).map (fun c => c.toInt8.toInt32)) (n := 1) gf_x0 sz23 fc27 fc28 fc29 Va22 fx32 hzc rfl rfl (by decide) (by decide) hpx0 rfl (by decide) (by decide)) e23 (pc := 61) (Ls := #[.val (.int p1), .val (.int (p1 &&& (3 : Int32))), .val (.int ((((p1.toUInt32 >>> ((2 : Int32) &&& 31).toUInt32).toInt32) &&& (255 : Int32)).toUInt32.toUInt16.toUInt32.toInt32)), .val (.int ((((p1.toUInt32 >>> ((10 : Int32) &&& 31).toUInt32).toInt32) &&& (255 : Int32)).toUInt32.toUInt16.toUInt32.toInt32))]) (argsL := [(.ref b0)]) (rest := [(.ref x0)]) (by rw [hml]; rfl) (lenOf own_pd0 rfl) rfl (hb hby own_d_method_2_code_61) (by decide) (by decide) ?_
        intro v33 T33 L33 X33 hQ33
        obtain ⟨rfl, N33, K33, Ex33, Fc33, t33, kb33, u133, u233, u333, Fv33, Av33⟩ := hQ33
        show OGo p e below (T33.setTop (mkF m 64 #[.val (.int p1), .val (.int (p1 &&& (3 : Int32))), .val (.int ((((p1.toUInt32 >>> ((2 : Int32) &&& 31).toUInt32).toInt32) &&& (255 : Int32)).toUInt32.toUInt16.toUInt32.toInt32)), .val (.int ((((p1.toUInt32 >>> ((10 : Int32) &&& 31).toUInt32).toInt32) &&& (255 : Int32)).toUInt32.toUInt16.toUInt32.toInt32))] [(.ref x0)])) (OEndW s Z consts_1 (fun v h L => ∃ w, v = some w ∧ Fr n0 L ∧ Ext h0 h ∧ OSv Z h w (own_so p1) ∧ ∀ y, w = .ref y → h0.size ≤ y) ({ frames := 4, cells := 6, slots := 12, locals := 66 } : Room).cells ({ frames := 4, cells := 6, slots := 12, locals := 66 } : Room).slots)
        have Nc33 := Fr.app Nf23 N33
        have sz33 : n0 ≤ T33.heap.size := Nat.le_trans sz23 K33.1
        have sf34 := Safe.keep K33 (sfS sf25 sf0) OW26.chv sf25
        have OW35 := OW26.keep K33 (sfS sf25 sf0)
        have O33 : OStr Z T33.heap x0 ([(nar .char ((((p1.toUInt32 >>> ((2 : Int32) &&& 31).toUInt32).toInt32) &&& (255 : Int32)).toUInt32.toUInt16.toUInt32.toInt32))] : List Int32) := ⟨t33, kb33, 0, (1 : Int32), _, Ex33, Fv33, Fc33, Av33, StrChars.Road.codOf (n := 1) rfl (fun c hc => (hpx0 c hc).2), own_up _ hpx0, Nat.le_of_ble_eq_true rfl⟩
        have xt36 := (own_ext_keep xt31 K33 (allS (Nat.le_of_eq g15.symm) all0))
        exact own_retW X33 hx hlk hEL OW35 rfl hret rfl (Or.inr (Or.inr (Or.inr (Or.inr ⟨rfl, rfl, rfl⟩)))) (hb hby own_d_method_2_code_64) ⟨_, rfl, Nc33, xt36, Or.inr ⟨x0, _, rfl, by rw [own_so, if_neg hs0, if_neg hs1, if_pos hs2], O33⟩, fun y q => by cases q; exact (Nat.le_of_eq g15.symm)⟩ (by decide) (by decide)
      · refine OGo.step (fun _ kk => XS.icmpYes X0.here hx rfl (pc0 := 47) (pc' := 65) rfl (hb hby own_d_method_2_code_47) rfl (feq hs2).2 (by decide) (by decide) kk) ?_
        show OGo p e below (s₁.setTop (mkF m 65 #[.val (.int p1), .val (.int (p1 &&& (3 : Int32))), .val (.int ((((p1.toUInt32 >>> ((2 : Int32) &&& 31).toUInt32).toInt32) &&& (255 : Int32)).toUInt32.toUInt16.toUInt32.toInt32)), .val (.int ((((p1.toUInt32 >>> ((10 : Int32) &&& 31).toUInt32).toInt32) &&& (255 : Int32)).toUInt32.toUInt16.toUInt32.toInt32))] [])) (OEndW s Z consts_1 (fun v h L => ∃ w, v = some w ∧ Fr n0 L ∧ Ext h0 h ∧ OSv Z h w (own_so p1) ∧ ∀ y, w = .ref y → h0.size ≤ y) ({ frames := 4, cells := 6, slots := 12, locals := 66 } : Room).cells ({ frames := 4, cells := 6, slots := 12, locals := 66 } : Room).slots)
        obtain ⟨T37, h37, X37, e37, E37, A37, D37, U37, st37⟩ := newO X0 hx hZ hown (hw _ (List.mem_of_getElem? (i := 4) rfl)) (hw _ (List.mem_of_getElem? (i := 5) rfl)) (hw _ (List.mem_of_getElem? (i := 6) rfl)) e0 (g := (mkF m 65 #[.val (.int p1), .val (.int (p1 &&& (3 : Int32))), .val (.int ((((p1.toUInt32 >>> ((2 : Int32) &&& 31).toUInt32).toInt32) &&& (255 : Int32)).toUInt32.toUInt16.toUInt32.toInt32)), .val (.int ((((p1.toUInt32 >>> ((10 : Int32) &&& 31).toUInt32).toInt32) &&& (255 : Int32)).toUInt32.toUInt16.toUInt32.toInt32))] [])) rfl (hb hby own_d_method_2_code_65) (by decide) (by decide)
        obtain ⟨x0, g37⟩ : ∃ z, z = h0.size := ⟨_, rfl⟩
        rw [← g37] at A37 D37 U37 st37
        refine OGo.step st37 ?_
        show OGo p e below (T37.setTop (mkF m 68 #[.val (.int p1), .val (.int (p1 &&& (3 : Int32))), .val (.int ((((p1.toUInt32 >>> ((2 : Int32) &&& 31).toUInt32).toInt32) &&& (255 : Int32)).toUInt32.toUInt16.toUInt32.toInt32)), .val (.int ((((p1.toUInt32 >>> ((10 : Int32) &&& 31).toUInt32).toInt32) &&& (255 : Int32)).toUInt32.toUInt16.toUInt32.toInt32))] [(.ref x0)])) (OEndW s Z consts_1 (fun v h L => ∃ w, v = some w ∧ Fr n0 L ∧ Ext h0 h ∧ OSv Z h w (own_so p1) ∧ ∀ y, w = .ref y → h0.size ≤ y) ({ frames := 4, cells := 6, slots := 12, locals := 66 } : Room).cells ({ frames := 4, cells := 6, slots := 12, locals := 66 } : Room).slots)
        have gf_x0 : n0 ≤ x0 := Nat.le_trans Z0 (Nat.le_of_eq g37.symm)
        have sz37 : n0 ≤ h37.size := Nat.le_trans Z0 E37.1
        have OW38 := OW0.ext E37
        have F37_coder : Fld Z h37 x0 "java/lang/String" "coder" "B" (.int (0 : Int32)) := D37 (Or.inr (hw _ (List.mem_of_getElem? (i := 31) rfl))) (ty := .byte) (by decide)
        have F37_value : Fld Z h37 x0 "java/lang/String" "value" "[B" .null := D37 (Or.inr (hw _ (List.mem_of_getElem? (i := 33) rfl))) (ty := (.array .byte)) (by decide)
        have sf39 := own_safe_null (EL := consts_1) OW38.2.1.alike A37 F37_value
        refine OGo.step (fun _ kk => XS.dup X37.here hx rfl (hb hby own_d_method_2_code_68) rfl rfl kk) ?_
        show OGo p e below (T37.setTop (mkF m 69 #[.val (.int p1), .val (.int (p1 &&& (3 : Int32))), .val (.int ((((p1.toUInt32 >>> ((2 : Int32) &&& 31).toUInt32).toInt32) &&& (255 : Int32)).toUInt32.toUInt16.toUInt32.toInt32)), .val (.int ((((p1.toUInt32 >>> ((10 : Int32) &&& 31).toUInt32).toInt32) &&& (255 : Int32)).toUInt32.toUInt16.toUInt32.toInt32))] [(.ref x0), (.ref x0)])) (OEndW s Z consts_1 (fun v h L => ∃ w, v = some w ∧ Fr n0 L ∧ Ext h0 h ∧ OSv Z h w (own_so p1) ∧ ∀ y, w = .ref y → h0.size ≤ y) ({ frames := 4, cells := 6, slots := 12, locals := 66 } : Room).cells ({ frames := 4, cells := 6, slots := 12, locals := 66 } : Room).slots)
        refine OGo.step (fun _ kk => XS.iconst X37.here hx rfl (hb hby own_d_method_2_code_69) kk) ?_
        show OGo p e below (T37.setTop (mkF m 70 #[.val (.int p1), .val (.int (p1 &&& (3 : Int32))), .val (.int ((((p1.toUInt32 >>> ((2 : Int32) &&& 31).toUInt32).toInt32) &&& (255 : Int32)).toUInt32.toUInt16.toUInt32.toInt32)), .val (.int ((((p1.toUInt32 >>> ((10 : Int32) &&& 31).toUInt32).toInt32) &&& (255 : Int32)).toUInt32.toUInt16.toUInt32.toInt32))] [(.int (2 : Int32)), (.ref x0), (.ref x0)])) (OEndW s Z consts_1 (fun v h L => ∃ w, v = some w ∧ Fr n0 L ∧ Ext h0 h ∧ OSv Z h w (own_so p1) ∧ ∀ y, w = .ref y → h0.size ≤ y) ({ frames := 4, cells := 6, slots := 12, locals := 66 } : Room).cells ({ frames := 4, cells := 6, slots := 12, locals := 66 } : Room).slots)
        obtain ⟨T40, h40, k40, X40, e40, E40, A40, st40⟩ := newP X37 hx hZ (hw _ (List.mem_of_getElem? (i := 7) rfl)) e37 (g := (mkF m 70 #[.val (.int p1), .val (.int (p1 &&& (3 : Int32))), .val (.int ((((p1.toUInt32 >>> ((2 : Int32) &&& 31).toUInt32).toInt32) &&& (255 : Int32)).toUInt32.toUInt16.toUInt32.toInt32)), .val (.int ((((p1.toUInt32 >>> ((10 : Int32) &&& 31).toUInt32).toInt32) &&& (255 : Int32)).toUInt32.toUInt16.toUInt32.toInt32))] [(.int (2 : Int32)), (.ref x0), (.ref x0)])) rfl (hb hby own_d_method_2_code_70) rfl (by decide) (cap := 2) (by decide) (by decide) (by decide) (by decide)
        obtain ⟨b0, g40⟩ : ∃ z, z = h37.size := ⟨_, rfl⟩
        rw [← g40] at A40 st40
        refine OGo.step st40 ?_
        show OGo p e below (T40.setTop (mkF m 72 #[.val (.int p1), .val (.int (p1 &&& (3 : Int32))), .val (.int ((((p1.toUInt32 >>> ((2 : Int32) &&& 31).toUInt32).toInt32) &&& (255 : Int32)).toUInt32.toUInt16.toUInt32.toInt32)), .val (.int ((((p1.toUInt32 >>> ((10 : Int32) &&& 31).toUInt32).toInt32) &&& (255 : Int32)).toUInt32.toUInt16.toUInt32.toInt32))] [(.ref b0), (.ref x0), (.ref x0)])) (OEndW s Z consts_1 (fun v h L => ∃ w, v = some w ∧ Fr n0 L ∧ Ext h0 h ∧ OSv Z h w (own_so p1) ∧ ∀ y, w = .ref y → h0.size ≤ y) ({ frames := 4, cells := 6, slots := 12, locals := 66 } : Room).cells ({ frames := 4, cells := 6, slots := 12, locals := 66 } : Room).slots)
        have ne_x0_b0 : x0 ≠ b0 := Nat.ne_of_lt (Nat.lt_of_lt_of_le A37.lt (Nat.le_of_eq g40.symm))
        have gf_b0 : n0 ≤ b0 := Nat.le_trans sz37 (Nat.le_of_eq g40.symm)
        have sz40 : n0 ≤ h40.size := Nat.le_trans sz37 E40.1
        have sf41 := Safe.ext E40 OW38.chv sf39
        have OW42 := OW38.ext E40
        have Va43 : Arv Z h40 b0 k40 .char (2 : Int32) [(.int (0 : Int32)), (.int (0 : Int32))] (.int (0 : Int32)) := (Arv.new A40 (by decide)).pad (pad_rep [] (.int (0 : Int32)) 2)
        refine OGo.step (fun _ kk => XS.dup X40.here hx rfl (hb hby own_d_method_2_code_72) rfl rfl kk) ?_
        show OGo p e below (T40.setTop (mkF m 73 #[.val (.int p1), .val (.int (p1 &&& (3 : Int32))), .val (.int ((((p1.toUInt32 >>> ((2 : Int32) &&& 31).toUInt32).toInt32) &&& (255 : Int32)).toUInt32.toUInt16.toUInt32.toInt32)), .val (.int ((((p1.toUInt32 >>> ((10 : Int32) &&& 31).toUInt32).toInt32) &&& (255 : Int32)).toUInt32.toUInt16.toUInt32.toInt32))] [(.ref b0), (.ref b0), (.ref x0), (.ref x0)])) (OEndW s Z consts_1 (fun v h L => ∃ w, v = some w ∧ Fr n0 L ∧ Ext h0 h ∧ OSv Z h w (own_so p1) ∧ ∀ y, w = .ref y → h0.size ≤ y) ({ frames := 4, cells := 6, slots := 12, locals := 66 } : Room).cells ({ frames := 4, cells := 6, slots := 12, locals := 66 } : Room).slots)
        refine OGo.step (fun _ kk => XS.iconst X40.here hx rfl (hb hby own_d_method_2_code_73) kk) ?_
        show OGo p e below (T40.setTop (mkF m 74 #[.val (.int p1), .val (.int (p1 &&& (3 : Int32))), .val (.int ((((p1.toUInt32 >>> ((2 : Int32) &&& 31).toUInt32).toInt32) &&& (255 : Int32)).toUInt32.toUInt16.toUInt32.toInt32)), .val (.int ((((p1.toUInt32 >>> ((10 : Int32) &&& 31).toUInt32).toInt32) &&& (255 : Int32)).toUInt32.toUInt16.toUInt32.toInt32))] [(.int (0 : Int32)), (.ref b0), (.ref b0), (.ref x0), (.ref x0)])) (OEndW s Z consts_1 (fun v h L => ∃ w, v = some w ∧ Fr n0 L ∧ Ext h0 h ∧ OSv Z h w (own_so p1) ∧ ∀ y, w = .ref y → h0.size ≤ y) ({ frames := 4, cells := 6, slots := 12, locals := 66 } : Room).cells ({ frames := 4, cells := 6, slots := 12, locals := 66 } : Room).slots)
        refine OGo.step (fun _ kk => XS.iloadN X40.here hx rfl (hb hby own_d_method_2_code_74) rfl kk) ?_
        show OGo p e below (T40.setTop (mkF m 75 #[.val (.int p1), .val (.int (p1 &&& (3 : Int32))), .val (.int ((((p1.toUInt32 >>> ((2 : Int32) &&& 31).toUInt32).toInt32) &&& (255 : Int32)).toUInt32.toUInt16.toUInt32.toInt32)), .val (.int ((((p1.toUInt32 >>> ((10 : Int32) &&& 31).toUInt32).toInt32) &&& (255 : Int32)).toUInt32.toUInt16.toUInt32.toInt32))] [(.int ((((p1.toUInt32 >>> ((2 : Int32) &&& 31).toUInt32).toInt32) &&& (255 : Int32)).toUInt32.toUInt16.toUInt32.toInt32)), (.int (0 : Int32)), (.ref b0), (.ref b0), (.ref x0), (.ref x0)])) (OEndW s Z consts_1 (fun v h L => ∃ w, v = some w ∧ Fr n0 L ∧ Ext h0 h ∧ OSv Z h w (own_so p1) ∧ ∀ y, w = .ref y → h0.size ≤ y) ({ frames := 4, cells := 6, slots := 12, locals := 66 } : Room).cells ({ frames := 4, cells := 6, slots := 12, locals := 66 } : Room).slots)
        obtain ⟨cA44, A44, q44, S44, M44, H44, G44⟩ := Va43
        obtain ⟨T45, h45, X45, e45, W45, st45⟩ := stC X40 hx hZ e40 A44 (j := (0 : Int32)) (inb_of S44 ⟨by decide, by decide⟩) (g := (mkF m 75 #[.val (.int p1), .val (.int (p1 &&& (3 : Int32))), .val (.int ((((p1.toUInt32 >>> ((2 : Int32) &&& 31).toUInt32).toInt32) &&& (255 : Int32)).toUInt32.toUInt16.toUInt32.toInt32)), .val (.int ((((p1.toUInt32 >>> ((10 : Int32) &&& 31).toUInt32).toInt32) &&& (255 : Int32)).toUInt32.toUInt16.toUInt32.toInt32))] [(.int ((((p1.toUInt32 >>> ((2 : Int32) &&& 31).toUInt32).toInt32) &&& (255 : Int32)).toUInt32.toUInt16.toUInt32.toInt32)), (.int (0 : Int32)), (.ref b0), (.ref b0), (.ref x0), (.ref x0)])) rfl rfl (hb hby own_d_method_2_code_75)
        refine OGo.step st45 ?_
        show OGo p e below (T45.setTop (mkF m 76 #[.val (.int p1), .val (.int (p1 &&& (3 : Int32))), .val (.int ((((p1.toUInt32 >>> ((2 : Int32) &&& 31).toUInt32).toInt32) &&& (255 : Int32)).toUInt32.toUInt16.toUInt32.toInt32)), .val (.int ((((p1.toUInt32 >>> ((10 : Int32) &&& 31).toUInt32).toInt32) &&& (255 : Int32)).toUInt32.toUInt16.toUInt32.toInt32))] [(.ref b0), (.ref x0), (.ref x0)])) (OEndW s Z consts_1 (fun v h L => ∃ w, v = some w ∧ Fr n0 L ∧ Ext h0 h ∧ OSv Z h w (own_so p1) ∧ ∀ y, w = .ref y → h0.size ≤ y) ({ frames := 4, cells := 6, slots := 12, locals := 66 } : Room).cells ({ frames := 4, cells := 6, slots := 12, locals := 66 } : Room).slots)
        have Va44 : Arv Z h45 b0 k40 .char (2 : Int32) [(.int (nar .char ((((p1.toUInt32 >>> ((2 : Int32) &&& 31).toUInt32).toInt32) &&& (255 : Int32)).toUInt32.toUInt16.toUInt32.toInt32))), (.int (0 : Int32))] (.int (0 : Int32)) := Arv.set A44 q44 S44 M44 H44 G44 (fits_nar_char _) W45 0 rfl (Nat.le_of_ble_eq_true rfl)
        have Nf45 := Fr.snoc X45 (Fr.nil n0) gf_b0
        have sz45 : n0 ≤ h45.size := by rw [W45.size]; exact sz40
        have sw46 := (Safe.arr (EL := consts_1) OW42.2.1.alike A44 (by decide))
        have sf47 := Safe.wr W45 sw46 OW42.chv sf41
        have OW48 := OW42.wr W45 sw46
        refine OGo.step (fun _ kk => XS.dup X45.here hx rfl (hb hby own_d_method_2_code_76) rfl rfl kk) ?_
        show OGo p e below (T45.setTop (mkF m 77 #[.val (.int p1), .val (.int (p1 &&& (3 : Int32))), .val (.int ((((p1.toUInt32 >>> ((2 : Int32) &&& 31).toUInt32).toInt32) &&& (255 : Int32)).toUInt32.toUInt16.toUInt32.toInt32)), .val (.int ((((p1.toUInt32 >>> ((10 : Int32) &&& 31).toUInt32).toInt32) &&& (255 : Int32)).toUInt32.toUInt16.toUInt32.toInt32))] [(.ref b0), (.ref b0), (.ref x0), (.ref x0)])) (OEndW s Z consts_1 (fun v h L => ∃ w, v = some w ∧ Fr n0 L ∧ Ext h0 h ∧ OSv Z h w (own_so p1) ∧ ∀ y, w = .ref y → h0.size ≤ y) ({ frames := 4, cells := 6, slots := 12, locals := 66 } : Room).cells ({ frames := 4, cells := 6, slots := 12, locals := 66 } : Room).slots)
        refine OGo.step (fun _ kk => XS.iconst X45.here hx rfl (hb hby own_d_method_2_code_77) kk) ?_
        show OGo p e below (T45.setTop (mkF m 78 #[.val (.int p1), .val (.int (p1 &&& (3 : Int32))), .val (.int ((((p1.toUInt32 >>> ((2 : Int32) &&& 31).toUInt32).toInt32) &&& (255 : Int32)).toUInt32.toUInt16.toUInt32.toInt32)), .val (.int ((((p1.toUInt32 >>> ((10 : Int32) &&& 31).toUInt32).toInt32) &&& (255 : Int32)).toUInt32.toUInt16.toUInt32.toInt32))] [(.int (1 : Int32)), (.ref b0), (.ref b0), (.ref x0), (.ref x0)])) (OEndW s Z consts_1 (fun v h L => ∃ w, v = some w ∧ Fr n0 L ∧ Ext h0 h ∧ OSv Z h w (own_so p1) ∧ ∀ y, w = .ref y → h0.size ≤ y) ({ frames := 4, cells := 6, slots := 12, locals := 66 } : Room).cells ({ frames := 4, cells := 6, slots := 12, locals := 66 } : Room).slots)
        refine OGo.step (fun _ kk => XS.iloadN X45.here hx rfl (hb hby own_d_method_2_code_78) rfl kk) ?_
        show OGo p e below (T45.setTop (mkF m 79 #[.val (.int p1), .val (.int (p1 &&& (3 : Int32))), .val (.int ((((p1.toUInt32 >>> ((2 : Int32) &&& 31).toUInt32).toInt32) &&& (255 : Int32)).toUInt32.toUInt16.toUInt32.toInt32)), .val (.int ((((p1.toUInt32 >>> ((10 : Int32) &&& 31).toUInt32).toInt32) &&& (255 : Int32)).toUInt32.toUInt16.toUInt32.toInt32))] [(.int ((((p1.toUInt32 >>> ((10 : Int32) &&& 31).toUInt32).toInt32) &&& (255 : Int32)).toUInt32.toUInt16.toUInt32.toInt32)), (.int (1 : Int32)), (.ref b0), (.ref b0), (.ref x0), (.ref x0)])) (OEndW s Z consts_1 (fun v h L => ∃ w, v = some w ∧ Fr n0 L ∧ Ext h0 h ∧ OSv Z h w (own_so p1) ∧ ∀ y, w = .ref y → h0.size ≤ y) ({ frames := 4, cells := 6, slots := 12, locals := 66 } : Room).cells ({ frames := 4, cells := 6, slots := 12, locals := 66 } : Room).slots)
        obtain ⟨cA49, A49, q49, S49, M49, H49, G49⟩ := Va44
        obtain ⟨T50, h50, X50, e50, W50, st50⟩ := stC X45 hx hZ e45 A49 (j := (1 : Int32)) (inb_of S49 ⟨by decide, by decide⟩) (g := (mkF m 79 #[.val (.int p1), .val (.int (p1 &&& (3 : Int32))), .val (.int ((((p1.toUInt32 >>> ((2 : Int32) &&& 31).toUInt32).toInt32) &&& (255 : Int32)).toUInt32.toUInt16.toUInt32.toInt32)), .val (.int ((((p1.toUInt32 >>> ((10 : Int32) &&& 31).toUInt32).toInt32) &&& (255 : Int32)).toUInt32.toUInt16.toUInt32.toInt32))] [(.int ((((p1.toUInt32 >>> ((10 : Int32) &&& 31).toUInt32).toInt32) &&& (255 : Int32)).toUInt32.toUInt16.toUInt32.toInt32)), (.int (1 : Int32)), (.ref b0), (.ref b0), (.ref x0), (.ref x0)])) rfl rfl (hb hby own_d_method_2_code_79)
        refine OGo.step st50 ?_
        show OGo p e below (T50.setTop (mkF m 80 #[.val (.int p1), .val (.int (p1 &&& (3 : Int32))), .val (.int ((((p1.toUInt32 >>> ((2 : Int32) &&& 31).toUInt32).toInt32) &&& (255 : Int32)).toUInt32.toUInt16.toUInt32.toInt32)), .val (.int ((((p1.toUInt32 >>> ((10 : Int32) &&& 31).toUInt32).toInt32) &&& (255 : Int32)).toUInt32.toUInt16.toUInt32.toInt32))] [(.ref b0), (.ref x0), (.ref x0)])) (OEndW s Z consts_1 (fun v h L => ∃ w, v = some w ∧ Fr n0 L ∧ Ext h0 h ∧ OSv Z h w (own_so p1) ∧ ∀ y, w = .ref y → h0.size ≤ y) ({ frames := 4, cells := 6, slots := 12, locals := 66 } : Room).cells ({ frames := 4, cells := 6, slots := 12, locals := 66 } : Room).slots)
        have Va49 : Arv Z h50 b0 k40 .char (2 : Int32) [(.int (nar .char ((((p1.toUInt32 >>> ((2 : Int32) &&& 31).toUInt32).toInt32) &&& (255 : Int32)).toUInt32.toUInt16.toUInt32.toInt32))), (.int (nar .char ((((p1.toUInt32 >>> ((10 : Int32) &&& 31).toUInt32).toInt32) &&& (255 : Int32)).toUInt32.toUInt16.toUInt32.toInt32)))] (.int (0 : Int32)) := Arv.set A49 q49 S49 M49 H49 G49 (fits_nar_char _) W50 1 rfl (Nat.le_of_ble_eq_true rfl)
        have Nf50 := Fr.snoc X50 Nf45 gf_b0
        have sz50 : n0 ≤ h50.size := by rw [W50.size]; exact sz45
        have sw51 := (Safe.arr (EL := consts_1) OW48.2.1.alike A49 (by decide))
        have sf52 := Safe.wr W50 sw51 OW48.chv sf47
        have OW53 := OW48.wr W50 sw51
        have fc54 := (((A37.ext E40).wr W45).wr W50)
        have fc55 := (((F37_value.ext E40).other W45 (Or.inl ne_x0_b0)).other W50 (Or.inl ne_x0_b0))
        have fc56 := (((F37_coder.ext E40).other W45 (Or.inl ne_x0_b0)).other W50 (Or.inl ne_x0_b0))
        have hpx0 : ∀ c ∈ ([(nar .char ((((p1.toUInt32 >>> ((2 : Int32) &&& 31).toUInt32).toInt32) &&& (255 : Int32)).toUInt32.toUInt16.toUInt32.toInt32)), (nar .char ((((p1.toUInt32 >>> ((10 : Int32) &&& 31).toUInt32).toInt32) &&& (255 : Int32)).toUInt32.toUInt16.toUInt32.toInt32))] : List Int32), ¬ c < 0 ∧ ¬ (255 : Int32) < c := (own_allS (own_ch255 _) (own_allS (own_ch255 _) own_all0))
        have xt57 := (own_ext_trans E37 E40)
        have xt58 := (own_ext_wr xt57 W45 (Nat.le_trans E37.1 (Nat.le_of_eq g40.symm)))
        have xt59 := (own_ext_wr xt58 W50 (Nat.le_trans E37.1 (Nat.le_of_eq g40.symm)))
        have fx60 := SC.ext xt59
        refine own_specialK X50 hx hZ (y := (⟨"java/lang/String", "<init>", "([C)V"⟩ : MethodName)) rfl hown (hw _ (List.mem_of_getElem? (i := 8) rfl)) (hw _ (List.mem_of_getElem? (i := 9) rfl)) (hw _ (List.mem_of_getElem? (i := 10) rfl)) (by decide) (a := x0) (W := 1) (StrChars.Road.backV (W := 1) hZ (fun d hd => hw d ((by decide +kernel : ∀ d ∈ StrChars.Road.words, d ∈ tables_1) d hd)) (kI := 4) (hw _ (List.mem_of_getElem? (i := 5) rfl)) (cs := ([(nar .char ((((p1.toUInt32 >>> ((2 : Int32) &&& 31).toUInt32).toInt32) &&& (255 : Int32)).toUInt32.toUInt16.toUInt32.toInt32)), (nar .char ((((p1.toUInt32 >>> ((10 : Int32) &&& 31).toUInt32).toInt32) &&& (255 : Int32)).toUInt32.toUInt16.toUInt32.toInt32))] : List Int32)) (bs := (([(nar .char ((((p1.toUInt32 >>> ((2 : Int32) &&& 31).toUInt32).toInt32) &&& (255 : Int32)).toUInt32.toUInt16.toUInt32.toInt32)), (nar .char ((((p1.toUInt32 >>> ((10 : Int32) &&& 31).toUInt32).toInt32) &&& (255 : Int32)).toUInt32.toUInt16.toUInt32.toInt32))] : List Int32)).map (fun c => c.toInt8.toInt32)) (n := 2) gf_x0 sz50 fc54 fc55 fc56 Va49 fx60 hzc rfl rfl (by decide) (by decide) hpx0 rfl (by decide) (by decide)) e50 (pc := 80) (Ls := #[.val (.int p1), .val (.int (p1 &&& (3 : Int32))), .val (.int ((((p1.toUInt32 >>> ((2 : Int32) &&& 31).toUInt32).toInt32) &&& (255 : Int32)).toUInt32.toUInt16.toUInt32.toInt32)), .val (.int ((((p1.toUInt32 >>> ((10 : Int32) &&& 31).toUInt32).toInt32) &&& (255 : Int32)).toUInt32.toUInt16.toUInt32.toInt32))]) (argsL := [(.ref b0)]) (rest := [(.ref x0)]) (by rw [hml]; rfl) (lenOf own_pd0 rfl) rfl (hb hby own_d_method_2_code_80) (by decide) (by decide) ?_
        intro v61 T61 L61 X61 hQ61
        obtain ⟨rfl, N61, K61, Ex61, Fc61, t61, kb61, u161, u261, u361, Fv61, Av61⟩ := hQ61
        show OGo p e below (T61.setTop (mkF m 83 #[.val (.int p1), .val (.int (p1 &&& (3 : Int32))), .val (.int ((((p1.toUInt32 >>> ((2 : Int32) &&& 31).toUInt32).toInt32) &&& (255 : Int32)).toUInt32.toUInt16.toUInt32.toInt32)), .val (.int ((((p1.toUInt32 >>> ((10 : Int32) &&& 31).toUInt32).toInt32) &&& (255 : Int32)).toUInt32.toUInt16.toUInt32.toInt32))] [(.ref x0)])) (OEndW s Z consts_1 (fun v h L => ∃ w, v = some w ∧ Fr n0 L ∧ Ext h0 h ∧ OSv Z h w (own_so p1) ∧ ∀ y, w = .ref y → h0.size ≤ y) ({ frames := 4, cells := 6, slots := 12, locals := 66 } : Room).cells ({ frames := 4, cells := 6, slots := 12, locals := 66 } : Room).slots)
        have Nc61 := Fr.app Nf50 N61
        have sz61 : n0 ≤ T61.heap.size := Nat.le_trans sz50 K61.1
        have sf62 := Safe.keep K61 (sfS sf52 sf0) OW53.chv sf52
        have OW63 := OW53.keep K61 (sfS sf52 sf0)
        have O61 : OStr Z T61.heap x0 ([(nar .char ((((p1.toUInt32 >>> ((2 : Int32) &&& 31).toUInt32).toInt32) &&& (255 : Int32)).toUInt32.toUInt16.toUInt32.toInt32)), (nar .char ((((p1.toUInt32 >>> ((10 : Int32) &&& 31).toUInt32).toInt32) &&& (255 : Int32)).toUInt32.toUInt16.toUInt32.toInt32))] : List Int32) := ⟨t61, kb61, 0, (2 : Int32), _, Ex61, Fv61, Fc61, Av61, StrChars.Road.codOf (n := 2) rfl (fun c hc => (hpx0 c hc).2), own_up _ hpx0, Nat.le_of_ble_eq_true rfl⟩
        have xt64 := (own_ext_keep xt59 K61 (allS (Nat.le_of_eq g37.symm) all0))
        exact own_retW X61 hx hlk hEL OW63 rfl hret rfl (Or.inr (Or.inr (Or.inr (Or.inr ⟨rfl, rfl, rfl⟩)))) (hb hby own_d_method_2_code_83) ⟨_, rfl, Nc61, xt64, Or.inr ⟨x0, _, rfl, by rw [own_so, if_neg hs0, if_neg hs1, if_neg hs2], O61⟩, fun y q => by cases q; exact (Nat.le_of_eq g37.symm)⟩ (by decide) (by decide)

set_option maxRecDepth 65536 in
set_option maxHeartbeats 40000000 in
theorem own_rec (l : Launch) (Z : State) (a0 : Array Value) (hw : ∀ d ∈ tables_1, d.before a0 Z = true) (ws : List Jvm.Cond) (a : Addr) (h0 : Heap) (n0 : Nat) (Z0 : n0 ≤ h0.size)  :
    OMet l Z (⟨"java/lang/Record", "<init>", "()V"⟩ : MethodName) jdk_30_method_1_code 1 none ws ({ frames := 1, cells := 0, slots := 0, locals := 12 } : Room) #[(.ref a)] h0 (fun v h L => v = none ∧ Fr n0 L ∧ h = h0) := by
  refine OMet.body (plainFor_of_name own_pn1) ?_
  intro p e s m below meth c s₁ hx hby hml hown hnm hret hlk hZ X0 e0
  refine OGo.step (fun _ kk => castTop (show entryFrame m #[(.ref a)] 1 = (mkF m 0 #[.val (.ref a)] []) from by first | (simp [entryFrame, mkF, argsToLocals, Value.category]; done) | rfl) kk) ?_
  show OGo p e below (s₁.setTop (mkF m 0 #[.val (.ref a)] [])) (OEnd s (fun v h L => v = none ∧ Fr n0 L ∧ h = h0) ({ frames := 1, cells := 0, slots := 0, locals := 12 } : Room).cells ({ frames := 1, cells := 0, slots := 0, locals := 12 } : Room).slots)
  refine OGo.step (fun _ kk => XS.aloadN X0.here hx rfl (hb hby own_d_jdk_30_method_1_code_0) rfl rfl kk) ?_
  show OGo p e below (s₁.setTop (mkF m 1 #[.val (.ref a)] [(.ref a)])) (OEnd s (fun v h L => v = none ∧ Fr n0 L ∧ h = h0) ({ frames := 1, cells := 0, slots := 0, locals := 12 } : Room).cells ({ frames := 1, cells := 0, slots := 0, locals := 12 } : Room).slots)
  obtain ⟨T65, X65, e65, st65⟩ := initO X0 hx hZ hown (hw _ (List.mem_of_getElem? (i := 48) rfl)) (hw _ (List.mem_of_getElem? (i := 16) rfl)) (hw _ (List.mem_of_getElem? (i := 17) rfl)) e0 (g := (mkF m 1 #[.val (.ref a)] [(.ref a)])) rfl (by rw [hml]; rfl) rfl (hb hby own_d_jdk_30_method_1_code_1) (by decide) (W := 0) (by show 2 * 0 + _ ≤ _; exact Nat.le_of_eq rfl) (by decide)
  refine OGo.step st65 ?_
  show OGo p e below (T65.setTop (mkF m 4 #[.val (.ref a)] [])) (OEnd s (fun v h L => v = none ∧ Fr n0 L ∧ h = h0) ({ frames := 1, cells := 0, slots := 0, locals := 12 } : Room).cells ({ frames := 1, cells := 0, slots := 0, locals := 12 } : Room).slots)
  exact own_ret0 X65 hx hlk hret (hb hby own_d_jdk_30_method_1_code_4) ⟨rfl, Fr.nil n0, e65⟩ (by decide) (by decide)

set_option maxRecDepth 65536 in
set_option maxHeartbeats 40000000 in
theorem own_cinit (l : Launch) (Z : State) (a0 : Array Value) (hw : ∀ d ∈ tables_1, d.before a0 Z = true) (ws : List Jvm.Cond) (a : Addr) (v1 v2 v3 : Value) (h0 : Heap) (n0 : Nat) (Z0 : n0 ≤ h0.size) (E1 : Exa Z h0 a "com/example/tags_to_grants/tagstogrants/policy/Policy$Cell") (F_subject : Fld Z h0 a "com/example/tags_to_grants/tagstogrants/policy/Policy$Cell" "subject" "Ljava/lang/String;" .null) (F_operation : Fld Z h0 a "com/example/tags_to_grants/tagstogrants/policy/Policy$Cell" "operation" "Ljava/lang/String;" .null) (F_object : Fld Z h0 a "com/example/tags_to_grants/tagstogrants/policy/Policy$Cell" "object" "Ljava/lang/String;" .null) (ga : n0 ≤ a) (hv1 : v1.isRef = true) (hv2 : v2.isRef = true) (hv3 : v3.isRef = true) :
    OMet l Z (⟨"com/example/tags_to_grants/tagstogrants/policy/Policy$Cell", "<init>", "(Ljava/lang/String;Ljava/lang/String;Ljava/lang/String;)V"⟩ : MethodName) prog_64_method_1_code 4 none ws ({ frames := 2, cells := 0, slots := 0, locals := 26 } : Room) #[(.ref a), v1, v2, v3] h0 (fun v h L => v = none ∧ Fr n0 L ∧ Keep h0 h [a] ∧ Exa Z h a "com/example/tags_to_grants/tagstogrants/policy/Policy$Cell" ∧ Fld Z h a "com/example/tags_to_grants/tagstogrants/policy/Policy$Cell" "subject" "Ljava/lang/String;" v1 ∧ Fld Z h a "com/example/tags_to_grants/tagstogrants/policy/Policy$Cell" "operation" "Ljava/lang/String;" v2 ∧ Fld Z h a "com/example/tags_to_grants/tagstogrants/policy/Policy$Cell" "object" "Ljava/lang/String;" v3) := by
  refine OMet.body (plainFor_of_name own_pn2) ?_
  intro p e s m below meth c s₁ hx hby hml hown hnm hret hlk hZ X0 e0
  refine OGo.step (fun _ kk => castTop (show entryFrame m #[(.ref a), v1, v2, v3] 4 = mkF m 0 #[.val (.ref a), .val v1, .val v2, .val v3] [] from by simp [entryFrame, mkF, argsToLocals, own_cat (v := .ref a) rfl, own_cat hv1, own_cat hv2, own_cat hv3]) kk) ?_
  show OGo p e below (s₁.setTop (mkF m 0 #[.val (.ref a), .val v1, .val v2, .val v3] [])) (OEnd s (fun v h L => v = none ∧ Fr n0 L ∧ Keep h0 h [a] ∧ Exa Z h a "com/example/tags_to_grants/tagstogrants/policy/Policy$Cell" ∧ Fld Z h a "com/example/tags_to_grants/tagstogrants/policy/Policy$Cell" "subject" "Ljava/lang/String;" v1 ∧ Fld Z h a "com/example/tags_to_grants/tagstogrants/policy/Policy$Cell" "operation" "Ljava/lang/String;" v2 ∧ Fld Z h a "com/example/tags_to_grants/tagstogrants/policy/Policy$Cell" "object" "Ljava/lang/String;" v3) ({ frames := 2, cells := 0, slots := 0, locals := 26 } : Room).cells ({ frames := 2, cells := 0, slots := 0, locals := 26 } : Room).slots)
  refine OGo.step (fun _ kk => XS.aloadN X0.here hx rfl (hb hby own_d_prog_64_method_1_code_0) rfl rfl kk) ?_
  show OGo p e below (s₁.setTop (mkF m 1 #[.val (.ref a), .val v1, .val v2, .val v3] [(.ref a)])) (OEnd s (fun v h L => v = none ∧ Fr n0 L ∧ Keep h0 h [a] ∧ Exa Z h a "com/example/tags_to_grants/tagstogrants/policy/Policy$Cell" ∧ Fld Z h a "com/example/tags_to_grants/tagstogrants/policy/Policy$Cell" "subject" "Ljava/lang/String;" v1 ∧ Fld Z h a "com/example/tags_to_grants/tagstogrants/policy/Policy$Cell" "operation" "Ljava/lang/String;" v2 ∧ Fld Z h a "com/example/tags_to_grants/tagstogrants/policy/Policy$Cell" "object" "Ljava/lang/String;" v3) ({ frames := 2, cells := 0, slots := 0, locals := 26 } : Room).cells ({ frames := 2, cells := 0, slots := 0, locals := 26 } : Room).slots)
  refine own_special X0 hx hZ (y := (⟨"java/lang/Record", "<init>", "()V"⟩ : MethodName)) rfl hown (hw _ (List.mem_of_getElem? (i := 43) rfl)) (hw _ (List.mem_of_getElem? (i := 44) rfl)) (hw _ (List.mem_of_getElem? (i := 47) rfl)) (hw _ (List.mem_of_getElem? (i := 46) rfl)) (by decide) (a := a) (W := 0) (own_rec l Z a0 hw [] a h0 n0 Z0) e0  (pc := 1) (Ls := #[.val (.ref a), .val v1, .val v2, .val v3]) (argsL := []) (rest := []) (by rw [hml]; rfl) (lenOf own_pd1 rfl) rfl (hb hby own_d_prog_64_method_1_code_1) (by decide) (by decide) (by decide) (by decide) ?_
  intro v66 T66 L66 X66 hQ66
  obtain ⟨rfl, N66, e66⟩ := hQ66
  show OGo p e below (T66.setTop (mkF m 4 #[.val (.ref a), .val v1, .val v2, .val v3] [])) (OEnd s (fun v h L => v = none ∧ Fr n0 L ∧ Keep h0 h [a] ∧ Exa Z h a "com/example/tags_to_grants/tagstogrants/policy/Policy$Cell" ∧ Fld Z h a "com/example/tags_to_grants/tagstogrants/policy/Policy$Cell" "subject" "Ljava/lang/String;" v1 ∧ Fld Z h a "com/example/tags_to_grants/tagstogrants/policy/Policy$Cell" "operation" "Ljava/lang/String;" v2 ∧ Fld Z h a "com/example/tags_to_grants/tagstogrants/policy/Policy$Cell" "object" "Ljava/lang/String;" v3) ({ frames := 2, cells := 0, slots := 0, locals := 26 } : Room).cells ({ frames := 2, cells := 0, slots := 0, locals := 26 } : Room).slots)
  have Nc66 := Fr.app (Fr.nil n0) N66
  refine OGo.step (fun _ kk => XS.aloadN X66.here hx rfl (hb hby own_d_prog_64_method_1_code_4) rfl rfl kk) ?_
  show OGo p e below (T66.setTop (mkF m 5 #[.val (.ref a), .val v1, .val v2, .val v3] [(.ref a)])) (OEnd s (fun v h L => v = none ∧ Fr n0 L ∧ Keep h0 h [a] ∧ Exa Z h a "com/example/tags_to_grants/tagstogrants/policy/Policy$Cell" ∧ Fld Z h a "com/example/tags_to_grants/tagstogrants/policy/Policy$Cell" "subject" "Ljava/lang/String;" v1 ∧ Fld Z h a "com/example/tags_to_grants/tagstogrants/policy/Policy$Cell" "operation" "Ljava/lang/String;" v2 ∧ Fld Z h a "com/example/tags_to_grants/tagstogrants/policy/Policy$Cell" "object" "Ljava/lang/String;" v3) ({ frames := 2, cells := 0, slots := 0, locals := 26 } : Room).cells ({ frames := 2, cells := 0, slots := 0, locals := 26 } : Room).slots)
  refine OGo.step (fun _ kk => XS.aloadN X66.here hx rfl (hb hby own_d_prog_64_method_1_code_5) rfl hv1 kk) ?_
  show OGo p e below (T66.setTop (mkF m 6 #[.val (.ref a), .val v1, .val v2, .val v3] [v1, (.ref a)])) (OEnd s (fun v h L => v = none ∧ Fr n0 L ∧ Keep h0 h [a] ∧ Exa Z h a "com/example/tags_to_grants/tagstogrants/policy/Policy$Cell" ∧ Fld Z h a "com/example/tags_to_grants/tagstogrants/policy/Policy$Cell" "subject" "Ljava/lang/String;" v1 ∧ Fld Z h a "com/example/tags_to_grants/tagstogrants/policy/Policy$Cell" "operation" "Ljava/lang/String;" v2 ∧ Fld Z h a "com/example/tags_to_grants/tagstogrants/policy/Policy$Cell" "object" "Ljava/lang/String;" v3) ({ frames := 2, cells := 0, slots := 0, locals := 26 } : Room).cells ({ frames := 2, cells := 0, slots := 0, locals := 26 } : Room).slots)
  obtain ⟨T67, h67, X67, e67, W67, st67⟩ := putF X66 hx hZ hown (host := "") (Or.inl (hw _ (List.mem_of_getElem? (i := 49) rfl))) Via.refl e66 F_subject E1 (Or.inr ⟨(hw _ (List.mem_of_getElem? (i := 50) rfl)), rfl, hnm⟩) (hw _ (List.mem_of_getElem? (i := 38) rfl)) (ty := (.object "java/lang/String")) (by decide) (own_narR hv1) (own_fitR hv1) (g := (mkF m 6 #[.val (.ref a), .val v1, .val v2, .val v3] [v1, (.ref a)])) rfl rfl (hb hby own_d_prog_64_method_1_code_6)
  refine OGo.step st67 ?_
  show OGo p e below (T67.setTop (mkF m 9 #[.val (.ref a), .val v1, .val v2, .val v3] [])) (OEnd s (fun v h L => v = none ∧ Fr n0 L ∧ Keep h0 h [a] ∧ Exa Z h a "com/example/tags_to_grants/tagstogrants/policy/Policy$Cell" ∧ Fld Z h a "com/example/tags_to_grants/tagstogrants/policy/Policy$Cell" "subject" "Ljava/lang/String;" v1 ∧ Fld Z h a "com/example/tags_to_grants/tagstogrants/policy/Policy$Cell" "operation" "Ljava/lang/String;" v2 ∧ Fld Z h a "com/example/tags_to_grants/tagstogrants/policy/Policy$Cell" "object" "Ljava/lang/String;" v3) ({ frames := 2, cells := 0, slots := 0, locals := 26 } : Room).cells ({ frames := 2, cells := 0, slots := 0, locals := 26 } : Room).slots)
  have Fw67 := F_subject.same W67
  have Nf67 := Fr.snoc X67 Nc66 ga
  have sz67 : n0 ≤ h67.size := by rw [W67.size]; exact Z0
  refine OGo.step (fun _ kk => XS.aloadN X67.here hx rfl (hb hby own_d_prog_64_method_1_code_9) rfl rfl kk) ?_
  show OGo p e below (T67.setTop (mkF m 10 #[.val (.ref a), .val v1, .val v2, .val v3] [(.ref a)])) (OEnd s (fun v h L => v = none ∧ Fr n0 L ∧ Keep h0 h [a] ∧ Exa Z h a "com/example/tags_to_grants/tagstogrants/policy/Policy$Cell" ∧ Fld Z h a "com/example/tags_to_grants/tagstogrants/policy/Policy$Cell" "subject" "Ljava/lang/String;" v1 ∧ Fld Z h a "com/example/tags_to_grants/tagstogrants/policy/Policy$Cell" "operation" "Ljava/lang/String;" v2 ∧ Fld Z h a "com/example/tags_to_grants/tagstogrants/policy/Policy$Cell" "object" "Ljava/lang/String;" v3) ({ frames := 2, cells := 0, slots := 0, locals := 26 } : Room).cells ({ frames := 2, cells := 0, slots := 0, locals := 26 } : Room).slots)
  refine OGo.step (fun _ kk => XS.aloadN X67.here hx rfl (hb hby own_d_prog_64_method_1_code_10) rfl hv2 kk) ?_
  show OGo p e below (T67.setTop (mkF m 11 #[.val (.ref a), .val v1, .val v2, .val v3] [v2, (.ref a)])) (OEnd s (fun v h L => v = none ∧ Fr n0 L ∧ Keep h0 h [a] ∧ Exa Z h a "com/example/tags_to_grants/tagstogrants/policy/Policy$Cell" ∧ Fld Z h a "com/example/tags_to_grants/tagstogrants/policy/Policy$Cell" "subject" "Ljava/lang/String;" v1 ∧ Fld Z h a "com/example/tags_to_grants/tagstogrants/policy/Policy$Cell" "operation" "Ljava/lang/String;" v2 ∧ Fld Z h a "com/example/tags_to_grants/tagstogrants/policy/Policy$Cell" "object" "Ljava/lang/String;" v3) ({ frames := 2, cells := 0, slots := 0, locals := 26 } : Room).cells ({ frames := 2, cells := 0, slots := 0, locals := 26 } : Room).slots)
  have fc68 := (F_operation.other W67 (Or.inr (slot_ne (Or.inr (hw _ (List.mem_of_getElem? (i := 52) rfl))) (Or.inr (hw _ (List.mem_of_getElem? (i := 50) rfl))) (by decide) (t := (.object "java/lang/String")) (t' := (.object "java/lang/String")) (by decide) (by decide))))
  have fc69 := (E1.wr W67)
  obtain ⟨T70, h70, X70, e70, W70, st70⟩ := putF X67 hx hZ hown (host := "") (Or.inl (hw _ (List.mem_of_getElem? (i := 51) rfl))) Via.refl e67 fc68 fc69 (Or.inr ⟨(hw _ (List.mem_of_getElem? (i := 52) rfl)), rfl, hnm⟩) (hw _ (List.mem_of_getElem? (i := 38) rfl)) (ty := (.object "java/lang/String")) (by decide) (own_narR hv2) (own_fitR hv2) (g := (mkF m 11 #[.val (.ref a), .val v1, .val v2, .val v3] [v2, (.ref a)])) rfl rfl (hb hby own_d_prog_64_method_1_code_11)
  refine OGo.step st70 ?_
  show OGo p e below (T70.setTop (mkF m 14 #[.val (.ref a), .val v1, .val v2, .val v3] [])) (OEnd s (fun v h L => v = none ∧ Fr n0 L ∧ Keep h0 h [a] ∧ Exa Z h a "com/example/tags_to_grants/tagstogrants/policy/Policy$Cell" ∧ Fld Z h a "com/example/tags_to_grants/tagstogrants/policy/Policy$Cell" "subject" "Ljava/lang/String;" v1 ∧ Fld Z h a "com/example/tags_to_grants/tagstogrants/policy/Policy$Cell" "operation" "Ljava/lang/String;" v2 ∧ Fld Z h a "com/example/tags_to_grants/tagstogrants/policy/Policy$Cell" "object" "Ljava/lang/String;" v3) ({ frames := 2, cells := 0, slots := 0, locals := 26 } : Room).cells ({ frames := 2, cells := 0, slots := 0, locals := 26 } : Room).slots)
  have Fw70 := fc68.same W70
  have Nf70 := Fr.snoc X70 Nf67 ga
  have sz70 : n0 ≤ h70.size := by rw [W70.size]; exact sz67
  refine OGo.step (fun _ kk => XS.aloadN X70.here hx rfl (hb hby own_d_prog_64_method_1_code_14) rfl rfl kk) ?_
  show OGo p e below (T70.setTop (mkF m 15 #[.val (.ref a), .val v1, .val v2, .val v3] [(.ref a)])) (OEnd s (fun v h L => v = none ∧ Fr n0 L ∧ Keep h0 h [a] ∧ Exa Z h a "com/example/tags_to_grants/tagstogrants/policy/Policy$Cell" ∧ Fld Z h a "com/example/tags_to_grants/tagstogrants/policy/Policy$Cell" "subject" "Ljava/lang/String;" v1 ∧ Fld Z h a "com/example/tags_to_grants/tagstogrants/policy/Policy$Cell" "operation" "Ljava/lang/String;" v2 ∧ Fld Z h a "com/example/tags_to_grants/tagstogrants/policy/Policy$Cell" "object" "Ljava/lang/String;" v3) ({ frames := 2, cells := 0, slots := 0, locals := 26 } : Room).cells ({ frames := 2, cells := 0, slots := 0, locals := 26 } : Room).slots)
  refine OGo.step (fun _ kk => XS.aloadN X70.here hx rfl (hb hby own_d_prog_64_method_1_code_15) rfl hv3 kk) ?_
  show OGo p e below (T70.setTop (mkF m 16 #[.val (.ref a), .val v1, .val v2, .val v3] [v3, (.ref a)])) (OEnd s (fun v h L => v = none ∧ Fr n0 L ∧ Keep h0 h [a] ∧ Exa Z h a "com/example/tags_to_grants/tagstogrants/policy/Policy$Cell" ∧ Fld Z h a "com/example/tags_to_grants/tagstogrants/policy/Policy$Cell" "subject" "Ljava/lang/String;" v1 ∧ Fld Z h a "com/example/tags_to_grants/tagstogrants/policy/Policy$Cell" "operation" "Ljava/lang/String;" v2 ∧ Fld Z h a "com/example/tags_to_grants/tagstogrants/policy/Policy$Cell" "object" "Ljava/lang/String;" v3) ({ frames := 2, cells := 0, slots := 0, locals := 26 } : Room).cells ({ frames := 2, cells := 0, slots := 0, locals := 26 } : Room).slots)
  have fc71 := ((F_object.other W67 (Or.inr (slot_ne (Or.inr (hw _ (List.mem_of_getElem? (i := 54) rfl))) (Or.inr (hw _ (List.mem_of_getElem? (i := 50) rfl))) (by decide) (t := (.object "java/lang/String")) (t' := (.object "java/lang/String")) (by decide) (by decide)))).other W70 (Or.inr (slot_ne (Or.inr (hw _ (List.mem_of_getElem? (i := 54) rfl))) (Or.inr (hw _ (List.mem_of_getElem? (i := 52) rfl))) (by decide) (t := (.object "java/lang/String")) (t' := (.object "java/lang/String")) (by decide) (by decide))))
  have fc72 := (fc69.wr W70)
  obtain ⟨T73, h73, X73, e73, W73, st73⟩ := putF X70 hx hZ hown (host := "") (Or.inl (hw _ (List.mem_of_getElem? (i := 53) rfl))) Via.refl e70 fc71 fc72 (Or.inr ⟨(hw _ (List.mem_of_getElem? (i := 54) rfl)), rfl, hnm⟩) (hw _ (List.mem_of_getElem? (i := 38) rfl)) (ty := (.object "java/lang/String")) (by decide) (own_narR hv3) (own_fitR hv3) (g := (mkF m 16 #[.val (.ref a), .val v1, .val v2, .val v3] [v3, (.ref a)])) rfl rfl (hb hby own_d_prog_64_method_1_code_16)
  refine OGo.step st73 ?_
  show OGo p e below (T73.setTop (mkF m 19 #[.val (.ref a), .val v1, .val v2, .val v3] [])) (OEnd s (fun v h L => v = none ∧ Fr n0 L ∧ Keep h0 h [a] ∧ Exa Z h a "com/example/tags_to_grants/tagstogrants/policy/Policy$Cell" ∧ Fld Z h a "com/example/tags_to_grants/tagstogrants/policy/Policy$Cell" "subject" "Ljava/lang/String;" v1 ∧ Fld Z h a "com/example/tags_to_grants/tagstogrants/policy/Policy$Cell" "operation" "Ljava/lang/String;" v2 ∧ Fld Z h a "com/example/tags_to_grants/tagstogrants/policy/Policy$Cell" "object" "Ljava/lang/String;" v3) ({ frames := 2, cells := 0, slots := 0, locals := 26 } : Room).cells ({ frames := 2, cells := 0, slots := 0, locals := 26 } : Room).slots)
  have Fw73 := fc71.same W73
  have Nf73 := Fr.snoc X73 Nf70 ga
  have sz73 : n0 ≤ h73.size := by rw [W73.size]; exact sz70
  have fc74 := (fc72.wr W73)
  have fc75 := ((Fw67.other W70 (Or.inr (slot_ne (Or.inr (hw _ (List.mem_of_getElem? (i := 50) rfl))) (Or.inr (hw _ (List.mem_of_getElem? (i := 52) rfl))) (by decide) (t := (.object "java/lang/String")) (t' := (.object "java/lang/String")) (by decide) (by decide)))).other W73 (Or.inr (slot_ne (Or.inr (hw _ (List.mem_of_getElem? (i := 50) rfl))) (Or.inr (hw _ (List.mem_of_getElem? (i := 54) rfl))) (by decide) (t := (.object "java/lang/String")) (t' := (.object "java/lang/String")) (by decide) (by decide))))
  have fc76 := (Fw70.other W73 (Or.inr (slot_ne (Or.inr (hw _ (List.mem_of_getElem? (i := 52) rfl))) (Or.inr (hw _ (List.mem_of_getElem? (i := 54) rfl))) (by decide) (t := (.object "java/lang/String")) (t' := (.object "java/lang/String")) (by decide) (by decide))))
  have HK := ((((Keep.refl h0 [a]).wr W67 (Or.inl (List.mem_of_getElem? (i := 0) rfl))).wr W70 (Or.inl (List.mem_of_getElem? (i := 0) rfl))).wr W73 (Or.inl (List.mem_of_getElem? (i := 0) rfl)))
  exact own_ret0 X73 hx hlk hret (hb hby own_d_prog_64_method_1_code_19) (by rw [e73]; exact ⟨rfl, Nf73, HK, fc74, fc75, fc76, Fw73⟩) (by decide) (by decide)

set_option maxRecDepth 65536 in
set_option maxHeartbeats 40000000 in
theorem own_sameNN (l : Launch) (Z : State) (a0 : Array Value) (hw : ∀ d ∈ tables_1, d.before a0 Z = true) (ws : List Jvm.Cond) (zc : Int32)  (h0 : Heap) (n0 : Nat) (Z0 : n0 ≤ h0.size) (SC : Sta Z h0 "java/lang/String" "COMPACT_STRINGS" "Z" (.int zc)) (hzc : ¬ zc = 0)  :
    OMet l Z (⟨"com/example/tags_to_grants/tagstogrants/policy/CellEqualsPinLaw", "same", "(Ljava/lang/String;Ljava/lang/String;)Z"⟩ : MethodName) method_3_code 2 (some .boolean) ws ({ frames := 2, cells := 0, slots := 0, locals := 28 } : Room) #[.null, .null] h0 (fun v h L => v = some (.int (if (none : Option (List Int32)) = none then (1 : Int32) else 0)) ∧ Fr n0 L ∧ h = h0) := by
  refine OMet.body (plainFor_of_name own_pn0) ?_
  intro p e s m below meth c s₁ hx hby hml hown hnm hret hlk hZ X0 e0
  refine OGo.step (fun _ kk => castTop (show entryFrame m #[.null, .null] 2 = (mkF m 0 #[.val .null, .val .null] []) from by first | (simp [entryFrame, mkF, argsToLocals, Value.category]; done) | rfl) kk) ?_
  show OGo p e below (s₁.setTop (mkF m 0 #[.val .null, .val .null] [])) (OEnd s (fun v h L => v = some (.int (if (none : Option (List Int32)) = none then (1 : Int32) else 0)) ∧ Fr n0 L ∧ h = h0) ({ frames := 2, cells := 0, slots := 0, locals := 28 } : Room).cells ({ frames := 2, cells := 0, slots := 0, locals := 28 } : Room).slots)
  refine OGo.step (fun _ kk => XS.aloadN X0.here hx rfl (hb hby own_d_method_3_code_0) rfl rfl kk) ?_
  show OGo p e below (s₁.setTop (mkF m 1 #[.val .null, .val .null] [.null])) (OEnd s (fun v h L => v = some (.int (if (none : Option (List Int32)) = none then (1 : Int32) else 0)) ∧ Fr n0 L ∧ h = h0) ({ frames := 2, cells := 0, slots := 0, locals := 28 } : Room).cells ({ frames := 2, cells := 0, slots := 0, locals := 28 } : Room).slots)
  refine OGo.step (fun _ kk => XS.ifnonnullNo X0.here hx rfl (hb hby own_d_method_3_code_1) rfl kk) ?_
  show OGo p e below (s₁.setTop (mkF m 4 #[.val .null, .val .null] [])) (OEnd s (fun v h L => v = some (.int (if (none : Option (List Int32)) = none then (1 : Int32) else 0)) ∧ Fr n0 L ∧ h = h0) ({ frames := 2, cells := 0, slots := 0, locals := 28 } : Room).cells ({ frames := 2, cells := 0, slots := 0, locals := 28 } : Room).slots)
  refine OGo.step (fun _ kk => XS.aloadN X0.here hx rfl (hb hby own_d_method_3_code_4) rfl rfl kk) ?_
  show OGo p e below (s₁.setTop (mkF m 5 #[.val .null, .val .null] [.null])) (OEnd s (fun v h L => v = some (.int (if (none : Option (List Int32)) = none then (1 : Int32) else 0)) ∧ Fr n0 L ∧ h = h0) ({ frames := 2, cells := 0, slots := 0, locals := 28 } : Room).cells ({ frames := 2, cells := 0, slots := 0, locals := 28 } : Room).slots)
  refine OGo.step (fun _ kk => XS.ifnonnullNo X0.here hx rfl (hb hby own_d_method_3_code_5) rfl kk) ?_
  show OGo p e below (s₁.setTop (mkF m 8 #[.val .null, .val .null] [])) (OEnd s (fun v h L => v = some (.int (if (none : Option (List Int32)) = none then (1 : Int32) else 0)) ∧ Fr n0 L ∧ h = h0) ({ frames := 2, cells := 0, slots := 0, locals := 28 } : Room).cells ({ frames := 2, cells := 0, slots := 0, locals := 28 } : Room).slots)
  refine OGo.step (fun _ kk => XS.iconst X0.here hx rfl (hb hby own_d_method_3_code_8) kk) ?_
  show OGo p e below (s₁.setTop (mkF m 9 #[.val .null, .val .null] [(.int (1 : Int32))])) (OEnd s (fun v h L => v = some (.int (if (none : Option (List Int32)) = none then (1 : Int32) else 0)) ∧ Fr n0 L ∧ h = h0) ({ frames := 2, cells := 0, slots := 0, locals := 28 } : Room).cells ({ frames := 2, cells := 0, slots := 0, locals := 28 } : Room).slots)
  refine OGo.step (fun _ kk => XS.goto X0.here hx rfl (pc0 := 9) (pc' := 13) rfl (hb hby own_d_method_3_code_9) (by decide) (by decide) kk) ?_
  show OGo p e below (s₁.setTop (mkF m 13 #[.val .null, .val .null] [(.int (1 : Int32))])) (OEnd s (fun v h L => v = some (.int (if (none : Option (List Int32)) = none then (1 : Int32) else 0)) ∧ Fr n0 L ∧ h = h0) ({ frames := 2, cells := 0, slots := 0, locals := 28 } : Room).cells ({ frames := 2, cells := 0, slots := 0, locals := 28 } : Room).slots)
  exact own_retN X0 hx hlk hret (by simp) (hb hby own_d_method_3_code_13) ⟨by rw [if_pos rfl, own_nar1], Fr.nil n0, e0⟩ (by decide) (by decide)

set_option maxRecDepth 65536 in
set_option maxHeartbeats 40000000 in
theorem own_sameNS (l : Launch) (Z : State) (a0 : Array Value) (hw : ∀ d ∈ tables_1, d.before a0 Z = true) (ws : List Jvm.Cond) (zc : Int32) (y : Addr) (ds : List Int32) (h0 : Heap) (n0 : Nat) (Z0 : n0 ≤ h0.size) (SC : Sta Z h0 "java/lang/String" "COMPACT_STRINGS" "Z" (.int zc)) (hzc : ¬ zc = 0) (F2 : OStr Z h0 y ds) :
    OMet l Z (⟨"com/example/tags_to_grants/tagstogrants/policy/CellEqualsPinLaw", "same", "(Ljava/lang/String;Ljava/lang/String;)Z"⟩ : MethodName) method_3_code 2 (some .boolean) ws ({ frames := 2, cells := 0, slots := 0, locals := 28 } : Room) #[.null, (.ref y)] h0 (fun v h L => v = some (.int (if (none : Option (List Int32)) = some ds then (1 : Int32) else 0)) ∧ Fr n0 L ∧ h = h0) := by
  refine OMet.body (plainFor_of_name own_pn0) ?_
  intro p e s m below meth c s₁ hx hby hml hown hnm hret hlk hZ X0 e0
  refine OGo.step (fun _ kk => castTop (show entryFrame m #[.null, (.ref y)] 2 = (mkF m 0 #[.val .null, .val (.ref y)] []) from by first | (simp [entryFrame, mkF, argsToLocals, Value.category]; done) | rfl) kk) ?_
  show OGo p e below (s₁.setTop (mkF m 0 #[.val .null, .val (.ref y)] [])) (OEnd s (fun v h L => v = some (.int (if (none : Option (List Int32)) = some ds then (1 : Int32) else 0)) ∧ Fr n0 L ∧ h = h0) ({ frames := 2, cells := 0, slots := 0, locals := 28 } : Room).cells ({ frames := 2, cells := 0, slots := 0, locals := 28 } : Room).slots)
  refine OGo.step (fun _ kk => XS.aloadN X0.here hx rfl (hb hby own_d_method_3_code_0) rfl rfl kk) ?_
  show OGo p e below (s₁.setTop (mkF m 1 #[.val .null, .val (.ref y)] [.null])) (OEnd s (fun v h L => v = some (.int (if (none : Option (List Int32)) = some ds then (1 : Int32) else 0)) ∧ Fr n0 L ∧ h = h0) ({ frames := 2, cells := 0, slots := 0, locals := 28 } : Room).cells ({ frames := 2, cells := 0, slots := 0, locals := 28 } : Room).slots)
  refine OGo.step (fun _ kk => XS.ifnonnullNo X0.here hx rfl (hb hby own_d_method_3_code_1) rfl kk) ?_
  show OGo p e below (s₁.setTop (mkF m 4 #[.val .null, .val (.ref y)] [])) (OEnd s (fun v h L => v = some (.int (if (none : Option (List Int32)) = some ds then (1 : Int32) else 0)) ∧ Fr n0 L ∧ h = h0) ({ frames := 2, cells := 0, slots := 0, locals := 28 } : Room).cells ({ frames := 2, cells := 0, slots := 0, locals := 28 } : Room).slots)
  refine OGo.step (fun _ kk => XS.aloadN X0.here hx rfl (hb hby own_d_method_3_code_4) rfl rfl kk) ?_
  show OGo p e below (s₁.setTop (mkF m 5 #[.val .null, .val (.ref y)] [(.ref y)])) (OEnd s (fun v h L => v = some (.int (if (none : Option (List Int32)) = some ds then (1 : Int32) else 0)) ∧ Fr n0 L ∧ h = h0) ({ frames := 2, cells := 0, slots := 0, locals := 28 } : Room).cells ({ frames := 2, cells := 0, slots := 0, locals := 28 } : Room).slots)
  refine OGo.step (fun _ kk => XS.ifnonnullYes X0.here hx rfl (pc0 := 5) (pc' := 12) rfl (hb hby own_d_method_3_code_5) rfl (by decide) (by decide) kk) ?_
  show OGo p e below (s₁.setTop (mkF m 12 #[.val .null, .val (.ref y)] [])) (OEnd s (fun v h L => v = some (.int (if (none : Option (List Int32)) = some ds then (1 : Int32) else 0)) ∧ Fr n0 L ∧ h = h0) ({ frames := 2, cells := 0, slots := 0, locals := 28 } : Room).cells ({ frames := 2, cells := 0, slots := 0, locals := 28 } : Room).slots)
  refine OGo.step (fun _ kk => XS.iconst X0.here hx rfl (hb hby own_d_method_3_code_12) kk) ?_
  show OGo p e below (s₁.setTop (mkF m 13 #[.val .null, .val (.ref y)] [(.int (0 : Int32))])) (OEnd s (fun v h L => v = some (.int (if (none : Option (List Int32)) = some ds then (1 : Int32) else 0)) ∧ Fr n0 L ∧ h = h0) ({ frames := 2, cells := 0, slots := 0, locals := 28 } : Room).cells ({ frames := 2, cells := 0, slots := 0, locals := 28 } : Room).slots)
  exact own_retN X0 hx hlk hret (by simp) (hb hby own_d_method_3_code_13) ⟨by rw [if_neg (fun z => by cases z), own_nar0], Fr.nil n0, e0⟩ (by decide) (by decide)

set_option maxRecDepth 65536 in
set_option maxHeartbeats 40000000 in
theorem own_sameSN (l : Launch) (Z : State) (a0 : Array Value) (hw : ∀ d ∈ tables_1, d.before a0 Z = true) (ws : List Jvm.Cond) (zc : Int32) (x : Addr) (cs : List Int32) (h0 : Heap) (n0 : Nat) (Z0 : n0 ≤ h0.size) (SC : Sta Z h0 "java/lang/String" "COMPACT_STRINGS" "Z" (.int zc)) (hzc : ¬ zc = 0) (F1 : OStr Z h0 x cs) :
    OMet l Z (⟨"com/example/tags_to_grants/tagstogrants/policy/CellEqualsPinLaw", "same", "(Ljava/lang/String;Ljava/lang/String;)Z"⟩ : MethodName) method_3_code 2 (some .boolean) ws ({ frames := 2, cells := 0, slots := 0, locals := 28 } : Room) #[(.ref x), .null] h0 (fun v h L => v = some (.int (if (some cs : Option (List Int32)) = none then (1 : Int32) else 0)) ∧ Fr n0 L ∧ h = h0) := by
  refine OMet.body (plainFor_of_name own_pn0) ?_
  intro p e s m below meth c s₁ hx hby hml hown hnm hret hlk hZ X0 e0
  refine OGo.step (fun _ kk => castTop (show entryFrame m #[(.ref x), .null] 2 = (mkF m 0 #[.val (.ref x), .val .null] []) from by first | (simp [entryFrame, mkF, argsToLocals, Value.category]; done) | rfl) kk) ?_
  show OGo p e below (s₁.setTop (mkF m 0 #[.val (.ref x), .val .null] [])) (OEnd s (fun v h L => v = some (.int (if (some cs : Option (List Int32)) = none then (1 : Int32) else 0)) ∧ Fr n0 L ∧ h = h0) ({ frames := 2, cells := 0, slots := 0, locals := 28 } : Room).cells ({ frames := 2, cells := 0, slots := 0, locals := 28 } : Room).slots)
  refine OGo.step (fun _ kk => XS.aloadN X0.here hx rfl (hb hby own_d_method_3_code_0) rfl rfl kk) ?_
  show OGo p e below (s₁.setTop (mkF m 1 #[.val (.ref x), .val .null] [(.ref x)])) (OEnd s (fun v h L => v = some (.int (if (some cs : Option (List Int32)) = none then (1 : Int32) else 0)) ∧ Fr n0 L ∧ h = h0) ({ frames := 2, cells := 0, slots := 0, locals := 28 } : Room).cells ({ frames := 2, cells := 0, slots := 0, locals := 28 } : Room).slots)
  refine OGo.step (fun _ kk => XS.ifnonnullYes X0.here hx rfl (pc0 := 1) (pc' := 14) rfl (hb hby own_d_method_3_code_1) rfl (by decide) (by decide) kk) ?_
  show OGo p e below (s₁.setTop (mkF m 14 #[.val (.ref x), .val .null] [])) (OEnd s (fun v h L => v = some (.int (if (some cs : Option (List Int32)) = none then (1 : Int32) else 0)) ∧ Fr n0 L ∧ h = h0) ({ frames := 2, cells := 0, slots := 0, locals := 28 } : Room).cells ({ frames := 2, cells := 0, slots := 0, locals := 28 } : Room).slots)
  refine OGo.step (fun _ kk => XS.aloadN X0.here hx rfl (hb hby own_d_method_3_code_14) rfl rfl kk) ?_
  show OGo p e below (s₁.setTop (mkF m 15 #[.val (.ref x), .val .null] [.null])) (OEnd s (fun v h L => v = some (.int (if (some cs : Option (List Int32)) = none then (1 : Int32) else 0)) ∧ Fr n0 L ∧ h = h0) ({ frames := 2, cells := 0, slots := 0, locals := 28 } : Room).cells ({ frames := 2, cells := 0, slots := 0, locals := 28 } : Room).slots)
  refine OGo.step (fun _ kk => XS.ifnonnullNo X0.here hx rfl (hb hby own_d_method_3_code_15) rfl kk) ?_
  show OGo p e below (s₁.setTop (mkF m 18 #[.val (.ref x), .val .null] [])) (OEnd s (fun v h L => v = some (.int (if (some cs : Option (List Int32)) = none then (1 : Int32) else 0)) ∧ Fr n0 L ∧ h = h0) ({ frames := 2, cells := 0, slots := 0, locals := 28 } : Room).cells ({ frames := 2, cells := 0, slots := 0, locals := 28 } : Room).slots)
  refine OGo.step (fun _ kk => XS.iconst X0.here hx rfl (hb hby own_d_method_3_code_18) kk) ?_
  show OGo p e below (s₁.setTop (mkF m 19 #[.val (.ref x), .val .null] [(.int (0 : Int32))])) (OEnd s (fun v h L => v = some (.int (if (some cs : Option (List Int32)) = none then (1 : Int32) else 0)) ∧ Fr n0 L ∧ h = h0) ({ frames := 2, cells := 0, slots := 0, locals := 28 } : Room).cells ({ frames := 2, cells := 0, slots := 0, locals := 28 } : Room).slots)
  exact own_retN X0 hx hlk hret (by simp) (hb hby own_d_method_3_code_19) ⟨by rw [if_neg (fun z => by cases z), own_nar0], Fr.nil n0, e0⟩ (by decide) (by decide)

set_option maxRecDepth 65536 in
set_option maxHeartbeats 40000000 in
theorem own_sameSS (l : Launch) (Z : State) (a0 : Array Value) (hw : ∀ d ∈ tables_1, d.before a0 Z = true) (ws : List Jvm.Cond) (zc : Int32) (x y : Addr) (cs ds : List Int32) (h0 : Heap) (n0 : Nat) (Z0 : n0 ≤ h0.size) (SC : Sta Z h0 "java/lang/String" "COMPACT_STRINGS" "Z" (.int zc)) (hzc : ¬ zc = 0) (F1 : OStr Z h0 x cs) (F2 : OStr Z h0 y ds) :
    OMet l Z (⟨"com/example/tags_to_grants/tagstogrants/policy/CellEqualsPinLaw", "same", "(Ljava/lang/String;Ljava/lang/String;)Z"⟩ : MethodName) method_3_code 2 (some .boolean) ws ({ frames := 2, cells := 0, slots := 0, locals := 28 } : Room) #[(.ref x), (.ref y)] h0 (fun v h L => v = some (.int (if (some cs : Option (List Int32)) = some ds then (1 : Int32) else 0)) ∧ Fr n0 L ∧ h = h0) := by
  refine OMet.body (plainFor_of_name own_pn0) ?_
  intro p e s m below meth c s₁ hx hby hml hown hnm hret hlk hZ X0 e0
  refine OGo.step (fun _ kk => castTop (show entryFrame m #[(.ref x), (.ref y)] 2 = (mkF m 0 #[.val (.ref x), .val (.ref y)] []) from by first | (simp [entryFrame, mkF, argsToLocals, Value.category]; done) | rfl) kk) ?_
  show OGo p e below (s₁.setTop (mkF m 0 #[.val (.ref x), .val (.ref y)] [])) (OEnd s (fun v h L => v = some (.int (if (some cs : Option (List Int32)) = some ds then (1 : Int32) else 0)) ∧ Fr n0 L ∧ h = h0) ({ frames := 2, cells := 0, slots := 0, locals := 28 } : Room).cells ({ frames := 2, cells := 0, slots := 0, locals := 28 } : Room).slots)
  refine OGo.step (fun _ kk => XS.aloadN X0.here hx rfl (hb hby own_d_method_3_code_0) rfl rfl kk) ?_
  show OGo p e below (s₁.setTop (mkF m 1 #[.val (.ref x), .val (.ref y)] [(.ref x)])) (OEnd s (fun v h L => v = some (.int (if (some cs : Option (List Int32)) = some ds then (1 : Int32) else 0)) ∧ Fr n0 L ∧ h = h0) ({ frames := 2, cells := 0, slots := 0, locals := 28 } : Room).cells ({ frames := 2, cells := 0, slots := 0, locals := 28 } : Room).slots)
  refine OGo.step (fun _ kk => XS.ifnonnullYes X0.here hx rfl (pc0 := 1) (pc' := 14) rfl (hb hby own_d_method_3_code_1) rfl (by decide) (by decide) kk) ?_
  show OGo p e below (s₁.setTop (mkF m 14 #[.val (.ref x), .val (.ref y)] [])) (OEnd s (fun v h L => v = some (.int (if (some cs : Option (List Int32)) = some ds then (1 : Int32) else 0)) ∧ Fr n0 L ∧ h = h0) ({ frames := 2, cells := 0, slots := 0, locals := 28 } : Room).cells ({ frames := 2, cells := 0, slots := 0, locals := 28 } : Room).slots)
  refine OGo.step (fun _ kk => XS.aloadN X0.here hx rfl (hb hby own_d_method_3_code_14) rfl rfl kk) ?_
  show OGo p e below (s₁.setTop (mkF m 15 #[.val (.ref x), .val (.ref y)] [(.ref y)])) (OEnd s (fun v h L => v = some (.int (if (some cs : Option (List Int32)) = some ds then (1 : Int32) else 0)) ∧ Fr n0 L ∧ h = h0) ({ frames := 2, cells := 0, slots := 0, locals := 28 } : Room).cells ({ frames := 2, cells := 0, slots := 0, locals := 28 } : Room).slots)
  refine OGo.step (fun _ kk => XS.ifnonnullYes X0.here hx rfl (pc0 := 15) (pc' := 20) rfl (hb hby own_d_method_3_code_15) rfl (by decide) (by decide) kk) ?_
  show OGo p e below (s₁.setTop (mkF m 20 #[.val (.ref x), .val (.ref y)] [])) (OEnd s (fun v h L => v = some (.int (if (some cs : Option (List Int32)) = some ds then (1 : Int32) else 0)) ∧ Fr n0 L ∧ h = h0) ({ frames := 2, cells := 0, slots := 0, locals := 28 } : Room).cells ({ frames := 2, cells := 0, slots := 0, locals := 28 } : Room).slots)
  refine OGo.step (fun _ kk => XS.aloadN X0.here hx rfl (hb hby own_d_method_3_code_20) rfl rfl kk) ?_
  show OGo p e below (s₁.setTop (mkF m 21 #[.val (.ref x), .val (.ref y)] [(.ref x)])) (OEnd s (fun v h L => v = some (.int (if (some cs : Option (List Int32)) = some ds then (1 : Int32) else 0)) ∧ Fr n0 L ∧ h = h0) ({ frames := 2, cells := 0, slots := 0, locals := 28 } : Room).cells ({ frames := 2, cells := 0, slots := 0, locals := 28 } : Room).slots)
  refine OGo.step (fun _ kk => XS.aloadN X0.here hx rfl (hb hby own_d_method_3_code_21) rfl rfl kk) ?_
  show OGo p e below (s₁.setTop (mkF m 22 #[.val (.ref x), .val (.ref y)] [(.ref y), (.ref x)])) (OEnd s (fun v h L => v = some (.int (if (some cs : Option (List Int32)) = some ds then (1 : Int32) else 0)) ∧ Fr n0 L ∧ h = h0) ({ frames := 2, cells := 0, slots := 0, locals := 28 } : Room).cells ({ frames := 2, cells := 0, slots := 0, locals := 28 } : Room).slots)
  refine own_virtualK X0 hx hZ (y := (⟨"java/lang/String", "equals", "(Ljava/lang/Object;)Z"⟩ : MethodName)) (z := (⟨"java/lang/String", "equals", "(Ljava/lang/Object;)Z"⟩ : MethodName)) hown (hw _ (List.mem_of_getElem? (i := 77) rfl)) (hw _ (List.mem_of_getElem? (i := 78) rfl)) (notFace_of_selects (args := #[]) (mvT hZ (hw _ (List.mem_of_getElem? (i := 79) rfl)))) (hw _ (List.mem_of_getElem? (i := 79) rfl)) (hw _ (List.mem_of_getElem? (i := 73) rfl)) (by decide) (b := x) F1.exa (W := 0) (own_seq (W := 0) hZ (fun d hd => hw d ((by decide +kernel : ∀ d ∈ StrChars.Road.wordsEq, d ∈ tables_1) d hd)) (kI := 4) (hw _ (List.mem_of_getElem? (i := 5) rfl)) F1 F2 SC hzc n0 (by decide) (by decide)) e0 (pc := 22) (Ls := #[.val (.ref x), .val (.ref y)]) (argsL := [(.ref y)]) (rest := []) (by rw [hml]; rfl) (lenOf own_pd2 rfl) rfl (hb hby own_d_method_3_code_22) (by decide) (by decide) ?_
  intro v77 T77 L77 X77 hQ77
  obtain ⟨rfl, N77, e77⟩ := hQ77
  show OGo p e below (T77.setTop (mkF m 25 #[.val (.ref x), .val (.ref y)] [(.int (if cs = ds then (1 : Int32) else 0))])) (OEnd s (fun v h L => v = some (.int (if (some cs : Option (List Int32)) = some ds then (1 : Int32) else 0)) ∧ Fr n0 L ∧ h = h0) ({ frames := 2, cells := 0, slots := 0, locals := 28 } : Room).cells ({ frames := 2, cells := 0, slots := 0, locals := 28 } : Room).slots)
  exact own_retN X77 hx hlk hret (by simp) (hb hby own_d_method_3_code_25) ⟨by rw [own_narB]; simp only [Option.some.injEq], Fr.app (Fr.nil n0) N77, e77⟩ (by decide) (by decide)

theorem own_same (l : Launch) (Z : State) (a0 : Array Value) (hw : ∀ d ∈ tables_1, d.before a0 Z = true) (ws : List Jvm.Cond) (zc : Int32) (v w : Value) (o o' : Option (List Int32)) (h0 : Heap) (n0 : Nat) (Z0 : n0 ≤ h0.size) (SC : Sta Z h0 "java/lang/String" "COMPACT_STRINGS" "Z" (.int zc)) (hzc : ¬ zc = 0) (F : OSv Z h0 v o) (G : OSv Z h0 w o')  :
    OMet l Z (⟨"com/example/tags_to_grants/tagstogrants/policy/CellEqualsPinLaw", "same", "(Ljava/lang/String;Ljava/lang/String;)Z"⟩ : MethodName) method_3_code 2 (some .boolean) ws ({ frames := 2, cells := 0, slots := 0, locals := 28 } : Room) #[v, w] h0 (fun v h L => v = some (.int (if (o : Option (List Int32)) = o' then (1 : Int32) else 0)) ∧ Fr n0 L ∧ h = h0) := by
  rcases F with ⟨rfl, rfl⟩ | ⟨x, cs, rfl, rfl, F⟩
  · rcases G with ⟨rfl, rfl⟩ | ⟨y, ds, rfl, rfl, G⟩
    · exact own_sameNN l Z a0 hw ws zc h0 n0 Z0 SC hzc
    · exact own_sameNS l Z a0 hw ws zc y ds h0 n0 Z0 SC hzc G
  · rcases G with ⟨rfl, rfl⟩ | ⟨y, ds, rfl, rfl, G⟩
    · exact own_sameSN l Z a0 hw ws zc x cs h0 n0 Z0 SC hzc F
    · exact own_sameSS l Z a0 hw ws zc x y cs ds h0 n0 Z0 SC hzc F G

set_option maxRecDepth 65536 in
set_option maxHeartbeats 40000000 in
theorem own_seqN (l : Launch) (Z : State) (a0 : Array Value) (hw : ∀ d ∈ tables_1, d.before a0 Z = true) (ws : List Jvm.Cond) (x : Addr) (h0 : Heap) (n0 : Nat) (Z0 : n0 ≤ h0.size)  :
    OMet l Z (⟨"java/lang/String", "equals", "(Ljava/lang/Object;)Z"⟩ : MethodName) jdk_42_method_66_code 3 (some .boolean) ws ({ frames := 0, cells := 0, slots := 0, locals := 0 } : Room) #[(.ref x), .null] h0 (fun v h L => v = some (.int (0 : Int32)) ∧ Fr n0 L ∧ h = h0) := by
  refine OMet.body (plainFor_of_name own_pn3) ?_
  intro p e s m below meth c s₁ hx hby hml hown hnm hret hlk hZ X0 e0
  refine OGo.step (fun _ kk => castTop (show entryFrame m #[(.ref x), .null] 3 = (mkF m 0 #[.val (.ref x), .val .null, .unset] []) from by first | (simp [entryFrame, mkF, argsToLocals, Value.category]; done) | rfl) kk) ?_
  show OGo p e below (s₁.setTop (mkF m 0 #[.val (.ref x), .val .null, .unset] [])) (OEnd s (fun v h L => v = some (.int (0 : Int32)) ∧ Fr n0 L ∧ h = h0) ({ frames := 0, cells := 0, slots := 0, locals := 0 } : Room).cells ({ frames := 0, cells := 0, slots := 0, locals := 0 } : Room).slots)
  refine OGo.step (fun _ kk => XS.aloadN X0.here hx rfl (hb hby own_d_jdk_42_method_66_code_0) rfl rfl kk) ?_
  show OGo p e below (s₁.setTop (mkF m 1 #[.val (.ref x), .val .null, .unset] [(.ref x)])) (OEnd s (fun v h L => v = some (.int (0 : Int32)) ∧ Fr n0 L ∧ h = h0) ({ frames := 0, cells := 0, slots := 0, locals := 0 } : Room).cells ({ frames := 0, cells := 0, slots := 0, locals := 0 } : Room).slots)
  refine OGo.step (fun _ kk => XS.aloadN X0.here hx rfl (hb hby own_d_jdk_42_method_66_code_1) rfl rfl kk) ?_
  show OGo p e below (s₁.setTop (mkF m 2 #[.val (.ref x), .val .null, .unset] [.null, (.ref x)])) (OEnd s (fun v h L => v = some (.int (0 : Int32)) ∧ Fr n0 L ∧ h = h0) ({ frames := 0, cells := 0, slots := 0, locals := 0 } : Room).cells ({ frames := 0, cells := 0, slots := 0, locals := 0 } : Room).slots)
  refine OGo.step (fun _ kk => Jvm.RoadKit.acmp (g := (mkF m 2 #[.val (.ref x), .val .null, .unset] [.null, (.ref x)])) X0 hx rfl rfl rfl (pc0 := 2) (pc' := 7) (same := false) rfl (hb hby own_d_jdk_42_method_66_code_2) rfl (decide_eq_false (fun z => by cases z)) (by decide) (by decide) kk) ?_
  show OGo p e below (s₁.setTop (mkF m 7 #[.val (.ref x), .val .null, .unset] [])) (OEnd s (fun v h L => v = some (.int (0 : Int32)) ∧ Fr n0 L ∧ h = h0) ({ frames := 0, cells := 0, slots := 0, locals := 0 } : Room).cells ({ frames := 0, cells := 0, slots := 0, locals := 0 } : Room).slots)
  refine OGo.step (fun _ kk => XS.aloadN X0.here hx rfl (hb hby own_d_jdk_42_method_66_code_7) rfl rfl kk) ?_
  show OGo p e below (s₁.setTop (mkF m 8 #[.val (.ref x), .val .null, .unset] [.null])) (OEnd s (fun v h L => v = some (.int (0 : Int32)) ∧ Fr n0 L ∧ h = h0) ({ frames := 0, cells := 0, slots := 0, locals := 0 } : Room).cells ({ frames := 0, cells := 0, slots := 0, locals := 0 } : Room).slots)
  refine OGo.step (fun _ kk => Jvm.Stand.instanceofNull X0 hx (g := (mkF m 8 #[.val (.ref x), .val .null, .unset] [.null])) rfl rfl (hb hby own_d_jdk_42_method_66_code_8) _ kk) ?_
  show OGo p e below (s₁.setTop (mkF m 11 #[.val (.ref x), .val .null, .unset] [(.int (0 : Int32))])) (OEnd s (fun v h L => v = some (.int (0 : Int32)) ∧ Fr n0 L ∧ h = h0) ({ frames := 0, cells := 0, slots := 0, locals := 0 } : Room).cells ({ frames := 0, cells := 0, slots := 0, locals := 0 } : Room).slots)
  refine OGo.step (fun _ kk => XS.ifYes X0.here hx rfl (pc0 := 11) (pc' := 54) rfl (hb hby own_d_jdk_42_method_66_code_11) rfl ((if0 _ _).trans (teq rfl).1) (by decide) (by decide) kk) ?_
  show OGo p e below (s₁.setTop (mkF m 54 #[.val (.ref x), .val .null, .unset] [])) (OEnd s (fun v h L => v = some (.int (0 : Int32)) ∧ Fr n0 L ∧ h = h0) ({ frames := 0, cells := 0, slots := 0, locals := 0 } : Room).cells ({ frames := 0, cells := 0, slots := 0, locals := 0 } : Room).slots)
  refine OGo.step (fun _ kk => XS.iconst X0.here hx rfl (hb hby own_d_jdk_42_method_66_code_54) kk) ?_
  show OGo p e below (s₁.setTop (mkF m 55 #[.val (.ref x), .val .null, .unset] [(.int (0 : Int32))])) (OEnd s (fun v h L => v = some (.int (0 : Int32)) ∧ Fr n0 L ∧ h = h0) ({ frames := 0, cells := 0, slots := 0, locals := 0 } : Room).cells ({ frames := 0, cells := 0, slots := 0, locals := 0 } : Room).slots)
  exact own_retN X0 hx hlk hret (by simp) (hb hby own_d_jdk_42_method_66_code_55) ⟨by rw [own_nar0], Fr.nil n0, e0⟩ (by decide) (by decide)

set_option maxRecDepth 65536 in
set_option maxHeartbeats 40000000 in
theorem own_oeqNN (l : Launch) (Z : State) (a0 : Array Value) (hw : ∀ d ∈ tables_1, d.before a0 Z = true) (ws : List Jvm.Cond) (zc : Int32)  (h0 : Heap) (n0 : Nat) (Z0 : n0 ≤ h0.size) (SC : Sta Z h0 "java/lang/String" "COMPACT_STRINGS" "Z" (.int zc)) (hzc : ¬ zc = 0)  :
    OMet l Z (⟨"java/util/Objects", "equals", "(Ljava/lang/Object;Ljava/lang/Object;)Z"⟩ : MethodName) jdk_31_method_2_code 2 (some .boolean) ws ({ frames := 2, cells := 0, slots := 0, locals := 28 } : Room) #[.null, .null] h0 (fun v h L => v = some (.int (if (none : Option (List Int32)) = none then (1 : Int32) else 0)) ∧ Fr n0 L ∧ h = h0) := by
  refine OMet.body (plainFor_of_name own_pn4) ?_
  intro p e s m below meth c s₁ hx hby hml hown hnm hret hlk hZ X0 e0
  refine OGo.step (fun _ kk => castTop (show entryFrame m #[.null, .null] 2 = (mkF m 0 #[.val .null, .val .null] []) from by first | (simp [entryFrame, mkF, argsToLocals, Value.category]; done) | rfl) kk) ?_
  show OGo p e below (s₁.setTop (mkF m 0 #[.val .null, .val .null] [])) (OEnd s (fun v h L => v = some (.int (if (none : Option (List Int32)) = none then (1 : Int32) else 0)) ∧ Fr n0 L ∧ h = h0) ({ frames := 2, cells := 0, slots := 0, locals := 28 } : Room).cells ({ frames := 2, cells := 0, slots := 0, locals := 28 } : Room).slots)
  refine OGo.step (fun _ kk => XS.aloadN X0.here hx rfl (hb hby own_d_jdk_31_method_2_code_0) rfl rfl kk) ?_
  show OGo p e below (s₁.setTop (mkF m 1 #[.val .null, .val .null] [.null])) (OEnd s (fun v h L => v = some (.int (if (none : Option (List Int32)) = none then (1 : Int32) else 0)) ∧ Fr n0 L ∧ h = h0) ({ frames := 2, cells := 0, slots := 0, locals := 28 } : Room).cells ({ frames := 2, cells := 0, slots := 0, locals := 28 } : Room).slots)
  refine OGo.step (fun _ kk => XS.aloadN X0.here hx rfl (hb hby own_d_jdk_31_method_2_code_1) rfl rfl kk) ?_
  show OGo p e below (s₁.setTop (mkF m 2 #[.val .null, .val .null] [.null, .null])) (OEnd s (fun v h L => v = some (.int (if (none : Option (List Int32)) = none then (1 : Int32) else 0)) ∧ Fr n0 L ∧ h = h0) ({ frames := 2, cells := 0, slots := 0, locals := 28 } : Room).cells ({ frames := 2, cells := 0, slots := 0, locals := 28 } : Room).slots)
  refine OGo.step (fun _ kk => Jvm.RoadKit.acmp (g := (mkF m 2 #[.val .null, .val .null] [.null, .null])) X0 hx rfl rfl rfl (pc0 := 2) (pc' := 17) (same := true) rfl (hb hby own_d_jdk_31_method_2_code_2) rfl (decide_eq_true rfl) (by decide) (by decide) kk) ?_
  show OGo p e below (s₁.setTop (mkF m 17 #[.val .null, .val .null] [])) (OEnd s (fun v h L => v = some (.int (if (none : Option (List Int32)) = none then (1 : Int32) else 0)) ∧ Fr n0 L ∧ h = h0) ({ frames := 2, cells := 0, slots := 0, locals := 28 } : Room).cells ({ frames := 2, cells := 0, slots := 0, locals := 28 } : Room).slots)
  refine OGo.step (fun _ kk => XS.iconst X0.here hx rfl (hb hby own_d_jdk_31_method_2_code_17) kk) ?_
  show OGo p e below (s₁.setTop (mkF m 18 #[.val .null, .val .null] [(.int (1 : Int32))])) (OEnd s (fun v h L => v = some (.int (if (none : Option (List Int32)) = none then (1 : Int32) else 0)) ∧ Fr n0 L ∧ h = h0) ({ frames := 2, cells := 0, slots := 0, locals := 28 } : Room).cells ({ frames := 2, cells := 0, slots := 0, locals := 28 } : Room).slots)
  refine OGo.step (fun _ kk => XS.goto X0.here hx rfl (pc0 := 18) (pc' := 22) rfl (hb hby own_d_jdk_31_method_2_code_18) (by decide) (by decide) kk) ?_
  show OGo p e below (s₁.setTop (mkF m 22 #[.val .null, .val .null] [(.int (1 : Int32))])) (OEnd s (fun v h L => v = some (.int (if (none : Option (List Int32)) = none then (1 : Int32) else 0)) ∧ Fr n0 L ∧ h = h0) ({ frames := 2, cells := 0, slots := 0, locals := 28 } : Room).cells ({ frames := 2, cells := 0, slots := 0, locals := 28 } : Room).slots)
  exact own_retN X0 hx hlk hret (by simp) (hb hby own_d_jdk_31_method_2_code_22) ⟨by rw [if_pos rfl, own_nar1], Fr.nil n0, e0⟩ (by decide) (by decide)

set_option maxRecDepth 65536 in
set_option maxHeartbeats 40000000 in
theorem own_oeqNS (l : Launch) (Z : State) (a0 : Array Value) (hw : ∀ d ∈ tables_1, d.before a0 Z = true) (ws : List Jvm.Cond) (zc : Int32) (y : Addr) (ds : List Int32) (h0 : Heap) (n0 : Nat) (Z0 : n0 ≤ h0.size) (SC : Sta Z h0 "java/lang/String" "COMPACT_STRINGS" "Z" (.int zc)) (hzc : ¬ zc = 0) (F2 : OStr Z h0 y ds) :
    OMet l Z (⟨"java/util/Objects", "equals", "(Ljava/lang/Object;Ljava/lang/Object;)Z"⟩ : MethodName) jdk_31_method_2_code 2 (some .boolean) ws ({ frames := 2, cells := 0, slots := 0, locals := 28 } : Room) #[.null, (.ref y)] h0 (fun v h L => v = some (.int (if (none : Option (List Int32)) = some ds then (1 : Int32) else 0)) ∧ Fr n0 L ∧ h = h0) := by
  refine OMet.body (plainFor_of_name own_pn4) ?_
  intro p e s m below meth c s₁ hx hby hml hown hnm hret hlk hZ X0 e0
  refine OGo.step (fun _ kk => castTop (show entryFrame m #[.null, (.ref y)] 2 = (mkF m 0 #[.val .null, .val (.ref y)] []) from by first | (simp [entryFrame, mkF, argsToLocals, Value.category]; done) | rfl) kk) ?_
  show OGo p e below (s₁.setTop (mkF m 0 #[.val .null, .val (.ref y)] [])) (OEnd s (fun v h L => v = some (.int (if (none : Option (List Int32)) = some ds then (1 : Int32) else 0)) ∧ Fr n0 L ∧ h = h0) ({ frames := 2, cells := 0, slots := 0, locals := 28 } : Room).cells ({ frames := 2, cells := 0, slots := 0, locals := 28 } : Room).slots)
  refine OGo.step (fun _ kk => XS.aloadN X0.here hx rfl (hb hby own_d_jdk_31_method_2_code_0) rfl rfl kk) ?_
  show OGo p e below (s₁.setTop (mkF m 1 #[.val .null, .val (.ref y)] [.null])) (OEnd s (fun v h L => v = some (.int (if (none : Option (List Int32)) = some ds then (1 : Int32) else 0)) ∧ Fr n0 L ∧ h = h0) ({ frames := 2, cells := 0, slots := 0, locals := 28 } : Room).cells ({ frames := 2, cells := 0, slots := 0, locals := 28 } : Room).slots)
  refine OGo.step (fun _ kk => XS.aloadN X0.here hx rfl (hb hby own_d_jdk_31_method_2_code_1) rfl rfl kk) ?_
  show OGo p e below (s₁.setTop (mkF m 2 #[.val .null, .val (.ref y)] [(.ref y), .null])) (OEnd s (fun v h L => v = some (.int (if (none : Option (List Int32)) = some ds then (1 : Int32) else 0)) ∧ Fr n0 L ∧ h = h0) ({ frames := 2, cells := 0, slots := 0, locals := 28 } : Room).cells ({ frames := 2, cells := 0, slots := 0, locals := 28 } : Room).slots)
  refine OGo.step (fun _ kk => Jvm.RoadKit.acmp (g := (mkF m 2 #[.val .null, .val (.ref y)] [(.ref y), .null])) X0 hx rfl rfl rfl (pc0 := 2) (pc' := 5) (same := false) rfl (hb hby own_d_jdk_31_method_2_code_2) rfl (decide_eq_false (fun z => by cases z)) (by decide) (by decide) kk) ?_
  show OGo p e below (s₁.setTop (mkF m 5 #[.val .null, .val (.ref y)] [])) (OEnd s (fun v h L => v = some (.int (if (none : Option (List Int32)) = some ds then (1 : Int32) else 0)) ∧ Fr n0 L ∧ h = h0) ({ frames := 2, cells := 0, slots := 0, locals := 28 } : Room).cells ({ frames := 2, cells := 0, slots := 0, locals := 28 } : Room).slots)
  refine OGo.step (fun _ kk => XS.aloadN X0.here hx rfl (hb hby own_d_jdk_31_method_2_code_5) rfl rfl kk) ?_
  show OGo p e below (s₁.setTop (mkF m 6 #[.val .null, .val (.ref y)] [.null])) (OEnd s (fun v h L => v = some (.int (if (none : Option (List Int32)) = some ds then (1 : Int32) else 0)) ∧ Fr n0 L ∧ h = h0) ({ frames := 2, cells := 0, slots := 0, locals := 28 } : Room).cells ({ frames := 2, cells := 0, slots := 0, locals := 28 } : Room).slots)
  refine OGo.step (fun _ kk => XS.ifnullYes X0.here hx rfl (pc0 := 6) (pc' := 21) rfl (hb hby own_d_jdk_31_method_2_code_6) rfl (by decide) (by decide) kk) ?_
  show OGo p e below (s₁.setTop (mkF m 21 #[.val .null, .val (.ref y)] [])) (OEnd s (fun v h L => v = some (.int (if (none : Option (List Int32)) = some ds then (1 : Int32) else 0)) ∧ Fr n0 L ∧ h = h0) ({ frames := 2, cells := 0, slots := 0, locals := 28 } : Room).cells ({ frames := 2, cells := 0, slots := 0, locals := 28 } : Room).slots)
  refine OGo.step (fun _ kk => XS.iconst X0.here hx rfl (hb hby own_d_jdk_31_method_2_code_21) kk) ?_
  show OGo p e below (s₁.setTop (mkF m 22 #[.val .null, .val (.ref y)] [(.int (0 : Int32))])) (OEnd s (fun v h L => v = some (.int (if (none : Option (List Int32)) = some ds then (1 : Int32) else 0)) ∧ Fr n0 L ∧ h = h0) ({ frames := 2, cells := 0, slots := 0, locals := 28 } : Room).cells ({ frames := 2, cells := 0, slots := 0, locals := 28 } : Room).slots)
  exact own_retN X0 hx hlk hret (by simp) (hb hby own_d_jdk_31_method_2_code_22) ⟨by rw [if_neg (fun z => by cases z), own_nar0], Fr.nil n0, e0⟩ (by decide) (by decide)

set_option maxRecDepth 65536 in
set_option maxHeartbeats 40000000 in
theorem own_oeqSN (l : Launch) (Z : State) (a0 : Array Value) (hw : ∀ d ∈ tables_1, d.before a0 Z = true) (ws : List Jvm.Cond) (zc : Int32) (x : Addr) (cs : List Int32) (h0 : Heap) (n0 : Nat) (Z0 : n0 ≤ h0.size) (SC : Sta Z h0 "java/lang/String" "COMPACT_STRINGS" "Z" (.int zc)) (hzc : ¬ zc = 0) (F1 : OStr Z h0 x cs) :
    OMet l Z (⟨"java/util/Objects", "equals", "(Ljava/lang/Object;Ljava/lang/Object;)Z"⟩ : MethodName) jdk_31_method_2_code 2 (some .boolean) ws ({ frames := 2, cells := 0, slots := 0, locals := 28 } : Room) #[(.ref x), .null] h0 (fun v h L => v = some (.int (if (some cs : Option (List Int32)) = none then (1 : Int32) else 0)) ∧ Fr n0 L ∧ h = h0) := by
  refine OMet.body (plainFor_of_name own_pn4) ?_
  intro p e s m below meth c s₁ hx hby hml hown hnm hret hlk hZ X0 e0
  refine OGo.step (fun _ kk => castTop (show entryFrame m #[(.ref x), .null] 2 = (mkF m 0 #[.val (.ref x), .val .null] []) from by first | (simp [entryFrame, mkF, argsToLocals, Value.category]; done) | rfl) kk) ?_
  show OGo p e below (s₁.setTop (mkF m 0 #[.val (.ref x), .val .null] [])) (OEnd s (fun v h L => v = some (.int (if (some cs : Option (List Int32)) = none then (1 : Int32) else 0)) ∧ Fr n0 L ∧ h = h0) ({ frames := 2, cells := 0, slots := 0, locals := 28 } : Room).cells ({ frames := 2, cells := 0, slots := 0, locals := 28 } : Room).slots)
  refine OGo.step (fun _ kk => XS.aloadN X0.here hx rfl (hb hby own_d_jdk_31_method_2_code_0) rfl rfl kk) ?_
  show OGo p e below (s₁.setTop (mkF m 1 #[.val (.ref x), .val .null] [(.ref x)])) (OEnd s (fun v h L => v = some (.int (if (some cs : Option (List Int32)) = none then (1 : Int32) else 0)) ∧ Fr n0 L ∧ h = h0) ({ frames := 2, cells := 0, slots := 0, locals := 28 } : Room).cells ({ frames := 2, cells := 0, slots := 0, locals := 28 } : Room).slots)
  refine OGo.step (fun _ kk => XS.aloadN X0.here hx rfl (hb hby own_d_jdk_31_method_2_code_1) rfl rfl kk) ?_
  show OGo p e below (s₁.setTop (mkF m 2 #[.val (.ref x), .val .null] [.null, (.ref x)])) (OEnd s (fun v h L => v = some (.int (if (some cs : Option (List Int32)) = none then (1 : Int32) else 0)) ∧ Fr n0 L ∧ h = h0) ({ frames := 2, cells := 0, slots := 0, locals := 28 } : Room).cells ({ frames := 2, cells := 0, slots := 0, locals := 28 } : Room).slots)
  refine OGo.step (fun _ kk => Jvm.RoadKit.acmp (g := (mkF m 2 #[.val (.ref x), .val .null] [.null, (.ref x)])) X0 hx rfl rfl rfl (pc0 := 2) (pc' := 5) (same := false) rfl (hb hby own_d_jdk_31_method_2_code_2) rfl (decide_eq_false (fun z => by cases z)) (by decide) (by decide) kk) ?_
  show OGo p e below (s₁.setTop (mkF m 5 #[.val (.ref x), .val .null] [])) (OEnd s (fun v h L => v = some (.int (if (some cs : Option (List Int32)) = none then (1 : Int32) else 0)) ∧ Fr n0 L ∧ h = h0) ({ frames := 2, cells := 0, slots := 0, locals := 28 } : Room).cells ({ frames := 2, cells := 0, slots := 0, locals := 28 } : Room).slots)
  refine OGo.step (fun _ kk => XS.aloadN X0.here hx rfl (hb hby own_d_jdk_31_method_2_code_5) rfl rfl kk) ?_
  show OGo p e below (s₁.setTop (mkF m 6 #[.val (.ref x), .val .null] [(.ref x)])) (OEnd s (fun v h L => v = some (.int (if (some cs : Option (List Int32)) = none then (1 : Int32) else 0)) ∧ Fr n0 L ∧ h = h0) ({ frames := 2, cells := 0, slots := 0, locals := 28 } : Room).cells ({ frames := 2, cells := 0, slots := 0, locals := 28 } : Room).slots)
  refine OGo.step (fun _ kk => XS.ifnullNo X0.here hx rfl (hb hby own_d_jdk_31_method_2_code_6) rfl kk) ?_
  show OGo p e below (s₁.setTop (mkF m 9 #[.val (.ref x), .val .null] [])) (OEnd s (fun v h L => v = some (.int (if (some cs : Option (List Int32)) = none then (1 : Int32) else 0)) ∧ Fr n0 L ∧ h = h0) ({ frames := 2, cells := 0, slots := 0, locals := 28 } : Room).cells ({ frames := 2, cells := 0, slots := 0, locals := 28 } : Room).slots)
  refine OGo.step (fun _ kk => XS.aloadN X0.here hx rfl (hb hby own_d_jdk_31_method_2_code_9) rfl rfl kk) ?_
  show OGo p e below (s₁.setTop (mkF m 10 #[.val (.ref x), .val .null] [(.ref x)])) (OEnd s (fun v h L => v = some (.int (if (some cs : Option (List Int32)) = none then (1 : Int32) else 0)) ∧ Fr n0 L ∧ h = h0) ({ frames := 2, cells := 0, slots := 0, locals := 28 } : Room).cells ({ frames := 2, cells := 0, slots := 0, locals := 28 } : Room).slots)
  refine OGo.step (fun _ kk => XS.aloadN X0.here hx rfl (hb hby own_d_jdk_31_method_2_code_10) rfl rfl kk) ?_
  show OGo p e below (s₁.setTop (mkF m 11 #[.val (.ref x), .val .null] [.null, (.ref x)])) (OEnd s (fun v h L => v = some (.int (if (some cs : Option (List Int32)) = none then (1 : Int32) else 0)) ∧ Fr n0 L ∧ h = h0) ({ frames := 2, cells := 0, slots := 0, locals := 28 } : Room).cells ({ frames := 2, cells := 0, slots := 0, locals := 28 } : Room).slots)
  refine own_virtual X0 hx hZ (y := (⟨"java/lang/Object", "equals", "(Ljava/lang/Object;)Z"⟩ : MethodName)) (z := (⟨"java/lang/String", "equals", "(Ljava/lang/Object;)Z"⟩ : MethodName)) hown (hw _ (List.mem_of_getElem? (i := 69) rfl)) (hw _ (List.mem_of_getElem? (i := 70) rfl)) (nf_top (args := #[]) (mvT hZ (hw _ (List.mem_of_getElem? (i := 76) rfl)))) (hw _ (List.mem_of_getElem? (i := 72) rfl)) (hw _ (List.mem_of_getElem? (i := 73) rfl)) (by decide) (hw _ (List.mem_of_getElem? (i := 74) rfl)) (hw _ (List.mem_of_getElem? (i := 6) rfl)) (b := x) F1.exa (W := 0) (own_seqN l Z a0 hw [] x h0 n0 Z0) e0  (pc := 11) (Ls := #[.val (.ref x), .val .null]) (argsL := [.null]) (rest := []) (by rw [hml]; rfl) (lenOf own_pd2 rfl) rfl (hb hby own_d_jdk_31_method_2_code_11) (by decide) (by decide) (by decide) (by decide) ?_
  intro v79 T79 L79 X79 hQ79
  obtain ⟨rfl, N79, e79⟩ := hQ79
  show OGo p e below (T79.setTop (mkF m 14 #[.val (.ref x), .val .null] [(.int (0 : Int32))])) (OEnd s (fun v h L => v = some (.int (if (some cs : Option (List Int32)) = none then (1 : Int32) else 0)) ∧ Fr n0 L ∧ h = h0) ({ frames := 2, cells := 0, slots := 0, locals := 28 } : Room).cells ({ frames := 2, cells := 0, slots := 0, locals := 28 } : Room).slots)
  have Nc79 := Fr.app (Fr.nil n0) N79
  refine OGo.step (fun _ kk => XS.ifYes X79.here hx rfl (pc0 := 14) (pc' := 21) rfl (hb hby own_d_jdk_31_method_2_code_14) rfl ((if0 _ _).trans (teq rfl).1) (by decide) (by decide) kk) ?_
  show OGo p e below (T79.setTop (mkF m 21 #[.val (.ref x), .val .null] [])) (OEnd s (fun v h L => v = some (.int (if (some cs : Option (List Int32)) = none then (1 : Int32) else 0)) ∧ Fr n0 L ∧ h = h0) ({ frames := 2, cells := 0, slots := 0, locals := 28 } : Room).cells ({ frames := 2, cells := 0, slots := 0, locals := 28 } : Room).slots)
  refine OGo.step (fun _ kk => XS.iconst X79.here hx rfl (hb hby own_d_jdk_31_method_2_code_21) kk) ?_
  show OGo p e below (T79.setTop (mkF m 22 #[.val (.ref x), .val .null] [(.int (0 : Int32))])) (OEnd s (fun v h L => v = some (.int (if (some cs : Option (List Int32)) = none then (1 : Int32) else 0)) ∧ Fr n0 L ∧ h = h0) ({ frames := 2, cells := 0, slots := 0, locals := 28 } : Room).cells ({ frames := 2, cells := 0, slots := 0, locals := 28 } : Room).slots)
  exact own_retN X79 hx hlk hret (by simp) (hb hby own_d_jdk_31_method_2_code_22) ⟨by rw [if_neg (fun z => by cases z), own_nar0], Nc79, e79⟩ (by decide) (by decide)

set_option maxRecDepth 65536 in
set_option maxHeartbeats 40000000 in
theorem own_oeqSS (l : Launch) (Z : State) (a0 : Array Value) (hw : ∀ d ∈ tables_1, d.before a0 Z = true) (ws : List Jvm.Cond) (zc : Int32) (x y : Addr) (cs ds : List Int32) (h0 : Heap) (n0 : Nat) (Z0 : n0 ≤ h0.size) (SC : Sta Z h0 "java/lang/String" "COMPACT_STRINGS" "Z" (.int zc)) (hzc : ¬ zc = 0) (F1 : OStr Z h0 x cs) (F2 : OStr Z h0 y ds) (hne : x = y → cs = ds) :
    OMet l Z (⟨"java/util/Objects", "equals", "(Ljava/lang/Object;Ljava/lang/Object;)Z"⟩ : MethodName) jdk_31_method_2_code 2 (some .boolean) ws ({ frames := 2, cells := 0, slots := 0, locals := 28 } : Room) #[(.ref x), (.ref y)] h0 (fun v h L => v = some (.int (if (some cs : Option (List Int32)) = some ds then (1 : Int32) else 0)) ∧ Fr n0 L ∧ h = h0) := by
  refine OMet.body (plainFor_of_name own_pn4) ?_
  intro p e s m below meth c s₁ hx hby hml hown hnm hret hlk hZ X0 e0
  refine OGo.step (fun _ kk => castTop (show entryFrame m #[(.ref x), (.ref y)] 2 = (mkF m 0 #[.val (.ref x), .val (.ref y)] []) from by first | (simp [entryFrame, mkF, argsToLocals, Value.category]; done) | rfl) kk) ?_
  show OGo p e below (s₁.setTop (mkF m 0 #[.val (.ref x), .val (.ref y)] [])) (OEnd s (fun v h L => v = some (.int (if (some cs : Option (List Int32)) = some ds then (1 : Int32) else 0)) ∧ Fr n0 L ∧ h = h0) ({ frames := 2, cells := 0, slots := 0, locals := 28 } : Room).cells ({ frames := 2, cells := 0, slots := 0, locals := 28 } : Room).slots)
  refine OGo.step (fun _ kk => XS.aloadN X0.here hx rfl (hb hby own_d_jdk_31_method_2_code_0) rfl rfl kk) ?_
  show OGo p e below (s₁.setTop (mkF m 1 #[.val (.ref x), .val (.ref y)] [(.ref x)])) (OEnd s (fun v h L => v = some (.int (if (some cs : Option (List Int32)) = some ds then (1 : Int32) else 0)) ∧ Fr n0 L ∧ h = h0) ({ frames := 2, cells := 0, slots := 0, locals := 28 } : Room).cells ({ frames := 2, cells := 0, slots := 0, locals := 28 } : Room).slots)
  refine OGo.step (fun _ kk => XS.aloadN X0.here hx rfl (hb hby own_d_jdk_31_method_2_code_1) rfl rfl kk) ?_
  show OGo p e below (s₁.setTop (mkF m 2 #[.val (.ref x), .val (.ref y)] [(.ref y), (.ref x)])) (OEnd s (fun v h L => v = some (.int (if (some cs : Option (List Int32)) = some ds then (1 : Int32) else 0)) ∧ Fr n0 L ∧ h = h0) ({ frames := 2, cells := 0, slots := 0, locals := 28 } : Room).cells ({ frames := 2, cells := 0, slots := 0, locals := 28 } : Room).slots)
  by_cases hxy : ((.ref x) : Value) = (.ref y)
  · refine OGo.step (fun _ kk => Jvm.RoadKit.acmp (g := (mkF m 2 #[.val (.ref x), .val (.ref y)] [(.ref y), (.ref x)])) X0 hx rfl rfl rfl (pc0 := 2) (pc' := 17) (same := true) rfl (hb hby own_d_jdk_31_method_2_code_2) rfl (decide_eq_true hxy) (by decide) (by decide) kk) ?_
    show OGo p e below (s₁.setTop (mkF m 17 #[.val (.ref x), .val (.ref y)] [])) (OEnd s (fun v h L => v = some (.int (if (some cs : Option (List Int32)) = some ds then (1 : Int32) else 0)) ∧ Fr n0 L ∧ h = h0) ({ frames := 2, cells := 0, slots := 0, locals := 28 } : Room).cells ({ frames := 2, cells := 0, slots := 0, locals := 28 } : Room).slots)
    refine OGo.step (fun _ kk => XS.iconst X0.here hx rfl (hb hby own_d_jdk_31_method_2_code_17) kk) ?_
    show OGo p e below (s₁.setTop (mkF m 18 #[.val (.ref x), .val (.ref y)] [(.int (1 : Int32))])) (OEnd s (fun v h L => v = some (.int (if (some cs : Option (List Int32)) = some ds then (1 : Int32) else 0)) ∧ Fr n0 L ∧ h = h0) ({ frames := 2, cells := 0, slots := 0, locals := 28 } : Room).cells ({ frames := 2, cells := 0, slots := 0, locals := 28 } : Room).slots)
    refine OGo.step (fun _ kk => XS.goto X0.here hx rfl (pc0 := 18) (pc' := 22) rfl (hb hby own_d_jdk_31_method_2_code_18) (by decide) (by decide) kk) ?_
    show OGo p e below (s₁.setTop (mkF m 22 #[.val (.ref x), .val (.ref y)] [(.int (1 : Int32))])) (OEnd s (fun v h L => v = some (.int (if (some cs : Option (List Int32)) = some ds then (1 : Int32) else 0)) ∧ Fr n0 L ∧ h = h0) ({ frames := 2, cells := 0, slots := 0, locals := 28 } : Room).cells ({ frames := 2, cells := 0, slots := 0, locals := 28 } : Room).slots)
    exact own_retN X0 hx hlk hret (by simp) (hb hby own_d_jdk_31_method_2_code_22) ⟨by rw [if_pos (congrArg some (hne (Value.ref.inj hxy))), own_nar1], Fr.nil n0, e0⟩ (by decide) (by decide)
  · refine OGo.step (fun _ kk => Jvm.RoadKit.acmp (g := (mkF m 2 #[.val (.ref x), .val (.ref y)] [(.ref y), (.ref x)])) X0 hx rfl rfl rfl (pc0 := 2) (pc' := 5) (same := false) rfl (hb hby own_d_jdk_31_method_2_code_2) rfl (decide_eq_false hxy) (by decide) (by decide) kk) ?_
    show OGo p e below (s₁.setTop (mkF m 5 #[.val (.ref x), .val (.ref y)] [])) (OEnd s (fun v h L => v = some (.int (if (some cs : Option (List Int32)) = some ds then (1 : Int32) else 0)) ∧ Fr n0 L ∧ h = h0) ({ frames := 2, cells := 0, slots := 0, locals := 28 } : Room).cells ({ frames := 2, cells := 0, slots := 0, locals := 28 } : Room).slots)
    refine OGo.step (fun _ kk => XS.aloadN X0.here hx rfl (hb hby own_d_jdk_31_method_2_code_5) rfl rfl kk) ?_
    show OGo p e below (s₁.setTop (mkF m 6 #[.val (.ref x), .val (.ref y)] [(.ref x)])) (OEnd s (fun v h L => v = some (.int (if (some cs : Option (List Int32)) = some ds then (1 : Int32) else 0)) ∧ Fr n0 L ∧ h = h0) ({ frames := 2, cells := 0, slots := 0, locals := 28 } : Room).cells ({ frames := 2, cells := 0, slots := 0, locals := 28 } : Room).slots)
    refine OGo.step (fun _ kk => XS.ifnullNo X0.here hx rfl (hb hby own_d_jdk_31_method_2_code_6) rfl kk) ?_
    show OGo p e below (s₁.setTop (mkF m 9 #[.val (.ref x), .val (.ref y)] [])) (OEnd s (fun v h L => v = some (.int (if (some cs : Option (List Int32)) = some ds then (1 : Int32) else 0)) ∧ Fr n0 L ∧ h = h0) ({ frames := 2, cells := 0, slots := 0, locals := 28 } : Room).cells ({ frames := 2, cells := 0, slots := 0, locals := 28 } : Room).slots)
    refine OGo.step (fun _ kk => XS.aloadN X0.here hx rfl (hb hby own_d_jdk_31_method_2_code_9) rfl rfl kk) ?_
    show OGo p e below (s₁.setTop (mkF m 10 #[.val (.ref x), .val (.ref y)] [(.ref x)])) (OEnd s (fun v h L => v = some (.int (if (some cs : Option (List Int32)) = some ds then (1 : Int32) else 0)) ∧ Fr n0 L ∧ h = h0) ({ frames := 2, cells := 0, slots := 0, locals := 28 } : Room).cells ({ frames := 2, cells := 0, slots := 0, locals := 28 } : Room).slots)
    refine OGo.step (fun _ kk => XS.aloadN X0.here hx rfl (hb hby own_d_jdk_31_method_2_code_10) rfl rfl kk) ?_
    show OGo p e below (s₁.setTop (mkF m 11 #[.val (.ref x), .val (.ref y)] [(.ref y), (.ref x)])) (OEnd s (fun v h L => v = some (.int (if (some cs : Option (List Int32)) = some ds then (1 : Int32) else 0)) ∧ Fr n0 L ∧ h = h0) ({ frames := 2, cells := 0, slots := 0, locals := 28 } : Room).cells ({ frames := 2, cells := 0, slots := 0, locals := 28 } : Room).slots)
    refine own_virtualK X0 hx hZ (y := (⟨"java/lang/Object", "equals", "(Ljava/lang/Object;)Z"⟩ : MethodName)) (z := (⟨"java/lang/String", "equals", "(Ljava/lang/Object;)Z"⟩ : MethodName)) hown (hw _ (List.mem_of_getElem? (i := 69) rfl)) (hw _ (List.mem_of_getElem? (i := 70) rfl)) (nf_top (args := #[]) (mvT hZ (hw _ (List.mem_of_getElem? (i := 76) rfl)))) (hw _ (List.mem_of_getElem? (i := 72) rfl)) (hw _ (List.mem_of_getElem? (i := 73) rfl)) (by decide) (b := x) F1.exa (W := 0) (own_seq (W := 0) hZ (fun d hd => hw d ((by decide +kernel : ∀ d ∈ StrChars.Road.wordsEq, d ∈ tables_1) d hd)) (kI := 4) (hw _ (List.mem_of_getElem? (i := 5) rfl)) F1 F2 SC hzc n0 (by decide) (by decide)) e0 (pc := 11) (Ls := #[.val (.ref x), .val (.ref y)]) (argsL := [(.ref y)]) (rest := []) (by rw [hml]; rfl) (lenOf own_pd2 rfl) rfl (hb hby own_d_jdk_31_method_2_code_11) (by decide) (by decide) ?_
    intro v80 T80 L80 X80 hQ80
    obtain ⟨rfl, N80, e80⟩ := hQ80
    show OGo p e below (T80.setTop (mkF m 14 #[.val (.ref x), .val (.ref y)] [(.int (if cs = ds then (1 : Int32) else 0))])) (OEnd s (fun v h L => v = some (.int (if (some cs : Option (List Int32)) = some ds then (1 : Int32) else 0)) ∧ Fr n0 L ∧ h = h0) ({ frames := 2, cells := 0, slots := 0, locals := 28 } : Room).cells ({ frames := 2, cells := 0, slots := 0, locals := 28 } : Room).slots)
    have Nc80 := Fr.app (Fr.nil n0) N80
    by_cases hr : (if cs = ds then (1 : Int32) else 0) = (0 : Int32)
    · refine OGo.step (fun _ kk => XS.ifYes X80.here hx rfl (pc0 := 14) (pc' := 21) rfl (hb hby own_d_jdk_31_method_2_code_14) rfl ((if0 _ _).trans (teq hr).1) (by decide) (by decide) kk) ?_
      show OGo p e below (T80.setTop (mkF m 21 #[.val (.ref x), .val (.ref y)] [])) (OEnd s (fun v h L => v = some (.int (if (some cs : Option (List Int32)) = some ds then (1 : Int32) else 0)) ∧ Fr n0 L ∧ h = h0) ({ frames := 2, cells := 0, slots := 0, locals := 28 } : Room).cells ({ frames := 2, cells := 0, slots := 0, locals := 28 } : Room).slots)
      refine OGo.step (fun _ kk => XS.iconst X80.here hx rfl (hb hby own_d_jdk_31_method_2_code_21) kk) ?_
      show OGo p e below (T80.setTop (mkF m 22 #[.val (.ref x), .val (.ref y)] [(.int (0 : Int32))])) (OEnd s (fun v h L => v = some (.int (if (some cs : Option (List Int32)) = some ds then (1 : Int32) else 0)) ∧ Fr n0 L ∧ h = h0) ({ frames := 2, cells := 0, slots := 0, locals := 28 } : Room).cells ({ frames := 2, cells := 0, slots := 0, locals := 28 } : Room).slots)
      exact own_retN X80 hx hlk hret (by simp) (hb hby own_d_jdk_31_method_2_code_22) ⟨by rw [if_neg (fun z => own_if0 hr (Option.some.inj z)), own_nar0], Nc80, e80⟩ (by decide) (by decide)
    · refine OGo.step (fun _ kk => XS.ifNo X80.here hx rfl (hb hby own_d_jdk_31_method_2_code_14) rfl ((if0 _ _).trans (feq hr).1) kk) ?_
      show OGo p e below (T80.setTop (mkF m 17 #[.val (.ref x), .val (.ref y)] [])) (OEnd s (fun v h L => v = some (.int (if (some cs : Option (List Int32)) = some ds then (1 : Int32) else 0)) ∧ Fr n0 L ∧ h = h0) ({ frames := 2, cells := 0, slots := 0, locals := 28 } : Room).cells ({ frames := 2, cells := 0, slots := 0, locals := 28 } : Room).slots)
      refine OGo.step (fun _ kk => XS.iconst X80.here hx rfl (hb hby own_d_jdk_31_method_2_code_17) kk) ?_
      show OGo p e below (T80.setTop (mkF m 18 #[.val (.ref x), .val (.ref y)] [(.int (1 : Int32))])) (OEnd s (fun v h L => v = some (.int (if (some cs : Option (List Int32)) = some ds then (1 : Int32) else 0)) ∧ Fr n0 L ∧ h = h0) ({ frames := 2, cells := 0, slots := 0, locals := 28 } : Room).cells ({ frames := 2, cells := 0, slots := 0, locals := 28 } : Room).slots)
      refine OGo.step (fun _ kk => XS.goto X80.here hx rfl (pc0 := 18) (pc' := 22) rfl (hb hby own_d_jdk_31_method_2_code_18) (by decide) (by decide) kk) ?_
      show OGo p e below (T80.setTop (mkF m 22 #[.val (.ref x), .val (.ref y)] [(.int (1 : Int32))])) (OEnd s (fun v h L => v = some (.int (if (some cs : Option (List Int32)) = some ds then (1 : Int32) else 0)) ∧ Fr n0 L ∧ h = h0) ({ frames := 2, cells := 0, slots := 0, locals := 28 } : Room).cells ({ frames := 2, cells := 0, slots := 0, locals := 28 } : Room).slots)
      exact own_retN X80 hx hlk hret (by simp) (hb hby own_d_jdk_31_method_2_code_22) ⟨by rw [if_pos (congrArg some (own_if1 hr)), own_nar1], Nc80, e80⟩ (by decide) (by decide)

theorem own_oeq (l : Launch) (Z : State) (a0 : Array Value) (hw : ∀ d ∈ tables_1, d.before a0 Z = true) (ws : List Jvm.Cond) (zc : Int32) (v w : Value) (o o' : Option (List Int32)) (h0 : Heap) (n0 : Nat) (Z0 : n0 ≤ h0.size) (SC : Sta Z h0 "java/lang/String" "COMPACT_STRINGS" "Z" (.int zc)) (hzc : ¬ zc = 0) (F : OSv Z h0 v o) (G : OSv Z h0 w o') (hne : v = w → o = o') :
    OMet l Z (⟨"java/util/Objects", "equals", "(Ljava/lang/Object;Ljava/lang/Object;)Z"⟩ : MethodName) jdk_31_method_2_code 2 (some .boolean) ws ({ frames := 2, cells := 0, slots := 0, locals := 28 } : Room) #[v, w] h0 (fun v h L => v = some (.int (if (o : Option (List Int32)) = o' then (1 : Int32) else 0)) ∧ Fr n0 L ∧ h = h0) := by
  rcases F with ⟨rfl, rfl⟩ | ⟨x, cs, rfl, rfl, F⟩
  · rcases G with ⟨rfl, rfl⟩ | ⟨y, ds, rfl, rfl, G⟩
    · exact own_oeqNN l Z a0 hw ws zc h0 n0 Z0 SC hzc
    · exact own_oeqNS l Z a0 hw ws zc y ds h0 n0 Z0 SC hzc G
  · rcases G with ⟨rfl, rfl⟩ | ⟨y, ds, rfl, rfl, G⟩
    · exact own_oeqSN l Z a0 hw ws zc x cs h0 n0 Z0 SC hzc F
    · exact own_oeqSS l Z a0 hw ws zc x y cs ds h0 n0 Z0 SC hzc F G (fun z => Option.some.inj (hne (congrArg Value.ref z)))

set_option maxRecDepth 65536 in
set_option maxHeartbeats 40000000 in
theorem own_ceqN (l : Launch) (Z : State) (a0 : Array Value) (hw : ∀ d ∈ tables_1, d.before a0 Z = true) (ws : List Jvm.Cond) (a : Addr) (h0 : Heap) (n0 : Nat) (Z0 : n0 ≤ h0.size)  :
    OMet l Z (⟨"com/example/tags_to_grants/tagstogrants/policy/Policy$Cell", "equals", "(Ljava/lang/Object;)Z"⟩ : MethodName) prog_64_method_3_code 3 (some .boolean) ws ({ frames := 0, cells := 0, slots := 0, locals := 0 } : Room) #[(.ref a), .null] h0 (fun v h L => v = some (.int (0 : Int32)) ∧ Fr n0 L ∧ h = h0) := by
  refine OMet.body (plainFor_of_name own_pn2) ?_
  intro p e s m below meth c s₁ hx hby hml hown hnm hret hlk hZ X0 e0
  refine OGo.step (fun _ kk => castTop (show entryFrame m #[(.ref a), .null] 3 = (mkF m 0 #[.val (.ref a), .val .null, .unset] []) from by first | (simp [entryFrame, mkF, argsToLocals, Value.category]; done) | rfl) kk) ?_
  show OGo p e below (s₁.setTop (mkF m 0 #[.val (.ref a), .val .null, .unset] [])) (OEnd s (fun v h L => v = some (.int (0 : Int32)) ∧ Fr n0 L ∧ h = h0) ({ frames := 0, cells := 0, slots := 0, locals := 0 } : Room).cells ({ frames := 0, cells := 0, slots := 0, locals := 0 } : Room).slots)
  refine OGo.step (fun _ kk => XS.aloadN X0.here hx rfl (hb hby own_d_prog_64_method_3_code_0) rfl rfl kk) ?_
  show OGo p e below (s₁.setTop (mkF m 1 #[.val (.ref a), .val .null, .unset] [.null])) (OEnd s (fun v h L => v = some (.int (0 : Int32)) ∧ Fr n0 L ∧ h = h0) ({ frames := 0, cells := 0, slots := 0, locals := 0 } : Room).cells ({ frames := 0, cells := 0, slots := 0, locals := 0 } : Room).slots)
  refine OGo.step (fun _ kk => Jvm.Stand.instanceofNull X0 hx (g := (mkF m 1 #[.val (.ref a), .val .null, .unset] [.null])) rfl rfl (hb hby own_d_prog_64_method_3_code_1) _ kk) ?_
  show OGo p e below (s₁.setTop (mkF m 4 #[.val (.ref a), .val .null, .unset] [(.int (0 : Int32))])) (OEnd s (fun v h L => v = some (.int (0 : Int32)) ∧ Fr n0 L ∧ h = h0) ({ frames := 0, cells := 0, slots := 0, locals := 0 } : Room).cells ({ frames := 0, cells := 0, slots := 0, locals := 0 } : Room).slots)
  refine OGo.step (fun _ kk => XS.ifYes X0.here hx rfl (pc0 := 4) (pc' := 58) rfl (hb hby own_d_prog_64_method_3_code_4) rfl ((if0 _ _).trans (teq rfl).1) (by decide) (by decide) kk) ?_
  show OGo p e below (s₁.setTop (mkF m 58 #[.val (.ref a), .val .null, .unset] [])) (OEnd s (fun v h L => v = some (.int (0 : Int32)) ∧ Fr n0 L ∧ h = h0) ({ frames := 0, cells := 0, slots := 0, locals := 0 } : Room).cells ({ frames := 0, cells := 0, slots := 0, locals := 0 } : Room).slots)
  refine OGo.step (fun _ kk => XS.iconst X0.here hx rfl (hb hby own_d_prog_64_method_3_code_58) kk) ?_
  show OGo p e below (s₁.setTop (mkF m 59 #[.val (.ref a), .val .null, .unset] [(.int (0 : Int32))])) (OEnd s (fun v h L => v = some (.int (0 : Int32)) ∧ Fr n0 L ∧ h = h0) ({ frames := 0, cells := 0, slots := 0, locals := 0 } : Room).cells ({ frames := 0, cells := 0, slots := 0, locals := 0 } : Room).slots)
  exact own_retN X0 hx hlk hret (by simp) (hb hby own_d_prog_64_method_3_code_59) ⟨by rw [own_nar0], Fr.nil n0, e0⟩ (by decide) (by decide)

set_option maxRecDepth 65536 in
set_option maxHeartbeats 40000000 in
theorem own_ceqS (l : Launch) (Z : State) (a0 : Array Value) (hw : ∀ d ∈ tables_1, d.before a0 Z = true) (ws : List Jvm.Cond) (a x : Addr) (cs : List Int32) (h0 : Heap) (n0 : Nat) (Z0 : n0 ≤ h0.size) (F1 : OStr Z h0 x cs) :
    OMet l Z (⟨"com/example/tags_to_grants/tagstogrants/policy/Policy$Cell", "equals", "(Ljava/lang/Object;)Z"⟩ : MethodName) prog_64_method_3_code 3 (some .boolean) ws ({ frames := 0, cells := 0, slots := 0, locals := 0 } : Room) #[(.ref a), (.ref x)] h0 (fun v h L => v = some (.int (0 : Int32)) ∧ Fr n0 L ∧ h = h0) := by
  refine OMet.body (plainFor_of_name own_pn2) ?_
  intro p e s m below meth c s₁ hx hby hml hown hnm hret hlk hZ X0 e0
  refine OGo.step (fun _ kk => castTop (show entryFrame m #[(.ref a), (.ref x)] 3 = (mkF m 0 #[.val (.ref a), .val (.ref x), .unset] []) from by first | (simp [entryFrame, mkF, argsToLocals, Value.category]; done) | rfl) kk) ?_
  show OGo p e below (s₁.setTop (mkF m 0 #[.val (.ref a), .val (.ref x), .unset] [])) (OEnd s (fun v h L => v = some (.int (0 : Int32)) ∧ Fr n0 L ∧ h = h0) ({ frames := 0, cells := 0, slots := 0, locals := 0 } : Room).cells ({ frames := 0, cells := 0, slots := 0, locals := 0 } : Room).slots)
  refine OGo.step (fun _ kk => XS.aloadN X0.here hx rfl (hb hby own_d_prog_64_method_3_code_0) rfl rfl kk) ?_
  show OGo p e below (s₁.setTop (mkF m 1 #[.val (.ref a), .val (.ref x), .unset] [(.ref x)])) (OEnd s (fun v h L => v = some (.int (0 : Int32)) ∧ Fr n0 L ∧ h = h0) ({ frames := 0, cells := 0, slots := 0, locals := 0 } : Room).cells ({ frames := 0, cells := 0, slots := 0, locals := 0 } : Room).slots)
  obtain ⟨T82, X82, e82, st82⟩ := instNo X0 hx hZ hown (hw _ (List.mem_of_getElem? (i := 63) rfl)) e0 F1.exa (own_notCast (hw _ (List.mem_of_getElem? (i := 75) rfl)) (hw _ (List.mem_of_getElem? (i := 76) rfl)) (hw _ (List.mem_of_getElem? (i := 38) rfl)) (by decide) (by decide)) (g := (mkF m 1 #[.val (.ref a), .val (.ref x), .unset] [(.ref x)])) rfl rfl (hb hby own_d_prog_64_method_3_code_1)
  refine OGo.step st82 ?_
  show OGo p e below (T82.setTop (mkF m 4 #[.val (.ref a), .val (.ref x), .unset] [(.int (0 : Int32))])) (OEnd s (fun v h L => v = some (.int (0 : Int32)) ∧ Fr n0 L ∧ h = h0) ({ frames := 0, cells := 0, slots := 0, locals := 0 } : Room).cells ({ frames := 0, cells := 0, slots := 0, locals := 0 } : Room).slots)
  refine OGo.step (fun _ kk => XS.ifYes X82.here hx rfl (pc0 := 4) (pc' := 58) rfl (hb hby own_d_prog_64_method_3_code_4) rfl ((if0 _ _).trans (teq rfl).1) (by decide) (by decide) kk) ?_
  show OGo p e below (T82.setTop (mkF m 58 #[.val (.ref a), .val (.ref x), .unset] [])) (OEnd s (fun v h L => v = some (.int (0 : Int32)) ∧ Fr n0 L ∧ h = h0) ({ frames := 0, cells := 0, slots := 0, locals := 0 } : Room).cells ({ frames := 0, cells := 0, slots := 0, locals := 0 } : Room).slots)
  refine OGo.step (fun _ kk => XS.iconst X82.here hx rfl (hb hby own_d_prog_64_method_3_code_58) kk) ?_
  show OGo p e below (T82.setTop (mkF m 59 #[.val (.ref a), .val (.ref x), .unset] [(.int (0 : Int32))])) (OEnd s (fun v h L => v = some (.int (0 : Int32)) ∧ Fr n0 L ∧ h = h0) ({ frames := 0, cells := 0, slots := 0, locals := 0 } : Room).cells ({ frames := 0, cells := 0, slots := 0, locals := 0 } : Room).slots)
  exact own_retN X82 hx hlk hret (by simp) (hb hby own_d_prog_64_method_3_code_59) ⟨by rw [own_nar0], Fr.nil n0, e82⟩ (by decide) (by decide)

theorem own_ceqV (l : Launch) (Z : State) (a0 : Array Value) (hw : ∀ d ∈ tables_1, d.before a0 Z = true) (ws : List Jvm.Cond) (a : Addr) (v : Value) (o : Option (List Int32)) (h0 : Heap) (n0 : Nat) (Z0 : n0 ≤ h0.size) (F : OSv Z h0 v o) :
    OMet l Z (⟨"com/example/tags_to_grants/tagstogrants/policy/Policy$Cell", "equals", "(Ljava/lang/Object;)Z"⟩ : MethodName) prog_64_method_3_code 3 (some .boolean) ws ({ frames := 0, cells := 0, slots := 0, locals := 0 } : Room) #[.ref a, v] h0 (fun v h L => v = some (.int (0 : Int32)) ∧ Fr n0 L ∧ h = h0) := by
  rcases F with ⟨rfl, rfl⟩ | ⟨x, cs, rfl, rfl, F⟩
  · exact own_ceqN l Z a0 hw ws a h0 n0 Z0
  · exact own_ceqS l Z a0 hw ws a x cs h0 n0 Z0 F

set_option maxRecDepth 65536 in
set_option maxHeartbeats 40000000 in
theorem own_ceq (l : Launch) (Z : State) (a0 : Array Value) (hw : ∀ d ∈ tables_1, d.before a0 Z = true) (ws : List Jvm.Cond) (a b : Addr) (zc : Int32) (v1 v2 v3 w1 w2 w3 : Value) (o1 o2 o3 q1 q2 q3 : Option (List Int32)) (h0 : Heap) (n0 : Nat) (Z0 : n0 ≤ h0.size) (SC : Sta Z h0 "java/lang/String" "COMPACT_STRINGS" "Z" (.int zc)) (hzc : ¬ zc = 0) (Eb : Exa Z h0 b "com/example/tags_to_grants/tagstogrants/policy/Policy$Cell") (A_subject : Fld Z h0 a "com/example/tags_to_grants/tagstogrants/policy/Policy$Cell" "subject" "Ljava/lang/String;" v1) (A_operation : Fld Z h0 a "com/example/tags_to_grants/tagstogrants/policy/Policy$Cell" "operation" "Ljava/lang/String;" v2) (A_object : Fld Z h0 a "com/example/tags_to_grants/tagstogrants/policy/Policy$Cell" "object" "Ljava/lang/String;" v3) (B_subject : Fld Z h0 b "com/example/tags_to_grants/tagstogrants/policy/Policy$Cell" "subject" "Ljava/lang/String;" w1) (B_operation : Fld Z h0 b "com/example/tags_to_grants/tagstogrants/policy/Policy$Cell" "operation" "Ljava/lang/String;" w2) (B_object : Fld Z h0 b "com/example/tags_to_grants/tagstogrants/policy/Policy$Cell" "object" "Ljava/lang/String;" w3) (hv1 : OSv Z h0 v1 o1) (hw1 : OSv Z h0 w1 q1) (hne1 : v1 = w1 → o1 = q1) (hv2 : OSv Z h0 v2 o2) (hw2 : OSv Z h0 w2 q2) (hne2 : v2 = w2 → o2 = q2) (hv3 : OSv Z h0 v3 o3) (hw3 : OSv Z h0 w3 q3) (hne3 : v3 = w3 → o3 = q3) :
    OMet l Z (⟨"com/example/tags_to_grants/tagstogrants/policy/Policy$Cell", "equals", "(Ljava/lang/Object;)Z"⟩ : MethodName) prog_64_method_3_code 3 (some .boolean) ws ({ frames := 3, cells := 0, slots := 0, locals := 44 } : Room) #[(.ref a), (.ref b)] h0 (fun v h L => v = some (.int (if o1 = q1 ∧ o2 = q2 ∧ o3 = q3 then (1 : Int32) else 0)) ∧ Fr n0 L ∧ h = h0) := by
  refine OMet.body (plainFor_of_name own_pn2) ?_
  intro p e s m below meth c s₁ hx hby hml hown hnm hret hlk hZ X0 e0
  refine OGo.step (fun _ kk => castTop (show entryFrame m #[(.ref a), (.ref b)] 3 = (mkF m 0 #[.val (.ref a), .val (.ref b), .unset] []) from by first | (simp [entryFrame, mkF, argsToLocals, Value.category]; done) | rfl) kk) ?_
  show OGo p e below (s₁.setTop (mkF m 0 #[.val (.ref a), .val (.ref b), .unset] [])) (OEnd s (fun v h L => v = some (.int (if o1 = q1 ∧ o2 = q2 ∧ o3 = q3 then (1 : Int32) else 0)) ∧ Fr n0 L ∧ h = h0) ({ frames := 3, cells := 0, slots := 0, locals := 44 } : Room).cells ({ frames := 3, cells := 0, slots := 0, locals := 44 } : Room).slots)
  refine OGo.step (fun _ kk => XS.aloadN X0.here hx rfl (hb hby own_d_prog_64_method_3_code_0) rfl rfl kk) ?_
  show OGo p e below (s₁.setTop (mkF m 1 #[.val (.ref a), .val (.ref b), .unset] [(.ref b)])) (OEnd s (fun v h L => v = some (.int (if o1 = q1 ∧ o2 = q2 ∧ o3 = q3 then (1 : Int32) else 0)) ∧ Fr n0 L ∧ h = h0) ({ frames := 3, cells := 0, slots := 0, locals := 44 } : Room).cells ({ frames := 3, cells := 0, slots := 0, locals := 44 } : Room).slots)
  obtain ⟨T83, X83, e83, st83⟩ := instY X0 hx hZ hown (hw _ (List.mem_of_getElem? (i := 63) rfl)) e0 (Ins.self Eb) (g := (mkF m 1 #[.val (.ref a), .val (.ref b), .unset] [(.ref b)])) rfl rfl (hb hby own_d_prog_64_method_3_code_1)
  refine OGo.step st83 ?_
  show OGo p e below (T83.setTop (mkF m 4 #[.val (.ref a), .val (.ref b), .unset] [(.int (1 : Int32))])) (OEnd s (fun v h L => v = some (.int (if o1 = q1 ∧ o2 = q2 ∧ o3 = q3 then (1 : Int32) else 0)) ∧ Fr n0 L ∧ h = h0) ({ frames := 3, cells := 0, slots := 0, locals := 44 } : Room).cells ({ frames := 3, cells := 0, slots := 0, locals := 44 } : Room).slots)
  refine OGo.step (fun _ kk => XS.ifNo X83.here hx rfl (hb hby own_d_prog_64_method_3_code_4) rfl ((if0 _ _).trans (feq (by decide)).1) kk) ?_
  show OGo p e below (T83.setTop (mkF m 7 #[.val (.ref a), .val (.ref b), .unset] [])) (OEnd s (fun v h L => v = some (.int (if o1 = q1 ∧ o2 = q2 ∧ o3 = q3 then (1 : Int32) else 0)) ∧ Fr n0 L ∧ h = h0) ({ frames := 3, cells := 0, slots := 0, locals := 44 } : Room).cells ({ frames := 3, cells := 0, slots := 0, locals := 44 } : Room).slots)
  refine OGo.step (fun _ kk => XS.aloadN X83.here hx rfl (hb hby own_d_prog_64_method_3_code_7) rfl rfl kk) ?_
  show OGo p e below (T83.setTop (mkF m 8 #[.val (.ref a), .val (.ref b), .unset] [(.ref b)])) (OEnd s (fun v h L => v = some (.int (if o1 = q1 ∧ o2 = q2 ∧ o3 = q3 then (1 : Int32) else 0)) ∧ Fr n0 L ∧ h = h0) ({ frames := 3, cells := 0, slots := 0, locals := 44 } : Room).cells ({ frames := 3, cells := 0, slots := 0, locals := 44 } : Room).slots)
  obtain ⟨T84, X84, e84, st84⟩ := castY X83 hx hZ hown (hw _ (List.mem_of_getElem? (i := 63) rfl)) e83 (Ins.self Eb) (g := (mkF m 8 #[.val (.ref a), .val (.ref b), .unset] [(.ref b)])) rfl rfl (hb hby own_d_prog_64_method_3_code_8)
  refine OGo.step st84 ?_
  show OGo p e below (T84.setTop (mkF m 11 #[.val (.ref a), .val (.ref b), .unset] [(.ref b)])) (OEnd s (fun v h L => v = some (.int (if o1 = q1 ∧ o2 = q2 ∧ o3 = q3 then (1 : Int32) else 0)) ∧ Fr n0 L ∧ h = h0) ({ frames := 3, cells := 0, slots := 0, locals := 44 } : Room).cells ({ frames := 3, cells := 0, slots := 0, locals := 44 } : Room).slots)
  refine OGo.step (fun _ kk => XS.astoreN X84.here hx rfl (hb hby own_d_prog_64_method_3_code_11) rfl rfl (l' := #[.val (.ref a), .val (.ref b), .val (.ref b)]) rfl kk) ?_
  show OGo p e below (T84.setTop (mkF m 12 #[.val (.ref a), .val (.ref b), .val (.ref b)] [])) (OEnd s (fun v h L => v = some (.int (if o1 = q1 ∧ o2 = q2 ∧ o3 = q3 then (1 : Int32) else 0)) ∧ Fr n0 L ∧ h = h0) ({ frames := 3, cells := 0, slots := 0, locals := 44 } : Room).cells ({ frames := 3, cells := 0, slots := 0, locals := 44 } : Room).slots)
  refine OGo.step (fun _ kk => XS.aloadN X84.here hx rfl (hb hby own_d_prog_64_method_3_code_12) rfl rfl kk) ?_
  show OGo p e below (T84.setTop (mkF m 13 #[.val (.ref a), .val (.ref b), .val (.ref b)] [(.ref a)])) (OEnd s (fun v h L => v = some (.int (if o1 = q1 ∧ o2 = q2 ∧ o3 = q3 then (1 : Int32) else 0)) ∧ Fr n0 L ∧ h = h0) ({ frames := 3, cells := 0, slots := 0, locals := 44 } : Room).cells ({ frames := 3, cells := 0, slots := 0, locals := 44 } : Room).slots)
  obtain ⟨T85, X85, e85, st85⟩ := getF X84 hx hZ hown (host := "") (Or.inl (hw _ (List.mem_of_getElem? (i := 49) rfl))) Via.refl e84 A_subject (g := (mkF m 13 #[.val (.ref a), .val (.ref b), .val (.ref b)] [(.ref a)])) rfl rfl (hb hby own_d_prog_64_method_3_code_13)
  refine OGo.step st85 ?_
  show OGo p e below (T85.setTop (mkF m 16 #[.val (.ref a), .val (.ref b), .val (.ref b)] [v1])) (OEnd s (fun v h L => v = some (.int (if o1 = q1 ∧ o2 = q2 ∧ o3 = q3 then (1 : Int32) else 0)) ∧ Fr n0 L ∧ h = h0) ({ frames := 3, cells := 0, slots := 0, locals := 44 } : Room).cells ({ frames := 3, cells := 0, slots := 0, locals := 44 } : Room).slots)
  refine OGo.step (fun _ kk => XS.aloadN X85.here hx rfl (hb hby own_d_prog_64_method_3_code_16) rfl rfl kk) ?_
  show OGo p e below (T85.setTop (mkF m 17 #[.val (.ref a), .val (.ref b), .val (.ref b)] [(.ref b), v1])) (OEnd s (fun v h L => v = some (.int (if o1 = q1 ∧ o2 = q2 ∧ o3 = q3 then (1 : Int32) else 0)) ∧ Fr n0 L ∧ h = h0) ({ frames := 3, cells := 0, slots := 0, locals := 44 } : Room).cells ({ frames := 3, cells := 0, slots := 0, locals := 44 } : Room).slots)
  obtain ⟨T86, X86, e86, st86⟩ := getF X85 hx hZ hown (host := "") (Or.inl (hw _ (List.mem_of_getElem? (i := 49) rfl))) Via.refl e85 B_subject (g := (mkF m 17 #[.val (.ref a), .val (.ref b), .val (.ref b)] [(.ref b), v1])) rfl rfl (hb hby own_d_prog_64_method_3_code_17)
  refine OGo.step st86 ?_
  show OGo p e below (T86.setTop (mkF m 20 #[.val (.ref a), .val (.ref b), .val (.ref b)] [w1, v1])) (OEnd s (fun v h L => v = some (.int (if o1 = q1 ∧ o2 = q2 ∧ o3 = q3 then (1 : Int32) else 0)) ∧ Fr n0 L ∧ h = h0) ({ frames := 3, cells := 0, slots := 0, locals := 44 } : Room).cells ({ frames := 3, cells := 0, slots := 0, locals := 44 } : Room).slots)
  refine own_callS X86 hx hZ (y := (⟨"java/util/Objects", "equals", "(Ljava/lang/Object;Ljava/lang/Object;)Z"⟩ : MethodName)) hown (hw _ (List.mem_of_getElem? (i := 65) rfl)) (hw _ (List.mem_of_getElem? (i := 66) rfl)) (hw _ (List.mem_of_getElem? (i := 67) rfl)) (hw _ (List.mem_of_getElem? (i := 68) rfl)) (by decide) (W := 0) (own_oeq l Z a0 hw [] zc v1 w1 o1 q1 h0 n0 Z0 SC hzc hv1 hw1 hne1) e86  (pc := 20) (Ls := #[.val (.ref a), .val (.ref b), .val (.ref b)]) (argsL := [v1, w1]) (rest := []) (by rw [hml]; rfl) (lenOf own_pd3 rfl) rfl (hb hby own_d_prog_64_method_3_code_20) (by decide) (by decide) (by decide) (by decide) ?_
  intro v87 T87 L87 X87 hQ87
  obtain ⟨rfl, N87, e87⟩ := hQ87
  show OGo p e below (T87.setTop (mkF m 23 #[.val (.ref a), .val (.ref b), .val (.ref b)] [(.int (if o1 = q1 then (1 : Int32) else 0))])) (OEnd s (fun v h L => v = some (.int (if o1 = q1 ∧ o2 = q2 ∧ o3 = q3 then (1 : Int32) else 0)) ∧ Fr n0 L ∧ h = h0) ({ frames := 3, cells := 0, slots := 0, locals := 44 } : Room).cells ({ frames := 3, cells := 0, slots := 0, locals := 44 } : Room).slots)
  have Nc87 := Fr.app (Fr.nil n0) N87
  by_cases hr1 : (if o1 = q1 then (1 : Int32) else 0) = (0 : Int32)
  · refine OGo.step (fun _ kk => XS.ifYes X87.here hx rfl (pc0 := 23) (pc' := 58) rfl (hb hby own_d_prog_64_method_3_code_23) rfl ((if0 _ _).trans (teq hr1).1) (by decide) (by decide) kk) ?_
    show OGo p e below (T87.setTop (mkF m 58 #[.val (.ref a), .val (.ref b), .val (.ref b)] [])) (OEnd s (fun v h L => v = some (.int (if o1 = q1 ∧ o2 = q2 ∧ o3 = q3 then (1 : Int32) else 0)) ∧ Fr n0 L ∧ h = h0) ({ frames := 3, cells := 0, slots := 0, locals := 44 } : Room).cells ({ frames := 3, cells := 0, slots := 0, locals := 44 } : Room).slots)
    refine OGo.step (fun _ kk => XS.iconst X87.here hx rfl (hb hby own_d_prog_64_method_3_code_58) kk) ?_
    show OGo p e below (T87.setTop (mkF m 59 #[.val (.ref a), .val (.ref b), .val (.ref b)] [(.int (0 : Int32))])) (OEnd s (fun v h L => v = some (.int (if o1 = q1 ∧ o2 = q2 ∧ o3 = q3 then (1 : Int32) else 0)) ∧ Fr n0 L ∧ h = h0) ({ frames := 3, cells := 0, slots := 0, locals := 44 } : Room).cells ({ frames := 3, cells := 0, slots := 0, locals := 44 } : Room).slots)
    exact own_retN X87 hx hlk hret (by simp) (hb hby own_d_prog_64_method_3_code_59) ⟨by rw [if_neg (fun z => own_if0 hr1 z.1), own_nar0], Nc87, e87⟩ (by decide) (by decide)
  · refine OGo.step (fun _ kk => XS.ifNo X87.here hx rfl (hb hby own_d_prog_64_method_3_code_23) rfl ((if0 _ _).trans (feq hr1).1) kk) ?_
    show OGo p e below (T87.setTop (mkF m 26 #[.val (.ref a), .val (.ref b), .val (.ref b)] [])) (OEnd s (fun v h L => v = some (.int (if o1 = q1 ∧ o2 = q2 ∧ o3 = q3 then (1 : Int32) else 0)) ∧ Fr n0 L ∧ h = h0) ({ frames := 3, cells := 0, slots := 0, locals := 44 } : Room).cells ({ frames := 3, cells := 0, slots := 0, locals := 44 } : Room).slots)
    refine OGo.step (fun _ kk => XS.aloadN X87.here hx rfl (hb hby own_d_prog_64_method_3_code_26) rfl rfl kk) ?_
    show OGo p e below (T87.setTop (mkF m 27 #[.val (.ref a), .val (.ref b), .val (.ref b)] [(.ref a)])) (OEnd s (fun v h L => v = some (.int (if o1 = q1 ∧ o2 = q2 ∧ o3 = q3 then (1 : Int32) else 0)) ∧ Fr n0 L ∧ h = h0) ({ frames := 3, cells := 0, slots := 0, locals := 44 } : Room).cells ({ frames := 3, cells := 0, slots := 0, locals := 44 } : Room).slots)
    obtain ⟨T88, X88, e88, st88⟩ := getF X87 hx hZ hown (host := "") (Or.inl (hw _ (List.mem_of_getElem? (i := 51) rfl))) Via.refl e87 A_operation (g := (mkF m 27 #[.val (.ref a), .val (.ref b), .val (.ref b)] [(.ref a)])) rfl rfl (hb hby own_d_prog_64_method_3_code_27)
    refine OGo.step st88 ?_
    show OGo p e below (T88.setTop (mkF m 30 #[.val (.ref a), .val (.ref b), .val (.ref b)] [v2])) (OEnd s (fun v h L => v = some (.int (if o1 = q1 ∧ o2 = q2 ∧ o3 = q3 then (1 : Int32) else 0)) ∧ Fr n0 L ∧ h = h0) ({ frames := 3, cells := 0, slots := 0, locals := 44 } : Room).cells ({ frames := 3, cells := 0, slots := 0, locals := 44 } : Room).slots)
    refine OGo.step (fun _ kk => XS.aloadN X88.here hx rfl (hb hby own_d_prog_64_method_3_code_30) rfl rfl kk) ?_
    show OGo p e below (T88.setTop (mkF m 31 #[.val (.ref a), .val (.ref b), .val (.ref b)] [(.ref b), v2])) (OEnd s (fun v h L => v = some (.int (if o1 = q1 ∧ o2 = q2 ∧ o3 = q3 then (1 : Int32) else 0)) ∧ Fr n0 L ∧ h = h0) ({ frames := 3, cells := 0, slots := 0, locals := 44 } : Room).cells ({ frames := 3, cells := 0, slots := 0, locals := 44 } : Room).slots)
    obtain ⟨T89, X89, e89, st89⟩ := getF X88 hx hZ hown (host := "") (Or.inl (hw _ (List.mem_of_getElem? (i := 51) rfl))) Via.refl e88 B_operation (g := (mkF m 31 #[.val (.ref a), .val (.ref b), .val (.ref b)] [(.ref b), v2])) rfl rfl (hb hby own_d_prog_64_method_3_code_31)
    refine OGo.step st89 ?_
    show OGo p e below (T89.setTop (mkF m 34 #[.val (.ref a), .val (.ref b), .val (.ref b)] [w2, v2])) (OEnd s (fun v h L => v = some (.int (if o1 = q1 ∧ o2 = q2 ∧ o3 = q3 then (1 : Int32) else 0)) ∧ Fr n0 L ∧ h = h0) ({ frames := 3, cells := 0, slots := 0, locals := 44 } : Room).cells ({ frames := 3, cells := 0, slots := 0, locals := 44 } : Room).slots)
    refine own_callS X89 hx hZ (y := (⟨"java/util/Objects", "equals", "(Ljava/lang/Object;Ljava/lang/Object;)Z"⟩ : MethodName)) hown (hw _ (List.mem_of_getElem? (i := 65) rfl)) (hw _ (List.mem_of_getElem? (i := 66) rfl)) (hw _ (List.mem_of_getElem? (i := 67) rfl)) (hw _ (List.mem_of_getElem? (i := 68) rfl)) (by decide) (W := 0) (own_oeq l Z a0 hw [] zc v2 w2 o2 q2 h0 n0 Z0 SC hzc hv2 hw2 hne2) e89  (pc := 34) (Ls := #[.val (.ref a), .val (.ref b), .val (.ref b)]) (argsL := [v2, w2]) (rest := []) (by rw [hml]; rfl) (lenOf own_pd3 rfl) rfl (hb hby own_d_prog_64_method_3_code_34) (by decide) (by decide) (by decide) (by decide) ?_
    intro v90 T90 L90 X90 hQ90
    obtain ⟨rfl, N90, e90⟩ := hQ90
    show OGo p e below (T90.setTop (mkF m 37 #[.val (.ref a), .val (.ref b), .val (.ref b)] [(.int (if o2 = q2 then (1 : Int32) else 0))])) (OEnd s (fun v h L => v = some (.int (if o1 = q1 ∧ o2 = q2 ∧ o3 = q3 then (1 : Int32) else 0)) ∧ Fr n0 L ∧ h = h0) ({ frames := 3, cells := 0, slots := 0, locals := 44 } : Room).cells ({ frames := 3, cells := 0, slots := 0, locals := 44 } : Room).slots)
    have Nc90 := Fr.app Nc87 N90
    by_cases hr2 : (if o2 = q2 then (1 : Int32) else 0) = (0 : Int32)
    · refine OGo.step (fun _ kk => XS.ifYes X90.here hx rfl (pc0 := 37) (pc' := 58) rfl (hb hby own_d_prog_64_method_3_code_37) rfl ((if0 _ _).trans (teq hr2).1) (by decide) (by decide) kk) ?_
      show OGo p e below (T90.setTop (mkF m 58 #[.val (.ref a), .val (.ref b), .val (.ref b)] [])) (OEnd s (fun v h L => v = some (.int (if o1 = q1 ∧ o2 = q2 ∧ o3 = q3 then (1 : Int32) else 0)) ∧ Fr n0 L ∧ h = h0) ({ frames := 3, cells := 0, slots := 0, locals := 44 } : Room).cells ({ frames := 3, cells := 0, slots := 0, locals := 44 } : Room).slots)
      refine OGo.step (fun _ kk => XS.iconst X90.here hx rfl (hb hby own_d_prog_64_method_3_code_58) kk) ?_
      show OGo p e below (T90.setTop (mkF m 59 #[.val (.ref a), .val (.ref b), .val (.ref b)] [(.int (0 : Int32))])) (OEnd s (fun v h L => v = some (.int (if o1 = q1 ∧ o2 = q2 ∧ o3 = q3 then (1 : Int32) else 0)) ∧ Fr n0 L ∧ h = h0) ({ frames := 3, cells := 0, slots := 0, locals := 44 } : Room).cells ({ frames := 3, cells := 0, slots := 0, locals := 44 } : Room).slots)
      exact own_retN X90 hx hlk hret (by simp) (hb hby own_d_prog_64_method_3_code_59) ⟨by rw [if_neg (fun z => own_if0 hr2 z.2.1), own_nar0], Nc90, e90⟩ (by decide) (by decide)
    · refine OGo.step (fun _ kk => XS.ifNo X90.here hx rfl (hb hby own_d_prog_64_method_3_code_37) rfl ((if0 _ _).trans (feq hr2).1) kk) ?_
      show OGo p e below (T90.setTop (mkF m 40 #[.val (.ref a), .val (.ref b), .val (.ref b)] [])) (OEnd s (fun v h L => v = some (.int (if o1 = q1 ∧ o2 = q2 ∧ o3 = q3 then (1 : Int32) else 0)) ∧ Fr n0 L ∧ h = h0) ({ frames := 3, cells := 0, slots := 0, locals := 44 } : Room).cells ({ frames := 3, cells := 0, slots := 0, locals := 44 } : Room).slots)
      refine OGo.step (fun _ kk => XS.aloadN X90.here hx rfl (hb hby own_d_prog_64_method_3_code_40) rfl rfl kk) ?_
      show OGo p e below (T90.setTop (mkF m 41 #[.val (.ref a), .val (.ref b), .val (.ref b)] [(.ref a)])) (OEnd s (fun v h L => v = some (.int (if o1 = q1 ∧ o2 = q2 ∧ o3 = q3 then (1 : Int32) else 0)) ∧ Fr n0 L ∧ h = h0) ({ frames := 3, cells := 0, slots := 0, locals := 44 } : Room).cells ({ frames := 3, cells := 0, slots := 0, locals := 44 } : Room).slots)
      obtain ⟨T91, X91, e91, st91⟩ := getF X90 hx hZ hown (host := "") (Or.inl (hw _ (List.mem_of_getElem? (i := 53) rfl))) Via.refl e90 A_object (g := (mkF m 41 #[.val (.ref a), .val (.ref b), .val (.ref b)] [(.ref a)])) rfl rfl (hb hby own_d_prog_64_method_3_code_41)
      refine OGo.step st91 ?_
      show OGo p e below (T91.setTop (mkF m 44 #[.val (.ref a), .val (.ref b), .val (.ref b)] [v3])) (OEnd s (fun v h L => v = some (.int (if o1 = q1 ∧ o2 = q2 ∧ o3 = q3 then (1 : Int32) else 0)) ∧ Fr n0 L ∧ h = h0) ({ frames := 3, cells := 0, slots := 0, locals := 44 } : Room).cells ({ frames := 3, cells := 0, slots := 0, locals := 44 } : Room).slots)
      refine OGo.step (fun _ kk => XS.aloadN X91.here hx rfl (hb hby own_d_prog_64_method_3_code_44) rfl rfl kk) ?_
      show OGo p e below (T91.setTop (mkF m 45 #[.val (.ref a), .val (.ref b), .val (.ref b)] [(.ref b), v3])) (OEnd s (fun v h L => v = some (.int (if o1 = q1 ∧ o2 = q2 ∧ o3 = q3 then (1 : Int32) else 0)) ∧ Fr n0 L ∧ h = h0) ({ frames := 3, cells := 0, slots := 0, locals := 44 } : Room).cells ({ frames := 3, cells := 0, slots := 0, locals := 44 } : Room).slots)
      obtain ⟨T92, X92, e92, st92⟩ := getF X91 hx hZ hown (host := "") (Or.inl (hw _ (List.mem_of_getElem? (i := 53) rfl))) Via.refl e91 B_object (g := (mkF m 45 #[.val (.ref a), .val (.ref b), .val (.ref b)] [(.ref b), v3])) rfl rfl (hb hby own_d_prog_64_method_3_code_45)
      refine OGo.step st92 ?_
      show OGo p e below (T92.setTop (mkF m 48 #[.val (.ref a), .val (.ref b), .val (.ref b)] [w3, v3])) (OEnd s (fun v h L => v = some (.int (if o1 = q1 ∧ o2 = q2 ∧ o3 = q3 then (1 : Int32) else 0)) ∧ Fr n0 L ∧ h = h0) ({ frames := 3, cells := 0, slots := 0, locals := 44 } : Room).cells ({ frames := 3, cells := 0, slots := 0, locals := 44 } : Room).slots)
      refine own_callS X92 hx hZ (y := (⟨"java/util/Objects", "equals", "(Ljava/lang/Object;Ljava/lang/Object;)Z"⟩ : MethodName)) hown (hw _ (List.mem_of_getElem? (i := 65) rfl)) (hw _ (List.mem_of_getElem? (i := 66) rfl)) (hw _ (List.mem_of_getElem? (i := 67) rfl)) (hw _ (List.mem_of_getElem? (i := 68) rfl)) (by decide) (W := 0) (own_oeq l Z a0 hw [] zc v3 w3 o3 q3 h0 n0 Z0 SC hzc hv3 hw3 hne3) e92  (pc := 48) (Ls := #[.val (.ref a), .val (.ref b), .val (.ref b)]) (argsL := [v3, w3]) (rest := []) (by rw [hml]; rfl) (lenOf own_pd3 rfl) rfl (hb hby own_d_prog_64_method_3_code_48) (by decide) (by decide) (by decide) (by decide) ?_
      intro v93 T93 L93 X93 hQ93
      obtain ⟨rfl, N93, e93⟩ := hQ93
      show OGo p e below (T93.setTop (mkF m 51 #[.val (.ref a), .val (.ref b), .val (.ref b)] [(.int (if o3 = q3 then (1 : Int32) else 0))])) (OEnd s (fun v h L => v = some (.int (if o1 = q1 ∧ o2 = q2 ∧ o3 = q3 then (1 : Int32) else 0)) ∧ Fr n0 L ∧ h = h0) ({ frames := 3, cells := 0, slots := 0, locals := 44 } : Room).cells ({ frames := 3, cells := 0, slots := 0, locals := 44 } : Room).slots)
      have Nc93 := Fr.app Nc90 N93
      by_cases hr3 : (if o3 = q3 then (1 : Int32) else 0) = (0 : Int32)
      · refine OGo.step (fun _ kk => XS.ifYes X93.here hx rfl (pc0 := 51) (pc' := 58) rfl (hb hby own_d_prog_64_method_3_code_51) rfl ((if0 _ _).trans (teq hr3).1) (by decide) (by decide) kk) ?_
        show OGo p e below (T93.setTop (mkF m 58 #[.val (.ref a), .val (.ref b), .val (.ref b)] [])) (OEnd s (fun v h L => v = some (.int (if o1 = q1 ∧ o2 = q2 ∧ o3 = q3 then (1 : Int32) else 0)) ∧ Fr n0 L ∧ h = h0) ({ frames := 3, cells := 0, slots := 0, locals := 44 } : Room).cells ({ frames := 3, cells := 0, slots := 0, locals := 44 } : Room).slots)
        refine OGo.step (fun _ kk => XS.iconst X93.here hx rfl (hb hby own_d_prog_64_method_3_code_58) kk) ?_
        show OGo p e below (T93.setTop (mkF m 59 #[.val (.ref a), .val (.ref b), .val (.ref b)] [(.int (0 : Int32))])) (OEnd s (fun v h L => v = some (.int (if o1 = q1 ∧ o2 = q2 ∧ o3 = q3 then (1 : Int32) else 0)) ∧ Fr n0 L ∧ h = h0) ({ frames := 3, cells := 0, slots := 0, locals := 44 } : Room).cells ({ frames := 3, cells := 0, slots := 0, locals := 44 } : Room).slots)
        exact own_retN X93 hx hlk hret (by simp) (hb hby own_d_prog_64_method_3_code_59) ⟨by rw [if_neg (fun z => own_if0 hr3 z.2.2), own_nar0], Nc93, e93⟩ (by decide) (by decide)
      · refine OGo.step (fun _ kk => XS.ifNo X93.here hx rfl (hb hby own_d_prog_64_method_3_code_51) rfl ((if0 _ _).trans (feq hr3).1) kk) ?_
        show OGo p e below (T93.setTop (mkF m 54 #[.val (.ref a), .val (.ref b), .val (.ref b)] [])) (OEnd s (fun v h L => v = some (.int (if o1 = q1 ∧ o2 = q2 ∧ o3 = q3 then (1 : Int32) else 0)) ∧ Fr n0 L ∧ h = h0) ({ frames := 3, cells := 0, slots := 0, locals := 44 } : Room).cells ({ frames := 3, cells := 0, slots := 0, locals := 44 } : Room).slots)
        refine OGo.step (fun _ kk => XS.iconst X93.here hx rfl (hb hby own_d_prog_64_method_3_code_54) kk) ?_
        show OGo p e below (T93.setTop (mkF m 55 #[.val (.ref a), .val (.ref b), .val (.ref b)] [(.int (1 : Int32))])) (OEnd s (fun v h L => v = some (.int (if o1 = q1 ∧ o2 = q2 ∧ o3 = q3 then (1 : Int32) else 0)) ∧ Fr n0 L ∧ h = h0) ({ frames := 3, cells := 0, slots := 0, locals := 44 } : Room).cells ({ frames := 3, cells := 0, slots := 0, locals := 44 } : Room).slots)
        refine OGo.step (fun _ kk => XS.goto X93.here hx rfl (pc0 := 55) (pc' := 59) rfl (hb hby own_d_prog_64_method_3_code_55) (by decide) (by decide) kk) ?_
        show OGo p e below (T93.setTop (mkF m 59 #[.val (.ref a), .val (.ref b), .val (.ref b)] [(.int (1 : Int32))])) (OEnd s (fun v h L => v = some (.int (if o1 = q1 ∧ o2 = q2 ∧ o3 = q3 then (1 : Int32) else 0)) ∧ Fr n0 L ∧ h = h0) ({ frames := 3, cells := 0, slots := 0, locals := 44 } : Room).cells ({ frames := 3, cells := 0, slots := 0, locals := 44 } : Room).slots)
        exact own_retN X93 hx hlk hret (by simp) (hb hby own_d_prog_64_method_3_code_59) ⟨by rw [if_pos ⟨own_if1 hr1, own_if1 hr2, own_if1 hr3⟩, own_nar1], Nc93, e93⟩ (by decide) (by decide)

set_option maxRecDepth 65536 in
set_option maxHeartbeats 40000000 in
theorem own_rm0 (l : Launch) (Z : State) (a0 : Array Value) (hw : ∀ d ∈ tables_1, d.before a0 Z = true) (ws : List Jvm.Cond) (p1 p2 p3 p4 p5 p6 zc : Int32) (h0 : Heap) (n0 : Nat) (Z0 : n0 ≤ h0.size) (SC : Sta Z h0 "java/lang/String" "COMPACT_STRINGS" "Z" (.int zc)) (hzc : ¬ zc = 0) :
    OMetW l Z consts_1 x code maxLocals ret ws room_1 #[(.int p1), (.int p2), (.int p3), (.int p4), (.int p5), (.int p6)] h0 (fun v h L => v = some (.int (1 : Int32)) ∧ Fr n0 L) := by
  refine OMetW.body (plainFor_of_name own_pn0) ?_
  intro p e s m below meth c s₁ hx hby hml hown hnm hret hlk hZ X0 e0 OW0
  have hml : c.maxLocals = 16 := hml
  have hEL := own_hEL hw
  have wS := own_wS hw
  refine OGo.step (fun _ kk => castTop (show entryFrame m #[(.int p1), (.int p2), (.int p3), (.int p4), (.int p5), (.int p6)] maxLocals = (mkF m 0 #[.val (.int p1), .val (.int p2), .val (.int p3), .val (.int p4), .val (.int p5), .val (.int p6), .unset, .unset, .unset, .unset, .unset, .unset, .unset, .unset, .unset, .unset] []) from by first | (simp [entryFrame, mkF, argsToLocals, Value.category, maxLocals]; done) | rfl) kk) ?_
  show OGo p e below (s₁.setTop (mkF m 0 #[.val (.int p1), .val (.int p2), .val (.int p3), .val (.int p4), .val (.int p5), .val (.int p6), .unset, .unset, .unset, .unset, .unset, .unset, .unset, .unset, .unset, .unset] [])) (OEndW s Z consts_1 (fun v h L => v = some (.int (1 : Int32)) ∧ Fr n0 L) room_1.cells room_1.slots)
  refine OGo.step (fun _ kk => XS.iloadN X0.here hx rfl (hb hby at_0) rfl kk) ?_
  show OGo p e below (s₁.setTop (mkF m 1 #[.val (.int p1), .val (.int p2), .val (.int p3), .val (.int p4), .val (.int p5), .val (.int p6), .unset, .unset, .unset, .unset, .unset, .unset, .unset, .unset, .unset, .unset] [(.int p1)])) (OEndW s Z consts_1 (fun v h L => v = some (.int (1 : Int32)) ∧ Fr n0 L) room_1.cells room_1.slots)
  refine OGo.step (fun _ kk => XS.bipush X0.here hx rfl (hb hby at_1) kk) ?_
  show OGo p e below (s₁.setTop (mkF m 3 #[.val (.int p1), .val (.int p2), .val (.int p3), .val (.int p4), .val (.int p5), .val (.int p6), .unset, .unset, .unset, .unset, .unset, .unset, .unset, .unset, .unset, .unset] [(.int (30 : Int32)), (.int p1)])) (OEndW s Z consts_1 (fun v h L => v = some (.int (1 : Int32)) ∧ Fr n0 L) room_1.cells room_1.slots)
  refine OGo.step (fun _ kk => XS.iushr X0.here hx rfl (hb hby at_3) rfl kk) ?_
  show OGo p e below (s₁.setTop (mkF m 4 #[.val (.int p1), .val (.int p2), .val (.int p3), .val (.int p4), .val (.int p5), .val (.int p6), .unset, .unset, .unset, .unset, .unset, .unset, .unset, .unset, .unset, .unset] [(.int ((p1.toUInt32 >>> ((30 : Int32) &&& 31).toUInt32).toInt32))])) (OEndW s Z consts_1 (fun v h L => v = some (.int (1 : Int32)) ∧ Fr n0 L) room_1.cells room_1.slots)
  refine OGo.step (fun _ kk => XS.iconst X0.here hx rfl (hb hby at_4) kk) ?_
  show OGo p e below (s₁.setTop (mkF m 5 #[.val (.int p1), .val (.int p2), .val (.int p3), .val (.int p4), .val (.int p5), .val (.int p6), .unset, .unset, .unset, .unset, .unset, .unset, .unset, .unset, .unset, .unset] [(.int (3 : Int32)), (.int ((p1.toUInt32 >>> ((30 : Int32) &&& 31).toUInt32).toInt32))])) (OEndW s Z consts_1 (fun v h L => v = some (.int (1 : Int32)) ∧ Fr n0 L) room_1.cells room_1.slots)
  refine OGo.step (fun _ kk => XS.iand X0.here hx rfl (hb hby at_5) rfl kk) ?_
  show OGo p e below (s₁.setTop (mkF m 6 #[.val (.int p1), .val (.int p2), .val (.int p3), .val (.int p4), .val (.int p5), .val (.int p6), .unset, .unset, .unset, .unset, .unset, .unset, .unset, .unset, .unset, .unset] [(.int (((p1.toUInt32 >>> ((30 : Int32) &&& 31).toUInt32).toInt32) &&& (3 : Int32)))])) (OEndW s Z consts_1 (fun v h L => v = some (.int (1 : Int32)) ∧ Fr n0 L) room_1.cells room_1.slots)
  refine OGo.step (fun _ kk => XS.istore X0.here hx rfl (hb hby at_6) rfl (l' := #[.val (.int p1), .val (.int p2), .val (.int p3), .val (.int p4), .val (.int p5), .val (.int p6), .val (.int (((p1.toUInt32 >>> ((30 : Int32) &&& 31).toUInt32).toInt32) &&& (3 : Int32))), .unset, .unset, .unset, .unset, .unset, .unset, .unset, .unset, .unset]) rfl kk) ?_
  show OGo p e below (s₁.setTop (mkF m 8 #[.val (.int p1), .val (.int p2), .val (.int p3), .val (.int p4), .val (.int p5), .val (.int p6), .val (.int (((p1.toUInt32 >>> ((30 : Int32) &&& 31).toUInt32).toInt32) &&& (3 : Int32))), .unset, .unset, .unset, .unset, .unset, .unset, .unset, .unset, .unset] [])) (OEndW s Z consts_1 (fun v h L => v = some (.int (1 : Int32)) ∧ Fr n0 L) room_1.cells room_1.slots)
  refine OGo.step (fun _ kk => XS.iloadN X0.here hx rfl (hb hby at_8) rfl kk) ?_
  show OGo p e below (s₁.setTop (mkF m 9 #[.val (.int p1), .val (.int p2), .val (.int p3), .val (.int p4), .val (.int p5), .val (.int p6), .val (.int (((p1.toUInt32 >>> ((30 : Int32) &&& 31).toUInt32).toInt32) &&& (3 : Int32))), .unset, .unset, .unset, .unset, .unset, .unset, .unset, .unset, .unset] [(.int p1)])) (OEndW s Z consts_1 (fun v h L => v = some (.int (1 : Int32)) ∧ Fr n0 L) room_1.cells room_1.slots)
  refine own_callSW X0 hx hZ (y := (⟨"com/example/tags_to_grants/tagstogrants/policy/CellEqualsPinLaw", "s", "(I)Ljava/lang/String;"⟩ : MethodName)) hown (hw _ (List.mem_of_getElem? (i := 0) rfl)) (hw _ (List.mem_of_getElem? (i := 1) rfl)) (hw _ (List.mem_of_getElem? (i := 2) rfl)) (hw _ (List.mem_of_getElem? (i := 3) rfl)) (by decide) hEL OW0 (W := 0) (own_s l Z a0 hw [] p1 zc h0 n0 Z0 SC hzc) e0  (pc := 9) (Ls := #[.val (.int p1), .val (.int p2), .val (.int p3), .val (.int p4), .val (.int p5), .val (.int p6), .val (.int (((p1.toUInt32 >>> ((30 : Int32) &&& 31).toUInt32).toInt32) &&& (3 : Int32))), .unset, .unset, .unset, .unset, .unset, .unset, .unset, .unset, .unset]) (argsL := [(.int p1)]) (rest := []) (by rw [hml]; rfl) (lenOf own_pd4 rfl) rfl (hb hby at_9) (by decide) (by decide) (by decide) (by decide) ?_
  intro v94 T94 L94 X94 hQ94 OW94 hZ hown CH94
  obtain ⟨w94, rfl, N94, Xe94, O94, g94⟩ := hQ94
  show OGo p e below (T94.setTop (mkF m 12 #[.val (.int p1), .val (.int p2), .val (.int p3), .val (.int p4), .val (.int p5), .val (.int p6), .val (.int (((p1.toUInt32 >>> ((30 : Int32) &&& 31).toUInt32).toInt32) &&& (3 : Int32))), .unset, .unset, .unset, .unset, .unset, .unset, .unset, .unset, .unset] [w94])) (OEndW s Z consts_1 (fun v h L => v = some (.int (1 : Int32)) ∧ Fr n0 L) room_1.cells room_1.slots)
  have Nc94 := Fr.app (Fr.nil n0) N94
  have sz94 : n0 ≤ T94.heap.size := Nat.le_trans Z0 Xe94.1
  refine OGo.step (fun _ kk => XS.astore X94.here hx rfl (hb hby at_12) rfl O94.isRef (l' := #[.val (.int p1), .val (.int p2), .val (.int p3), .val (.int p4), .val (.int p5), .val (.int p6), .val (.int (((p1.toUInt32 >>> ((30 : Int32) &&& 31).toUInt32).toInt32) &&& (3 : Int32))), .val w94, .unset, .unset, .unset, .unset, .unset, .unset, .unset, .unset]) (own_store1 rfl (by first | exact Or.inl rfl | exact Or.inr ⟨_, rfl, rfl⟩ | exact Or.inr ⟨_, rfl, own_cat rfl⟩) (own_cat O94.isRef)) kk) ?_
  show OGo p e below (T94.setTop (mkF m 14 #[.val (.int p1), .val (.int p2), .val (.int p3), .val (.int p4), .val (.int p5), .val (.int p6), .val (.int (((p1.toUInt32 >>> ((30 : Int32) &&& 31).toUInt32).toInt32) &&& (3 : Int32))), .val w94, .unset, .unset, .unset, .unset, .unset, .unset, .unset, .unset] [])) (OEndW s Z consts_1 (fun v h L => v = some (.int (1 : Int32)) ∧ Fr n0 L) room_1.cells room_1.slots)
  refine OGo.step (fun _ kk => XS.iloadN X94.here hx rfl (hb hby at_14) rfl kk) ?_
  show OGo p e below (T94.setTop (mkF m 15 #[.val (.int p1), .val (.int p2), .val (.int p3), .val (.int p4), .val (.int p5), .val (.int p6), .val (.int (((p1.toUInt32 >>> ((30 : Int32) &&& 31).toUInt32).toInt32) &&& (3 : Int32))), .val w94, .unset, .unset, .unset, .unset, .unset, .unset, .unset, .unset] [(.int p2)])) (OEndW s Z consts_1 (fun v h L => v = some (.int (1 : Int32)) ∧ Fr n0 L) room_1.cells room_1.slots)
  have fx95 := SC.ext Xe94
  refine own_callSW X94 hx hZ (y := (⟨"com/example/tags_to_grants/tagstogrants/policy/CellEqualsPinLaw", "s", "(I)Ljava/lang/String;"⟩ : MethodName)) hown (hw _ (List.mem_of_getElem? (i := 0) rfl)) (hw _ (List.mem_of_getElem? (i := 1) rfl)) (hw _ (List.mem_of_getElem? (i := 2) rfl)) (hw _ (List.mem_of_getElem? (i := 3) rfl)) (by decide) hEL OW94 (W := 0) (own_s l Z a0 hw [] p2 zc T94.heap n0 sz94 fx95 hzc) rfl  (pc := 15) (Ls := #[.val (.int p1), .val (.int p2), .val (.int p3), .val (.int p4), .val (.int p5), .val (.int p6), .val (.int (((p1.toUInt32 >>> ((30 : Int32) &&& 31).toUInt32).toInt32) &&& (3 : Int32))), .val w94, .unset, .unset, .unset, .unset, .unset, .unset, .unset, .unset]) (argsL := [(.int p2)]) (rest := []) (by rw [hml]; rfl) (lenOf own_pd4 rfl) rfl (hb hby at_15) (by decide) (by decide) (by decide) (by decide) ?_
  intro v96 T96 L96 X96 hQ96 OW96 hZ hown CH96
  obtain ⟨w96, rfl, N96, Xe96, O96, g96⟩ := hQ96
  show OGo p e below (T96.setTop (mkF m 18 #[.val (.int p1), .val (.int p2), .val (.int p3), .val (.int p4), .val (.int p5), .val (.int p6), .val (.int (((p1.toUInt32 >>> ((30 : Int32) &&& 31).toUInt32).toInt32) &&& (3 : Int32))), .val w94, .unset, .unset, .unset, .unset, .unset, .unset, .unset, .unset] [w96])) (OEndW s Z consts_1 (fun v h L => v = some (.int (1 : Int32)) ∧ Fr n0 L) room_1.cells room_1.slots)
  have Nc96 := Fr.app Nc94 N96
  have sz96 : n0 ≤ T96.heap.size := Nat.le_trans sz94 Xe96.1
  refine OGo.step (fun _ kk => XS.astore X96.here hx rfl (hb hby at_18) rfl O96.isRef (l' := #[.val (.int p1), .val (.int p2), .val (.int p3), .val (.int p4), .val (.int p5), .val (.int p6), .val (.int (((p1.toUInt32 >>> ((30 : Int32) &&& 31).toUInt32).toInt32) &&& (3 : Int32))), .val w94, .val w96, .unset, .unset, .unset, .unset, .unset, .unset, .unset]) (own_store1 rfl (by first | exact Or.inl rfl | exact Or.inr ⟨_, rfl, rfl⟩ | exact Or.inr ⟨_, rfl, own_cat rfl⟩) (own_cat O96.isRef)) kk) ?_
  show OGo p e below (T96.setTop (mkF m 20 #[.val (.int p1), .val (.int p2), .val (.int p3), .val (.int p4), .val (.int p5), .val (.int p6), .val (.int (((p1.toUInt32 >>> ((30 : Int32) &&& 31).toUInt32).toInt32) &&& (3 : Int32))), .val w94, .val w96, .unset, .unset, .unset, .unset, .unset, .unset, .unset] [])) (OEndW s Z consts_1 (fun v h L => v = some (.int (1 : Int32)) ∧ Fr n0 L) room_1.cells room_1.slots)
  refine OGo.step (fun _ kk => XS.iloadN X96.here hx rfl (hb hby at_20) rfl kk) ?_
  show OGo p e below (T96.setTop (mkF m 21 #[.val (.int p1), .val (.int p2), .val (.int p3), .val (.int p4), .val (.int p5), .val (.int p6), .val (.int (((p1.toUInt32 >>> ((30 : Int32) &&& 31).toUInt32).toInt32) &&& (3 : Int32))), .val w94, .val w96, .unset, .unset, .unset, .unset, .unset, .unset, .unset] [(.int p3)])) (OEndW s Z consts_1 (fun v h L => v = some (.int (1 : Int32)) ∧ Fr n0 L) room_1.cells room_1.slots)
  have xt97 := (own_ext_trans Xe94 Xe96)
  have fx98 := SC.ext xt97
  refine own_callSW X96 hx hZ (y := (⟨"com/example/tags_to_grants/tagstogrants/policy/CellEqualsPinLaw", "s", "(I)Ljava/lang/String;"⟩ : MethodName)) hown (hw _ (List.mem_of_getElem? (i := 0) rfl)) (hw _ (List.mem_of_getElem? (i := 1) rfl)) (hw _ (List.mem_of_getElem? (i := 2) rfl)) (hw _ (List.mem_of_getElem? (i := 3) rfl)) (by decide) hEL OW96 (W := 0) (own_s l Z a0 hw [] p3 zc T96.heap n0 sz96 fx98 hzc) rfl  (pc := 21) (Ls := #[.val (.int p1), .val (.int p2), .val (.int p3), .val (.int p4), .val (.int p5), .val (.int p6), .val (.int (((p1.toUInt32 >>> ((30 : Int32) &&& 31).toUInt32).toInt32) &&& (3 : Int32))), .val w94, .val w96, .unset, .unset, .unset, .unset, .unset, .unset, .unset]) (argsL := [(.int p3)]) (rest := []) (by rw [hml]; rfl) (lenOf own_pd4 rfl) rfl (hb hby at_21) (by decide) (by decide) (by decide) (by decide) ?_
  intro v99 T99 L99 X99 hQ99 OW99 hZ hown CH99
  obtain ⟨w99, rfl, N99, Xe99, O99, g99⟩ := hQ99
  show OGo p e below (T99.setTop (mkF m 24 #[.val (.int p1), .val (.int p2), .val (.int p3), .val (.int p4), .val (.int p5), .val (.int p6), .val (.int (((p1.toUInt32 >>> ((30 : Int32) &&& 31).toUInt32).toInt32) &&& (3 : Int32))), .val w94, .val w96, .unset, .unset, .unset, .unset, .unset, .unset, .unset] [w99])) (OEndW s Z consts_1 (fun v h L => v = some (.int (1 : Int32)) ∧ Fr n0 L) room_1.cells room_1.slots)
  have Nc99 := Fr.app Nc96 N99
  have sz99 : n0 ≤ T99.heap.size := Nat.le_trans sz96 Xe99.1
  refine OGo.step (fun _ kk => XS.astore X99.here hx rfl (hb hby at_24) rfl O99.isRef (l' := #[.val (.int p1), .val (.int p2), .val (.int p3), .val (.int p4), .val (.int p5), .val (.int p6), .val (.int (((p1.toUInt32 >>> ((30 : Int32) &&& 31).toUInt32).toInt32) &&& (3 : Int32))), .val w94, .val w96, .val w99, .unset, .unset, .unset, .unset, .unset, .unset]) (own_store1 rfl (by first | exact Or.inl rfl | exact Or.inr ⟨_, rfl, rfl⟩ | exact Or.inr ⟨_, rfl, own_cat rfl⟩) (own_cat O99.isRef)) kk) ?_
  show OGo p e below (T99.setTop (mkF m 26 #[.val (.int p1), .val (.int p2), .val (.int p3), .val (.int p4), .val (.int p5), .val (.int p6), .val (.int (((p1.toUInt32 >>> ((30 : Int32) &&& 31).toUInt32).toInt32) &&& (3 : Int32))), .val w94, .val w96, .val w99, .unset, .unset, .unset, .unset, .unset, .unset] [])) (OEndW s Z consts_1 (fun v h L => v = some (.int (1 : Int32)) ∧ Fr n0 L) room_1.cells room_1.slots)
  have xt100 := (own_ext_trans Xe96 Xe99)
  have fx101 := O94.ext xt100
  have fx102 := O96.ext Xe99
  refine OGo.step (fun _ kk => XS.iloadN X99.here hx rfl (hb hby at_26) rfl kk) ?_
  show OGo p e below (T99.setTop (mkF m 27 #[.val (.int p1), .val (.int p2), .val (.int p3), .val (.int p4), .val (.int p5), .val (.int p6), .val (.int (((p1.toUInt32 >>> ((30 : Int32) &&& 31).toUInt32).toInt32) &&& (3 : Int32))), .val w94, .val w96, .val w99, .unset, .unset, .unset, .unset, .unset, .unset] [(.int p4)])) (OEndW s Z consts_1 (fun v h L => v = some (.int (1 : Int32)) ∧ Fr n0 L) room_1.cells room_1.slots)
  have xt103 := (own_ext_trans xt97 Xe99)
  have fx104 := SC.ext xt103
  refine own_callSW X99 hx hZ (y := (⟨"com/example/tags_to_grants/tagstogrants/policy/CellEqualsPinLaw", "s", "(I)Ljava/lang/String;"⟩ : MethodName)) hown (hw _ (List.mem_of_getElem? (i := 0) rfl)) (hw _ (List.mem_of_getElem? (i := 1) rfl)) (hw _ (List.mem_of_getElem? (i := 2) rfl)) (hw _ (List.mem_of_getElem? (i := 3) rfl)) (by decide) hEL OW99 (W := 0) (own_s l Z a0 hw [] p4 zc T99.heap n0 sz99 fx104 hzc) rfl  (pc := 27) (Ls := #[.val (.int p1), .val (.int p2), .val (.int p3), .val (.int p4), .val (.int p5), .val (.int p6), .val (.int (((p1.toUInt32 >>> ((30 : Int32) &&& 31).toUInt32).toInt32) &&& (3 : Int32))), .val w94, .val w96, .val w99, .unset, .unset, .unset, .unset, .unset, .unset]) (argsL := [(.int p4)]) (rest := []) (by rw [hml]; rfl) (lenOf own_pd4 rfl) rfl (hb hby at_27) (by decide) (by decide) (by decide) (by decide) ?_
  intro v105 T105 L105 X105 hQ105 OW105 hZ hown CH105
  obtain ⟨w105, rfl, N105, Xe105, O105, g105⟩ := hQ105
  show OGo p e below (T105.setTop (mkF m 30 #[.val (.int p1), .val (.int p2), .val (.int p3), .val (.int p4), .val (.int p5), .val (.int p6), .val (.int (((p1.toUInt32 >>> ((30 : Int32) &&& 31).toUInt32).toInt32) &&& (3 : Int32))), .val w94, .val w96, .val w99, .unset, .unset, .unset, .unset, .unset, .unset] [w105])) (OEndW s Z consts_1 (fun v h L => v = some (.int (1 : Int32)) ∧ Fr n0 L) room_1.cells room_1.slots)
  have Nc105 := Fr.app Nc99 N105
  have sz105 : n0 ≤ T105.heap.size := Nat.le_trans sz99 Xe105.1
  have hne1 := OSv.sep fx101 O105 g105
  refine OGo.step (fun _ kk => XS.astore X105.here hx rfl (hb hby at_30) rfl O105.isRef (l' := #[.val (.int p1), .val (.int p2), .val (.int p3), .val (.int p4), .val (.int p5), .val (.int p6), .val (.int (((p1.toUInt32 >>> ((30 : Int32) &&& 31).toUInt32).toInt32) &&& (3 : Int32))), .val w94, .val w96, .val w99, .val w105, .unset, .unset, .unset, .unset, .unset]) (own_store1 rfl (by first | exact Or.inl rfl | exact Or.inr ⟨_, rfl, rfl⟩ | exact Or.inr ⟨_, rfl, own_cat rfl⟩) (own_cat O105.isRef)) kk) ?_
  show OGo p e below (T105.setTop (mkF m 32 #[.val (.int p1), .val (.int p2), .val (.int p3), .val (.int p4), .val (.int p5), .val (.int p6), .val (.int (((p1.toUInt32 >>> ((30 : Int32) &&& 31).toUInt32).toInt32) &&& (3 : Int32))), .val w94, .val w96, .val w99, .val w105, .unset, .unset, .unset, .unset, .unset] [])) (OEndW s Z consts_1 (fun v h L => v = some (.int (1 : Int32)) ∧ Fr n0 L) room_1.cells room_1.slots)
  have xt106 := (own_ext_trans xt100 Xe105)
  have fx107 := O94.ext xt106
  have xt108 := (own_ext_trans Xe99 Xe105)
  have fx109 := O96.ext xt108
  have fx110 := O99.ext Xe105
  refine OGo.step (fun _ kk => XS.iload X105.here hx rfl (hb hby at_32) rfl kk) ?_
  show OGo p e below (T105.setTop (mkF m 34 #[.val (.int p1), .val (.int p2), .val (.int p3), .val (.int p4), .val (.int p5), .val (.int p6), .val (.int (((p1.toUInt32 >>> ((30 : Int32) &&& 31).toUInt32).toInt32) &&& (3 : Int32))), .val w94, .val w96, .val w99, .val w105, .unset, .unset, .unset, .unset, .unset] [(.int p5)])) (OEndW s Z consts_1 (fun v h L => v = some (.int (1 : Int32)) ∧ Fr n0 L) room_1.cells room_1.slots)
  have xt111 := (own_ext_trans xt103 Xe105)
  have fx112 := SC.ext xt111
  refine own_callSW X105 hx hZ (y := (⟨"com/example/tags_to_grants/tagstogrants/policy/CellEqualsPinLaw", "s", "(I)Ljava/lang/String;"⟩ : MethodName)) hown (hw _ (List.mem_of_getElem? (i := 0) rfl)) (hw _ (List.mem_of_getElem? (i := 1) rfl)) (hw _ (List.mem_of_getElem? (i := 2) rfl)) (hw _ (List.mem_of_getElem? (i := 3) rfl)) (by decide) hEL OW105 (W := 0) (own_s l Z a0 hw [] p5 zc T105.heap n0 sz105 fx112 hzc) rfl  (pc := 34) (Ls := #[.val (.int p1), .val (.int p2), .val (.int p3), .val (.int p4), .val (.int p5), .val (.int p6), .val (.int (((p1.toUInt32 >>> ((30 : Int32) &&& 31).toUInt32).toInt32) &&& (3 : Int32))), .val w94, .val w96, .val w99, .val w105, .unset, .unset, .unset, .unset, .unset]) (argsL := [(.int p5)]) (rest := []) (by rw [hml]; rfl) (lenOf own_pd4 rfl) rfl (hb hby at_34) (by decide) (by decide) (by decide) (by decide) ?_
  intro v113 T113 L113 X113 hQ113 OW113 hZ hown CH113
  obtain ⟨w113, rfl, N113, Xe113, O113, g113⟩ := hQ113
  show OGo p e below (T113.setTop (mkF m 37 #[.val (.int p1), .val (.int p2), .val (.int p3), .val (.int p4), .val (.int p5), .val (.int p6), .val (.int (((p1.toUInt32 >>> ((30 : Int32) &&& 31).toUInt32).toInt32) &&& (3 : Int32))), .val w94, .val w96, .val w99, .val w105, .unset, .unset, .unset, .unset, .unset] [w113])) (OEndW s Z consts_1 (fun v h L => v = some (.int (1 : Int32)) ∧ Fr n0 L) room_1.cells room_1.slots)
  have Nc113 := Fr.app Nc105 N113
  have sz113 : n0 ≤ T113.heap.size := Nat.le_trans sz105 Xe113.1
  have hne2 := OSv.sep fx109 O113 g113
  refine OGo.step (fun _ kk => XS.astore X113.here hx rfl (hb hby at_37) rfl O113.isRef (l' := #[.val (.int p1), .val (.int p2), .val (.int p3), .val (.int p4), .val (.int p5), .val (.int p6), .val (.int (((p1.toUInt32 >>> ((30 : Int32) &&& 31).toUInt32).toInt32) &&& (3 : Int32))), .val w94, .val w96, .val w99, .val w105, .val w113, .unset, .unset, .unset, .unset]) (own_store1 rfl (by first | exact Or.inl rfl | exact Or.inr ⟨_, rfl, rfl⟩ | exact Or.inr ⟨_, rfl, own_cat rfl⟩) (own_cat O113.isRef)) kk) ?_
  show OGo p e below (T113.setTop (mkF m 39 #[.val (.int p1), .val (.int p2), .val (.int p3), .val (.int p4), .val (.int p5), .val (.int p6), .val (.int (((p1.toUInt32 >>> ((30 : Int32) &&& 31).toUInt32).toInt32) &&& (3 : Int32))), .val w94, .val w96, .val w99, .val w105, .val w113, .unset, .unset, .unset, .unset] [])) (OEndW s Z consts_1 (fun v h L => v = some (.int (1 : Int32)) ∧ Fr n0 L) room_1.cells room_1.slots)
  have xt114 := (own_ext_trans xt106 Xe113)
  have fx115 := O94.ext xt114
  have xt116 := (own_ext_trans xt108 Xe113)
  have fx117 := O96.ext xt116
  have xt118 := (own_ext_trans Xe105 Xe113)
  have fx119 := O99.ext xt118
  refine OGo.step (fun _ kk => XS.iload X113.here hx rfl (hb hby at_39) rfl kk) ?_
  show OGo p e below (T113.setTop (mkF m 41 #[.val (.int p1), .val (.int p2), .val (.int p3), .val (.int p4), .val (.int p5), .val (.int p6), .val (.int (((p1.toUInt32 >>> ((30 : Int32) &&& 31).toUInt32).toInt32) &&& (3 : Int32))), .val w94, .val w96, .val w99, .val w105, .val w113, .unset, .unset, .unset, .unset] [(.int p6)])) (OEndW s Z consts_1 (fun v h L => v = some (.int (1 : Int32)) ∧ Fr n0 L) room_1.cells room_1.slots)
  have xt120 := (own_ext_trans xt111 Xe113)
  have fx121 := SC.ext xt120
  refine own_callSW X113 hx hZ (y := (⟨"com/example/tags_to_grants/tagstogrants/policy/CellEqualsPinLaw", "s", "(I)Ljava/lang/String;"⟩ : MethodName)) hown (hw _ (List.mem_of_getElem? (i := 0) rfl)) (hw _ (List.mem_of_getElem? (i := 1) rfl)) (hw _ (List.mem_of_getElem? (i := 2) rfl)) (hw _ (List.mem_of_getElem? (i := 3) rfl)) (by decide) hEL OW113 (W := 0) (own_s l Z a0 hw [] p6 zc T113.heap n0 sz113 fx121 hzc) rfl  (pc := 41) (Ls := #[.val (.int p1), .val (.int p2), .val (.int p3), .val (.int p4), .val (.int p5), .val (.int p6), .val (.int (((p1.toUInt32 >>> ((30 : Int32) &&& 31).toUInt32).toInt32) &&& (3 : Int32))), .val w94, .val w96, .val w99, .val w105, .val w113, .unset, .unset, .unset, .unset]) (argsL := [(.int p6)]) (rest := []) (by rw [hml]; rfl) (lenOf own_pd4 rfl) rfl (hb hby at_41) (by decide) (by decide) (by decide) (by decide) ?_
  intro v122 T122 L122 X122 hQ122 OW122 hZ hown CH122
  obtain ⟨w122, rfl, N122, Xe122, O122, g122⟩ := hQ122
  show OGo p e below (T122.setTop (mkF m 44 #[.val (.int p1), .val (.int p2), .val (.int p3), .val (.int p4), .val (.int p5), .val (.int p6), .val (.int (((p1.toUInt32 >>> ((30 : Int32) &&& 31).toUInt32).toInt32) &&& (3 : Int32))), .val w94, .val w96, .val w99, .val w105, .val w113, .unset, .unset, .unset, .unset] [w122])) (OEndW s Z consts_1 (fun v h L => v = some (.int (1 : Int32)) ∧ Fr n0 L) room_1.cells room_1.slots)
  have Nc122 := Fr.app Nc113 N122
  have sz122 : n0 ≤ T122.heap.size := Nat.le_trans sz113 Xe122.1
  have hne3 := OSv.sep fx119 O122 g122
  refine OGo.step (fun _ kk => XS.astore X122.here hx rfl (hb hby at_44) rfl O122.isRef (l' := #[.val (.int p1), .val (.int p2), .val (.int p3), .val (.int p4), .val (.int p5), .val (.int p6), .val (.int (((p1.toUInt32 >>> ((30 : Int32) &&& 31).toUInt32).toInt32) &&& (3 : Int32))), .val w94, .val w96, .val w99, .val w105, .val w113, .val w122, .unset, .unset, .unset]) (own_store1 rfl (by first | exact Or.inl rfl | exact Or.inr ⟨_, rfl, rfl⟩ | exact Or.inr ⟨_, rfl, own_cat rfl⟩) (own_cat O122.isRef)) kk) ?_
  show OGo p e below (T122.setTop (mkF m 46 #[.val (.int p1), .val (.int p2), .val (.int p3), .val (.int p4), .val (.int p5), .val (.int p6), .val (.int (((p1.toUInt32 >>> ((30 : Int32) &&& 31).toUInt32).toInt32) &&& (3 : Int32))), .val w94, .val w96, .val w99, .val w105, .val w113, .val w122, .unset, .unset, .unset] [])) (OEndW s Z consts_1 (fun v h L => v = some (.int (1 : Int32)) ∧ Fr n0 L) room_1.cells room_1.slots)
  obtain ⟨T123, h123, X123, e123, E123, A123, D123, U123, st123⟩ := newO X122 hx hZ hown (hw _ (List.mem_of_getElem? (i := 37) rfl)) (hw _ (List.mem_of_getElem? (i := 38) rfl)) (hw _ (List.mem_of_getElem? (i := 39) rfl)) rfl (g := (mkF m 46 #[.val (.int p1), .val (.int p2), .val (.int p3), .val (.int p4), .val (.int p5), .val (.int p6), .val (.int (((p1.toUInt32 >>> ((30 : Int32) &&& 31).toUInt32).toInt32) &&& (3 : Int32))), .val w94, .val w96, .val w99, .val w105, .val w113, .val w122, .unset, .unset, .unset] [])) rfl (hb hby at_46) (by decide) (by decide)
  obtain ⟨c1, g123⟩ : ∃ z, z = T122.heap.size := ⟨_, rfl⟩
  rw [← g123] at A123 D123 U123 st123
  refine OGo.step st123 ?_
  show OGo p e below (T123.setTop (mkF m 49 #[.val (.int p1), .val (.int p2), .val (.int p3), .val (.int p4), .val (.int p5), .val (.int p6), .val (.int (((p1.toUInt32 >>> ((30 : Int32) &&& 31).toUInt32).toInt32) &&& (3 : Int32))), .val w94, .val w96, .val w99, .val w105, .val w113, .val w122, .unset, .unset, .unset] [(.ref c1)])) (OEndW s Z consts_1 (fun v h L => v = some (.int (1 : Int32)) ∧ Fr n0 L) room_1.cells room_1.slots)
  have gf_c1 : n0 ≤ c1 := Nat.le_trans sz122 (Nat.le_of_eq g123.symm)
  have sz123 : n0 ≤ h123.size := Nat.le_trans sz122 E123.1
  have OW124 := OW122.ext E123
  have F123_subject : Fld Z h123 c1 "com/example/tags_to_grants/tagstogrants/policy/Policy$Cell" "subject" "Ljava/lang/String;" .null := D123 (Or.inr (hw _ (List.mem_of_getElem? (i := 50) rfl))) (ty := (.object "java/lang/String")) (by decide)
  have F123_operation : Fld Z h123 c1 "com/example/tags_to_grants/tagstogrants/policy/Policy$Cell" "operation" "Ljava/lang/String;" .null := D123 (Or.inr (hw _ (List.mem_of_getElem? (i := 52) rfl))) (ty := (.object "java/lang/String")) (by decide)
  have F123_object : Fld Z h123 c1 "com/example/tags_to_grants/tagstogrants/policy/Policy$Cell" "object" "Ljava/lang/String;" .null := D123 (Or.inr (hw _ (List.mem_of_getElem? (i := 54) rfl))) (ty := (.object "java/lang/String")) (by decide)
  refine OGo.step (fun _ kk => XS.dup X123.here hx rfl (hb hby at_49) rfl rfl kk) ?_
  show OGo p e below (T123.setTop (mkF m 50 #[.val (.int p1), .val (.int p2), .val (.int p3), .val (.int p4), .val (.int p5), .val (.int p6), .val (.int (((p1.toUInt32 >>> ((30 : Int32) &&& 31).toUInt32).toInt32) &&& (3 : Int32))), .val w94, .val w96, .val w99, .val w105, .val w113, .val w122, .unset, .unset, .unset] [(.ref c1), (.ref c1)])) (OEndW s Z consts_1 (fun v h L => v = some (.int (1 : Int32)) ∧ Fr n0 L) room_1.cells room_1.slots)
  refine OGo.step (fun _ kk => XS.aload X123.here hx rfl (hb hby at_50) rfl O94.isRef kk) ?_
  show OGo p e below (T123.setTop (mkF m 52 #[.val (.int p1), .val (.int p2), .val (.int p3), .val (.int p4), .val (.int p5), .val (.int p6), .val (.int (((p1.toUInt32 >>> ((30 : Int32) &&& 31).toUInt32).toInt32) &&& (3 : Int32))), .val w94, .val w96, .val w99, .val w105, .val w113, .val w122, .unset, .unset, .unset] [w94, (.ref c1), (.ref c1)])) (OEndW s Z consts_1 (fun v h L => v = some (.int (1 : Int32)) ∧ Fr n0 L) room_1.cells room_1.slots)
  refine OGo.step (fun _ kk => XS.aload X123.here hx rfl (hb hby at_52) rfl O96.isRef kk) ?_
  show OGo p e below (T123.setTop (mkF m 54 #[.val (.int p1), .val (.int p2), .val (.int p3), .val (.int p4), .val (.int p5), .val (.int p6), .val (.int (((p1.toUInt32 >>> ((30 : Int32) &&& 31).toUInt32).toInt32) &&& (3 : Int32))), .val w94, .val w96, .val w99, .val w105, .val w113, .val w122, .unset, .unset, .unset] [w96, w94, (.ref c1), (.ref c1)])) (OEndW s Z consts_1 (fun v h L => v = some (.int (1 : Int32)) ∧ Fr n0 L) room_1.cells room_1.slots)
  refine OGo.step (fun _ kk => XS.aload X123.here hx rfl (hb hby at_54) rfl O99.isRef kk) ?_
  show OGo p e below (T123.setTop (mkF m 56 #[.val (.int p1), .val (.int p2), .val (.int p3), .val (.int p4), .val (.int p5), .val (.int p6), .val (.int (((p1.toUInt32 >>> ((30 : Int32) &&& 31).toUInt32).toInt32) &&& (3 : Int32))), .val w94, .val w96, .val w99, .val w105, .val w113, .val w122, .unset, .unset, .unset] [w99, w96, w94, (.ref c1), (.ref c1)])) (OEndW s Z consts_1 (fun v h L => v = some (.int (1 : Int32)) ∧ Fr n0 L) room_1.cells room_1.slots)
  have xt125 := (own_ext_trans xt114 Xe122)
  have xt126 := (own_ext_trans xt125 E123)
  have fx127 := O94.ext xt126
  have xt128 := (own_ext_trans xt116 Xe122)
  have xt129 := (own_ext_trans xt128 E123)
  have fx130 := O96.ext xt129
  have xt131 := (own_ext_trans xt118 Xe122)
  have xt132 := (own_ext_trans xt131 E123)
  have fx133 := O99.ext xt132
  refine own_special X123 hx hZ (y := (⟨"com/example/tags_to_grants/tagstogrants/policy/Policy$Cell", "<init>", "(Ljava/lang/String;Ljava/lang/String;Ljava/lang/String;)V"⟩ : MethodName)) rfl hown (hw _ (List.mem_of_getElem? (i := 40) rfl)) (hw _ (List.mem_of_getElem? (i := 41) rfl)) (hw _ (List.mem_of_getElem? (i := 42) rfl)) (hw _ (List.mem_of_getElem? (i := 39) rfl)) (by decide) (a := c1) (W := 1) (own_cinit l Z a0 hw [] c1 w94 w96 w99 h123 n0 sz123 A123 F123_subject F123_operation F123_object gf_c1 (fx127).isRef (fx130).isRef (fx133).isRef) e123  (pc := 56) (Ls := #[.val (.int p1), .val (.int p2), .val (.int p3), .val (.int p4), .val (.int p5), .val (.int p6), .val (.int (((p1.toUInt32 >>> ((30 : Int32) &&& 31).toUInt32).toInt32) &&& (3 : Int32))), .val w94, .val w96, .val w99, .val w105, .val w113, .val w122, .unset, .unset, .unset]) (argsL := [w94, w96, w99]) (rest := [(.ref c1)]) (by rw [hml]; rfl) (lenOf own_pd5 rfl) rfl (hb hby at_56) (by decide) (by decide) (by decide) (by decide) ?_
  intro v134 T134 L134 X134 hQ134
  obtain ⟨rfl, N134, K134, E134, Fa134, Fb134, Fc134⟩ := hQ134
  show OGo p e below (T134.setTop (mkF m 59 #[.val (.int p1), .val (.int p2), .val (.int p3), .val (.int p4), .val (.int p5), .val (.int p6), .val (.int (((p1.toUInt32 >>> ((30 : Int32) &&& 31).toUInt32).toInt32) &&& (3 : Int32))), .val w94, .val w96, .val w99, .val w105, .val w113, .val w122, .unset, .unset, .unset] [(.ref c1)])) (OEndW s Z consts_1 (fun v h L => v = some (.int (1 : Int32)) ∧ Fr n0 L) room_1.cells room_1.slots)
  have Nc134 := Fr.app Nc122 N134
  have sz134 : n0 ≤ T134.heap.size := Nat.le_trans sz123 K134.1
  have OW135 := OW124.keep K134 (sfS (Safe.exa (EL := consts_1) OW124.2.1.alike A123 (by decide) (by decide)) sf0)
  refine OGo.step (fun _ kk => XS.astore X134.here hx rfl (hb hby at_59) rfl rfl (l' := #[.val (.int p1), .val (.int p2), .val (.int p3), .val (.int p4), .val (.int p5), .val (.int p6), .val (.int (((p1.toUInt32 >>> ((30 : Int32) &&& 31).toUInt32).toInt32) &&& (3 : Int32))), .val w94, .val w96, .val w99, .val w105, .val w113, .val w122, .val (.ref c1), .unset, .unset]) rfl kk) ?_
  show OGo p e below (T134.setTop (mkF m 61 #[.val (.int p1), .val (.int p2), .val (.int p3), .val (.int p4), .val (.int p5), .val (.int p6), .val (.int (((p1.toUInt32 >>> ((30 : Int32) &&& 31).toUInt32).toInt32) &&& (3 : Int32))), .val w94, .val w96, .val w99, .val w105, .val w113, .val w122, .val (.ref c1), .unset, .unset] [])) (OEndW s Z consts_1 (fun v h L => v = some (.int (1 : Int32)) ∧ Fr n0 L) room_1.cells room_1.slots)
  refine OGo.step (fun _ kk => XS.iload X134.here hx rfl (hb hby at_61) rfl kk) ?_
  show OGo p e below (T134.setTop (mkF m 63 #[.val (.int p1), .val (.int p2), .val (.int p3), .val (.int p4), .val (.int p5), .val (.int p6), .val (.int (((p1.toUInt32 >>> ((30 : Int32) &&& 31).toUInt32).toInt32) &&& (3 : Int32))), .val w94, .val w96, .val w99, .val w105, .val w113, .val w122, .val (.ref c1), .unset, .unset] [(.int (((p1.toUInt32 >>> ((30 : Int32) &&& 31).toUInt32).toInt32) &&& (3 : Int32)))])) (OEndW s Z consts_1 (fun v h L => v = some (.int (1 : Int32)) ∧ Fr n0 L) room_1.cells room_1.slots)
  refine OGo.step (fun _ kk => XS.iconst X134.here hx rfl (hb hby at_63) kk) ?_
  show OGo p e below (T134.setTop (mkF m 64 #[.val (.int p1), .val (.int p2), .val (.int p3), .val (.int p4), .val (.int p5), .val (.int p6), .val (.int (((p1.toUInt32 >>> ((30 : Int32) &&& 31).toUInt32).toInt32) &&& (3 : Int32))), .val w94, .val w96, .val w99, .val w105, .val w113, .val w122, .val (.ref c1), .unset, .unset] [(.int (2 : Int32)), (.int (((p1.toUInt32 >>> ((30 : Int32) &&& 31).toUInt32).toInt32) &&& (3 : Int32)))])) (OEndW s Z consts_1 (fun v h L => v = some (.int (1 : Int32)) ∧ Fr n0 L) room_1.cells room_1.slots)
  by_cases hk2 : (((p1.toUInt32 >>> ((30 : Int32) &&& 31).toUInt32).toInt32) &&& (3 : Int32)) = (2 : Int32)
  · refine OGo.step (fun _ kk => XS.icmpNo X134.here hx rfl (hb hby at_64) rfl (teq hk2).2 kk) ?_
    show OGo p e below (T134.setTop (mkF m 67 #[.val (.int p1), .val (.int p2), .val (.int p3), .val (.int p4), .val (.int p5), .val (.int p6), .val (.int (((p1.toUInt32 >>> ((30 : Int32) &&& 31).toUInt32).toInt32) &&& (3 : Int32))), .val w94, .val w96, .val w99, .val w105, .val w113, .val w122, .val (.ref c1), .unset, .unset] [])) (OEndW s Z consts_1 (fun v h L => v = some (.int (1 : Int32)) ∧ Fr n0 L) room_1.cells room_1.slots)
    refine OGo.step (fun _ kk => XS.aload X134.here hx rfl (hb hby at_67) rfl rfl kk) ?_
    show OGo p e below (T134.setTop (mkF m 69 #[.val (.int p1), .val (.int p2), .val (.int p3), .val (.int p4), .val (.int p5), .val (.int p6), .val (.int (((p1.toUInt32 >>> ((30 : Int32) &&& 31).toUInt32).toInt32) &&& (3 : Int32))), .val w94, .val w96, .val w99, .val w105, .val w113, .val w122, .val (.ref c1), .unset, .unset] [(.ref c1)])) (OEndW s Z consts_1 (fun v h L => v = some (.int (1 : Int32)) ∧ Fr n0 L) room_1.cells room_1.slots)
    refine OGo.step (fun _ kk => XS.aconstNull X134.here hx rfl (hb hby at_69) kk) ?_
    show OGo p e below (T134.setTop (mkF m 70 #[.val (.int p1), .val (.int p2), .val (.int p3), .val (.int p4), .val (.int p5), .val (.int p6), .val (.int (((p1.toUInt32 >>> ((30 : Int32) &&& 31).toUInt32).toInt32) &&& (3 : Int32))), .val w94, .val w96, .val w99, .val w105, .val w113, .val w122, .val (.ref c1), .unset, .unset] [.null, (.ref c1)])) (OEndW s Z consts_1 (fun v h L => v = some (.int (1 : Int32)) ∧ Fr n0 L) room_1.cells room_1.slots)
    refine own_virtual X134 hx hZ (y := (⟨"com/example/tags_to_grants/tagstogrants/policy/Policy$Cell", "equals", "(Ljava/lang/Object;)Z"⟩ : MethodName)) (z := (⟨"com/example/tags_to_grants/tagstogrants/policy/Policy$Cell", "equals", "(Ljava/lang/Object;)Z"⟩ : MethodName)) hown (hw _ (List.mem_of_getElem? (i := 58) rfl)) (hw _ (List.mem_of_getElem? (i := 59) rfl)) (notFace_of_selects (args := #[]) (mvT hZ (hw _ (List.mem_of_getElem? (i := 61) rfl)))) (hw _ (List.mem_of_getElem? (i := 61) rfl)) (hw _ (List.mem_of_getElem? (i := 60) rfl)) (by decide) (hw _ (List.mem_of_getElem? (i := 62) rfl)) (hw _ (List.mem_of_getElem? (i := 39) rfl)) (b := c1) E134 (W := 0) (own_ceqN l Z a0 hw [] c1 _ n0 sz134) rfl  (pc := 70) (Ls := #[.val (.int p1), .val (.int p2), .val (.int p3), .val (.int p4), .val (.int p5), .val (.int p6), .val (.int (((p1.toUInt32 >>> ((30 : Int32) &&& 31).toUInt32).toInt32) &&& (3 : Int32))), .val w94, .val w96, .val w99, .val w105, .val w113, .val w122, .val (.ref c1), .unset, .unset]) (argsL := [.null]) (rest := []) (by rw [hml]; rfl) (lenOf own_pd2 rfl) rfl (hb hby at_70) (by decide) (by decide) (by decide) (by decide) ?_
    intro v136 T136 L136 X136 hQ136
    obtain ⟨rfl, N136, e136⟩ := hQ136
    show OGo p e below (T136.setTop (mkF m 73 #[.val (.int p1), .val (.int p2), .val (.int p3), .val (.int p4), .val (.int p5), .val (.int p6), .val (.int (((p1.toUInt32 >>> ((30 : Int32) &&& 31).toUInt32).toInt32) &&& (3 : Int32))), .val w94, .val w96, .val w99, .val w105, .val w113, .val w122, .val (.ref c1), .unset, .unset] [(.int (0 : Int32))])) (OEndW s Z consts_1 (fun v h L => v = some (.int (1 : Int32)) ∧ Fr n0 L) room_1.cells room_1.slots)
    have Nc136 := Fr.app Nc134 N136
    refine OGo.step (fun _ kk => XS.ifNo X136.here hx rfl (hb hby at_73) rfl ((if0 _ _).trans (teq rfl).2) kk) ?_
    show OGo p e below (T136.setTop (mkF m 76 #[.val (.int p1), .val (.int p2), .val (.int p3), .val (.int p4), .val (.int p5), .val (.int p6), .val (.int (((p1.toUInt32 >>> ((30 : Int32) &&& 31).toUInt32).toInt32) &&& (3 : Int32))), .val w94, .val w96, .val w99, .val w105, .val w113, .val w122, .val (.ref c1), .unset, .unset] [])) (OEndW s Z consts_1 (fun v h L => v = some (.int (1 : Int32)) ∧ Fr n0 L) room_1.cells room_1.slots)
    refine OGo.step (fun _ kk => XS.iconst X136.here hx rfl (hb hby at_76) kk) ?_
    show OGo p e below (T136.setTop (mkF m 77 #[.val (.int p1), .val (.int p2), .val (.int p3), .val (.int p4), .val (.int p5), .val (.int p6), .val (.int (((p1.toUInt32 >>> ((30 : Int32) &&& 31).toUInt32).toInt32) &&& (3 : Int32))), .val w94, .val w96, .val w99, .val w105, .val w113, .val w122, .val (.ref c1), .unset, .unset] [(.int (1 : Int32))])) (OEndW s Z consts_1 (fun v h L => v = some (.int (1 : Int32)) ∧ Fr n0 L) room_1.cells room_1.slots)
    refine OGo.step (fun _ kk => XS.goto X136.here hx rfl (pc0 := 77) (pc' := 81) rfl (hb hby at_77) (by decide) (by decide) kk) ?_
    show OGo p e below (T136.setTop (mkF m 81 #[.val (.int p1), .val (.int p2), .val (.int p3), .val (.int p4), .val (.int p5), .val (.int p6), .val (.int (((p1.toUInt32 >>> ((30 : Int32) &&& 31).toUInt32).toInt32) &&& (3 : Int32))), .val w94, .val w96, .val w99, .val w105, .val w113, .val w122, .val (.ref c1), .unset, .unset] [(.int (1 : Int32))])) (OEndW s Z consts_1 (fun v h L => v = some (.int (1 : Int32)) ∧ Fr n0 L) room_1.cells room_1.slots)
    exact own_retNW X136 hx hlk hEL OW135 e136 hret (by simp) (hb hby at_81) ⟨by rw [own_nar1], Nc136⟩ (by decide) (by decide)
  · refine OGo.step (fun _ kk => XS.icmpYes X134.here hx rfl (pc0 := 64) (pc' := 82) rfl (hb hby at_64) rfl (feq hk2).2 (by decide) (by decide) kk) ?_
    show OGo p e below (T134.setTop (mkF m 82 #[.val (.int p1), .val (.int p2), .val (.int p3), .val (.int p4), .val (.int p5), .val (.int p6), .val (.int (((p1.toUInt32 >>> ((30 : Int32) &&& 31).toUInt32).toInt32) &&& (3 : Int32))), .val w94, .val w96, .val w99, .val w105, .val w113, .val w122, .val (.ref c1), .unset, .unset] [])) (OEndW s Z consts_1 (fun v h L => v = some (.int (1 : Int32)) ∧ Fr n0 L) room_1.cells room_1.slots)
    refine OGo.step (fun _ kk => XS.iload X134.here hx rfl (hb hby at_82) rfl kk) ?_
    show OGo p e below (T134.setTop (mkF m 84 #[.val (.int p1), .val (.int p2), .val (.int p3), .val (.int p4), .val (.int p5), .val (.int p6), .val (.int (((p1.toUInt32 >>> ((30 : Int32) &&& 31).toUInt32).toInt32) &&& (3 : Int32))), .val w94, .val w96, .val w99, .val w105, .val w113, .val w122, .val (.ref c1), .unset, .unset] [(.int (((p1.toUInt32 >>> ((30 : Int32) &&& 31).toUInt32).toInt32) &&& (3 : Int32)))])) (OEndW s Z consts_1 (fun v h L => v = some (.int (1 : Int32)) ∧ Fr n0 L) room_1.cells room_1.slots)
    refine OGo.step (fun _ kk => XS.iconst X134.here hx rfl (hb hby at_84) kk) ?_
    show OGo p e below (T134.setTop (mkF m 85 #[.val (.int p1), .val (.int p2), .val (.int p3), .val (.int p4), .val (.int p5), .val (.int p6), .val (.int (((p1.toUInt32 >>> ((30 : Int32) &&& 31).toUInt32).toInt32) &&& (3 : Int32))), .val w94, .val w96, .val w99, .val w105, .val w113, .val w122, .val (.ref c1), .unset, .unset] [(.int (3 : Int32)), (.int (((p1.toUInt32 >>> ((30 : Int32) &&& 31).toUInt32).toInt32) &&& (3 : Int32)))])) (OEndW s Z consts_1 (fun v h L => v = some (.int (1 : Int32)) ∧ Fr n0 L) room_1.cells room_1.slots)
    by_cases hk3 : (((p1.toUInt32 >>> ((30 : Int32) &&& 31).toUInt32).toInt32) &&& (3 : Int32)) = (3 : Int32)
    · refine OGo.step (fun _ kk => XS.icmpNo X134.here hx rfl (hb hby at_85) rfl (teq hk3).2 kk) ?_
      show OGo p e below (T134.setTop (mkF m 88 #[.val (.int p1), .val (.int p2), .val (.int p3), .val (.int p4), .val (.int p5), .val (.int p6), .val (.int (((p1.toUInt32 >>> ((30 : Int32) &&& 31).toUInt32).toInt32) &&& (3 : Int32))), .val w94, .val w96, .val w99, .val w105, .val w113, .val w122, .val (.ref c1), .unset, .unset] [])) (OEndW s Z consts_1 (fun v h L => v = some (.int (1 : Int32)) ∧ Fr n0 L) room_1.cells room_1.slots)
      refine OGo.step (fun _ kk => XS.aload X134.here hx rfl (hb hby at_88) rfl O105.isRef kk) ?_
      show OGo p e below (T134.setTop (mkF m 90 #[.val (.int p1), .val (.int p2), .val (.int p3), .val (.int p4), .val (.int p5), .val (.int p6), .val (.int (((p1.toUInt32 >>> ((30 : Int32) &&& 31).toUInt32).toInt32) &&& (3 : Int32))), .val w94, .val w96, .val w99, .val w105, .val w113, .val w122, .val (.ref c1), .unset, .unset] [w105])) (OEndW s Z consts_1 (fun v h L => v = some (.int (1 : Int32)) ∧ Fr n0 L) room_1.cells room_1.slots)
      refine OGo.step (fun _ kk => XS.astore X134.here hx rfl (hb hby at_90) rfl O105.isRef (l' := #[.val (.int p1), .val (.int p2), .val (.int p3), .val (.int p4), .val (.int p5), .val (.int p6), .val (.int (((p1.toUInt32 >>> ((30 : Int32) &&& 31).toUInt32).toInt32) &&& (3 : Int32))), .val w94, .val w96, .val w99, .val w105, .val w113, .val w122, .val (.ref c1), .val w105, .unset]) (own_store1 rfl (by first | exact Or.inl rfl | exact Or.inr ⟨_, rfl, rfl⟩ | exact Or.inr ⟨_, rfl, own_cat rfl⟩) (own_cat O105.isRef)) kk) ?_
      show OGo p e below (T134.setTop (mkF m 92 #[.val (.int p1), .val (.int p2), .val (.int p3), .val (.int p4), .val (.int p5), .val (.int p6), .val (.int (((p1.toUInt32 >>> ((30 : Int32) &&& 31).toUInt32).toInt32) &&& (3 : Int32))), .val w94, .val w96, .val w99, .val w105, .val w113, .val w122, .val (.ref c1), .val w105, .unset] [])) (OEndW s Z consts_1 (fun v h L => v = some (.int (1 : Int32)) ∧ Fr n0 L) room_1.cells room_1.slots)
      refine OGo.step (fun _ kk => XS.aload X134.here hx rfl (hb hby at_92) rfl rfl kk) ?_
      show OGo p e below (T134.setTop (mkF m 94 #[.val (.int p1), .val (.int p2), .val (.int p3), .val (.int p4), .val (.int p5), .val (.int p6), .val (.int (((p1.toUInt32 >>> ((30 : Int32) &&& 31).toUInt32).toInt32) &&& (3 : Int32))), .val w94, .val w96, .val w99, .val w105, .val w113, .val w122, .val (.ref c1), .val w105, .unset] [(.ref c1)])) (OEndW s Z consts_1 (fun v h L => v = some (.int (1 : Int32)) ∧ Fr n0 L) room_1.cells room_1.slots)
      refine OGo.step (fun _ kk => XS.aload X134.here hx rfl (hb hby at_94) rfl O105.isRef kk) ?_
      show OGo p e below (T134.setTop (mkF m 96 #[.val (.int p1), .val (.int p2), .val (.int p3), .val (.int p4), .val (.int p5), .val (.int p6), .val (.int (((p1.toUInt32 >>> ((30 : Int32) &&& 31).toUInt32).toInt32) &&& (3 : Int32))), .val w94, .val w96, .val w99, .val w105, .val w113, .val w122, .val (.ref c1), .val w105, .unset] [w105, (.ref c1)])) (OEndW s Z consts_1 (fun v h L => v = some (.int (1 : Int32)) ∧ Fr n0 L) room_1.cells room_1.slots)
      have xt137 := (own_ext_trans Xe113 Xe122)
      have xt138 := (own_ext_trans xt137 E123)
      have xt139 := (own_ext_keep xt138 K134 (allS (Nat.le_trans xt137.1 (Nat.le_of_eq g123.symm)) all0))
      have fx140 := O105.ext xt139
      refine own_virtual X134 hx hZ (y := (⟨"com/example/tags_to_grants/tagstogrants/policy/Policy$Cell", "equals", "(Ljava/lang/Object;)Z"⟩ : MethodName)) (z := (⟨"com/example/tags_to_grants/tagstogrants/policy/Policy$Cell", "equals", "(Ljava/lang/Object;)Z"⟩ : MethodName)) hown (hw _ (List.mem_of_getElem? (i := 58) rfl)) (hw _ (List.mem_of_getElem? (i := 59) rfl)) (notFace_of_selects (args := #[]) (mvT hZ (hw _ (List.mem_of_getElem? (i := 61) rfl)))) (hw _ (List.mem_of_getElem? (i := 61) rfl)) (hw _ (List.mem_of_getElem? (i := 60) rfl)) (by decide) (hw _ (List.mem_of_getElem? (i := 62) rfl)) (hw _ (List.mem_of_getElem? (i := 39) rfl)) (b := c1) E134 (W := 0) (own_ceqV l Z a0 hw [] c1 _ _ _ n0 sz134 fx140) rfl  (pc := 96) (Ls := #[.val (.int p1), .val (.int p2), .val (.int p3), .val (.int p4), .val (.int p5), .val (.int p6), .val (.int (((p1.toUInt32 >>> ((30 : Int32) &&& 31).toUInt32).toInt32) &&& (3 : Int32))), .val w94, .val w96, .val w99, .val w105, .val w113, .val w122, .val (.ref c1), .val w105, .unset]) (argsL := [w105]) (rest := []) (by rw [hml]; rfl) (lenOf own_pd2 rfl) rfl (hb hby at_96) (by decide) (by decide) (by decide) (by decide) ?_
      intro v141 T141 L141 X141 hQ141
      obtain ⟨rfl, N141, e141⟩ := hQ141
      show OGo p e below (T141.setTop (mkF m 99 #[.val (.int p1), .val (.int p2), .val (.int p3), .val (.int p4), .val (.int p5), .val (.int p6), .val (.int (((p1.toUInt32 >>> ((30 : Int32) &&& 31).toUInt32).toInt32) &&& (3 : Int32))), .val w94, .val w96, .val w99, .val w105, .val w113, .val w122, .val (.ref c1), .val w105, .unset] [(.int (0 : Int32))])) (OEndW s Z consts_1 (fun v h L => v = some (.int (1 : Int32)) ∧ Fr n0 L) room_1.cells room_1.slots)
      have Nc141 := Fr.app Nc134 N141
      refine OGo.step (fun _ kk => XS.ifNo X141.here hx rfl (hb hby at_99) rfl ((if0 _ _).trans (teq rfl).2) kk) ?_
      show OGo p e below (T141.setTop (mkF m 102 #[.val (.int p1), .val (.int p2), .val (.int p3), .val (.int p4), .val (.int p5), .val (.int p6), .val (.int (((p1.toUInt32 >>> ((30 : Int32) &&& 31).toUInt32).toInt32) &&& (3 : Int32))), .val w94, .val w96, .val w99, .val w105, .val w113, .val w122, .val (.ref c1), .val w105, .unset] [])) (OEndW s Z consts_1 (fun v h L => v = some (.int (1 : Int32)) ∧ Fr n0 L) room_1.cells room_1.slots)
      refine OGo.step (fun _ kk => XS.iconst X141.here hx rfl (hb hby at_102) kk) ?_
      show OGo p e below (T141.setTop (mkF m 103 #[.val (.int p1), .val (.int p2), .val (.int p3), .val (.int p4), .val (.int p5), .val (.int p6), .val (.int (((p1.toUInt32 >>> ((30 : Int32) &&& 31).toUInt32).toInt32) &&& (3 : Int32))), .val w94, .val w96, .val w99, .val w105, .val w113, .val w122, .val (.ref c1), .val w105, .unset] [(.int (1 : Int32))])) (OEndW s Z consts_1 (fun v h L => v = some (.int (1 : Int32)) ∧ Fr n0 L) room_1.cells room_1.slots)
      refine OGo.step (fun _ kk => XS.goto X141.here hx rfl (pc0 := 103) (pc' := 107) rfl (hb hby at_103) (by decide) (by decide) kk) ?_
      show OGo p e below (T141.setTop (mkF m 107 #[.val (.int p1), .val (.int p2), .val (.int p3), .val (.int p4), .val (.int p5), .val (.int p6), .val (.int (((p1.toUInt32 >>> ((30 : Int32) &&& 31).toUInt32).toInt32) &&& (3 : Int32))), .val w94, .val w96, .val w99, .val w105, .val w113, .val w122, .val (.ref c1), .val w105, .unset] [(.int (1 : Int32))])) (OEndW s Z consts_1 (fun v h L => v = some (.int (1 : Int32)) ∧ Fr n0 L) room_1.cells room_1.slots)
      exact own_retNW X141 hx hlk hEL OW135 e141 hret (by simp) (hb hby at_107) ⟨by rw [own_nar1], Nc141⟩ (by decide) (by decide)
    · refine OGo.step (fun _ kk => XS.icmpYes X134.here hx rfl (pc0 := 85) (pc' := 108) rfl (hb hby at_85) rfl (feq hk3).2 (by decide) (by decide) kk) ?_
      show OGo p e below (T134.setTop (mkF m 108 #[.val (.int p1), .val (.int p2), .val (.int p3), .val (.int p4), .val (.int p5), .val (.int p6), .val (.int (((p1.toUInt32 >>> ((30 : Int32) &&& 31).toUInt32).toInt32) &&& (3 : Int32))), .val w94, .val w96, .val w99, .val w105, .val w113, .val w122, .val (.ref c1), .unset, .unset] [])) (OEndW s Z consts_1 (fun v h L => v = some (.int (1 : Int32)) ∧ Fr n0 L) room_1.cells room_1.slots)
      obtain ⟨T142, h142, X142, e142, E142, A142, D142, U142, st142⟩ := newO X134 hx hZ hown (hw _ (List.mem_of_getElem? (i := 37) rfl)) (hw _ (List.mem_of_getElem? (i := 38) rfl)) (hw _ (List.mem_of_getElem? (i := 39) rfl)) rfl (g := (mkF m 108 #[.val (.int p1), .val (.int p2), .val (.int p3), .val (.int p4), .val (.int p5), .val (.int p6), .val (.int (((p1.toUInt32 >>> ((30 : Int32) &&& 31).toUInt32).toInt32) &&& (3 : Int32))), .val w94, .val w96, .val w99, .val w105, .val w113, .val w122, .val (.ref c1), .unset, .unset] [])) rfl (hb hby at_108) (by decide) (by decide)
      obtain ⟨c2, g142⟩ : ∃ z, z = T134.heap.size := ⟨_, rfl⟩
      rw [← g142] at A142 D142 U142 st142
      refine OGo.step st142 ?_
      show OGo p e below (T142.setTop (mkF m 111 #[.val (.int p1), .val (.int p2), .val (.int p3), .val (.int p4), .val (.int p5), .val (.int p6), .val (.int (((p1.toUInt32 >>> ((30 : Int32) &&& 31).toUInt32).toInt32) &&& (3 : Int32))), .val w94, .val w96, .val w99, .val w105, .val w113, .val w122, .val (.ref c1), .unset, .unset] [(.ref c2)])) (OEndW s Z consts_1 (fun v h L => v = some (.int (1 : Int32)) ∧ Fr n0 L) room_1.cells room_1.slots)
      have ne_c1_c2 : c1 ≠ c2 := Nat.ne_of_lt (Nat.lt_of_lt_of_le E134.lt (Nat.le_of_eq g142.symm))
      have gf_c2 : n0 ≤ c2 := Nat.le_trans sz134 (Nat.le_of_eq g142.symm)
      have sz142 : n0 ≤ h142.size := Nat.le_trans sz134 E142.1
      have OW143 := OW135.ext E142
      have F142_subject : Fld Z h142 c2 "com/example/tags_to_grants/tagstogrants/policy/Policy$Cell" "subject" "Ljava/lang/String;" .null := D142 (Or.inr (hw _ (List.mem_of_getElem? (i := 50) rfl))) (ty := (.object "java/lang/String")) (by decide)
      have F142_operation : Fld Z h142 c2 "com/example/tags_to_grants/tagstogrants/policy/Policy$Cell" "operation" "Ljava/lang/String;" .null := D142 (Or.inr (hw _ (List.mem_of_getElem? (i := 52) rfl))) (ty := (.object "java/lang/String")) (by decide)
      have F142_object : Fld Z h142 c2 "com/example/tags_to_grants/tagstogrants/policy/Policy$Cell" "object" "Ljava/lang/String;" .null := D142 (Or.inr (hw _ (List.mem_of_getElem? (i := 54) rfl))) (ty := (.object "java/lang/String")) (by decide)
      refine OGo.step (fun _ kk => XS.dup X142.here hx rfl (hb hby at_111) rfl rfl kk) ?_
      show OGo p e below (T142.setTop (mkF m 112 #[.val (.int p1), .val (.int p2), .val (.int p3), .val (.int p4), .val (.int p5), .val (.int p6), .val (.int (((p1.toUInt32 >>> ((30 : Int32) &&& 31).toUInt32).toInt32) &&& (3 : Int32))), .val w94, .val w96, .val w99, .val w105, .val w113, .val w122, .val (.ref c1), .unset, .unset] [(.ref c2), (.ref c2)])) (OEndW s Z consts_1 (fun v h L => v = some (.int (1 : Int32)) ∧ Fr n0 L) room_1.cells room_1.slots)
      refine OGo.step (fun _ kk => XS.aload X142.here hx rfl (hb hby at_112) rfl O105.isRef kk) ?_
      show OGo p e below (T142.setTop (mkF m 114 #[.val (.int p1), .val (.int p2), .val (.int p3), .val (.int p4), .val (.int p5), .val (.int p6), .val (.int (((p1.toUInt32 >>> ((30 : Int32) &&& 31).toUInt32).toInt32) &&& (3 : Int32))), .val w94, .val w96, .val w99, .val w105, .val w113, .val w122, .val (.ref c1), .unset, .unset] [w105, (.ref c2), (.ref c2)])) (OEndW s Z consts_1 (fun v h L => v = some (.int (1 : Int32)) ∧ Fr n0 L) room_1.cells room_1.slots)
      refine OGo.step (fun _ kk => XS.aload X142.here hx rfl (hb hby at_114) rfl O113.isRef kk) ?_
      show OGo p e below (T142.setTop (mkF m 116 #[.val (.int p1), .val (.int p2), .val (.int p3), .val (.int p4), .val (.int p5), .val (.int p6), .val (.int (((p1.toUInt32 >>> ((30 : Int32) &&& 31).toUInt32).toInt32) &&& (3 : Int32))), .val w94, .val w96, .val w99, .val w105, .val w113, .val w122, .val (.ref c1), .unset, .unset] [w113, w105, (.ref c2), (.ref c2)])) (OEndW s Z consts_1 (fun v h L => v = some (.int (1 : Int32)) ∧ Fr n0 L) room_1.cells room_1.slots)
      refine OGo.step (fun _ kk => XS.aload X142.here hx rfl (hb hby at_116) rfl O122.isRef kk) ?_
      show OGo p e below (T142.setTop (mkF m 118 #[.val (.int p1), .val (.int p2), .val (.int p3), .val (.int p4), .val (.int p5), .val (.int p6), .val (.int (((p1.toUInt32 >>> ((30 : Int32) &&& 31).toUInt32).toInt32) &&& (3 : Int32))), .val w94, .val w96, .val w99, .val w105, .val w113, .val w122, .val (.ref c1), .unset, .unset] [w122, w113, w105, (.ref c2), (.ref c2)])) (OEndW s Z consts_1 (fun v h L => v = some (.int (1 : Int32)) ∧ Fr n0 L) room_1.cells room_1.slots)
      have xt144 := (own_ext_trans Xe113 Xe122)
      have xt145 := (own_ext_trans xt144 E123)
      have xt146 := (own_ext_keep xt145 K134 (allS (Nat.le_trans xt144.1 (Nat.le_of_eq g123.symm)) all0))
      have xt147 := (own_ext_trans xt146 E142)
      have fx148 := O105.ext xt147
      have xt149 := (own_ext_trans Xe122 E123)
      have xt150 := (own_ext_keep xt149 K134 (allS (Nat.le_trans Xe122.1 (Nat.le_of_eq g123.symm)) all0))
      have xt151 := (own_ext_trans xt150 E142)
      have fx152 := O113.ext xt151
      have xt153 := (own_ext_keep E123 K134 (allS (Nat.le_of_eq g123.symm) all0))
      have xt154 := (own_ext_trans xt153 E142)
      have fx155 := O122.ext xt154
      refine own_special X142 hx hZ (y := (⟨"com/example/tags_to_grants/tagstogrants/policy/Policy$Cell", "<init>", "(Ljava/lang/String;Ljava/lang/String;Ljava/lang/String;)V"⟩ : MethodName)) rfl hown (hw _ (List.mem_of_getElem? (i := 40) rfl)) (hw _ (List.mem_of_getElem? (i := 41) rfl)) (hw _ (List.mem_of_getElem? (i := 42) rfl)) (hw _ (List.mem_of_getElem? (i := 39) rfl)) (by decide) (a := c2) (W := 1) (own_cinit l Z a0 hw [] c2 w105 w113 w122 h142 n0 sz142 A142 F142_subject F142_operation F142_object gf_c2 (fx148).isRef (fx152).isRef (fx155).isRef) e142  (pc := 118) (Ls := #[.val (.int p1), .val (.int p2), .val (.int p3), .val (.int p4), .val (.int p5), .val (.int p6), .val (.int (((p1.toUInt32 >>> ((30 : Int32) &&& 31).toUInt32).toInt32) &&& (3 : Int32))), .val w94, .val w96, .val w99, .val w105, .val w113, .val w122, .val (.ref c1), .unset, .unset]) (argsL := [w105, w113, w122]) (rest := [(.ref c2)]) (by rw [hml]; rfl) (lenOf own_pd5 rfl) rfl (hb hby at_118) (by decide) (by decide) (by decide) (by decide) ?_
      intro v156 T156 L156 X156 hQ156
      obtain ⟨rfl, N156, K156, E156, Fa156, Fb156, Fc156⟩ := hQ156
      show OGo p e below (T156.setTop (mkF m 121 #[.val (.int p1), .val (.int p2), .val (.int p3), .val (.int p4), .val (.int p5), .val (.int p6), .val (.int (((p1.toUInt32 >>> ((30 : Int32) &&& 31).toUInt32).toInt32) &&& (3 : Int32))), .val w94, .val w96, .val w99, .val w105, .val w113, .val w122, .val (.ref c1), .unset, .unset] [(.ref c2)])) (OEndW s Z consts_1 (fun v h L => v = some (.int (1 : Int32)) ∧ Fr n0 L) room_1.cells room_1.slots)
      have Nc156 := Fr.app Nc134 N156
      have sz156 : n0 ≤ T156.heap.size := Nat.le_trans sz142 K156.1
      have OW157 := OW143.keep K156 (sfS (Safe.exa (EL := consts_1) OW143.2.1.alike A142 (by decide) (by decide)) sf0)
      refine OGo.step (fun _ kk => XS.astore X156.here hx rfl (hb hby at_121) rfl rfl (l' := #[.val (.int p1), .val (.int p2), .val (.int p3), .val (.int p4), .val (.int p5), .val (.int p6), .val (.int (((p1.toUInt32 >>> ((30 : Int32) &&& 31).toUInt32).toInt32) &&& (3 : Int32))), .val w94, .val w96, .val w99, .val w105, .val w113, .val w122, .val (.ref c1), .val (.ref c2), .unset]) rfl kk) ?_
      show OGo p e below (T156.setTop (mkF m 123 #[.val (.int p1), .val (.int p2), .val (.int p3), .val (.int p4), .val (.int p5), .val (.int p6), .val (.int (((p1.toUInt32 >>> ((30 : Int32) &&& 31).toUInt32).toInt32) &&& (3 : Int32))), .val w94, .val w96, .val w99, .val w105, .val w113, .val w122, .val (.ref c1), .val (.ref c2), .unset] [])) (OEndW s Z consts_1 (fun v h L => v = some (.int (1 : Int32)) ∧ Fr n0 L) room_1.cells room_1.slots)
      have xt158 := (own_ext_keep xt126 K134 (allS (Nat.le_trans xt125.1 (Nat.le_of_eq g123.symm)) all0))
      have xt159 := (own_ext_trans xt158 E142)
      have xt160 := (own_ext_keep xt159 K156 (allS (Nat.le_trans xt158.1 (Nat.le_of_eq g142.symm)) all0))
      have fx161 := O94.ext xt160
      have xt162 := (own_ext_keep xt129 K134 (allS (Nat.le_trans xt128.1 (Nat.le_of_eq g123.symm)) all0))
      have xt163 := (own_ext_trans xt162 E142)
      have xt164 := (own_ext_keep xt163 K156 (allS (Nat.le_trans xt162.1 (Nat.le_of_eq g142.symm)) all0))
      have fx165 := O96.ext xt164
      have xt166 := (own_ext_keep xt132 K134 (allS (Nat.le_trans xt131.1 (Nat.le_of_eq g123.symm)) all0))
      have xt167 := (own_ext_trans xt166 E142)
      have xt168 := (own_ext_keep xt167 K156 (allS (Nat.le_trans xt166.1 (Nat.le_of_eq g142.symm)) all0))
      have fx169 := O99.ext xt168
      have xt170 := (own_ext_keep xt147 K156 (allS (Nat.le_trans xt146.1 (Nat.le_of_eq g142.symm)) all0))
      have fx171 := O105.ext xt170
      have xt172 := (own_ext_keep xt151 K156 (allS (Nat.le_trans xt150.1 (Nat.le_of_eq g142.symm)) all0))
      have fx173 := O113.ext xt172
      have xt174 := (own_ext_keep xt154 K156 (allS (Nat.le_trans xt153.1 (Nat.le_of_eq g142.symm)) all0))
      have fx175 := O122.ext xt174
      have xt176 := (own_ext_trans xt120 Xe122)
      have xt177 := (own_ext_trans xt176 E123)
      have xt178 := (own_ext_keep xt177 K134 (allS (Nat.le_trans xt176.1 (Nat.le_of_eq g123.symm)) all0))
      have xt179 := (own_ext_trans xt178 E142)
      have xt180 := (own_ext_keep xt179 K156 (allS (Nat.le_trans xt178.1 (Nat.le_of_eq g142.symm)) all0))
      have fx181 := SC.ext xt180
      have fc182 := ((E134.ext E142).keep K156)
      have fc183 := ((Fa134.ext E142).keep K156 (ninS ne_c1_c2 nin0))
      have fc184 := ((Fb134.ext E142).keep K156 (ninS ne_c1_c2 nin0))
      have fc185 := ((Fc134.ext E142).keep K156 (ninS ne_c1_c2 nin0))
      refine OGo.step (fun _ kk => XS.aload X156.here hx rfl (hb hby at_123) rfl O94.isRef kk) ?_
      show OGo p e below (T156.setTop (mkF m 125 #[.val (.int p1), .val (.int p2), .val (.int p3), .val (.int p4), .val (.int p5), .val (.int p6), .val (.int (((p1.toUInt32 >>> ((30 : Int32) &&& 31).toUInt32).toInt32) &&& (3 : Int32))), .val w94, .val w96, .val w99, .val w105, .val w113, .val w122, .val (.ref c1), .val (.ref c2), .unset] [w94])) (OEndW s Z consts_1 (fun v h L => v = some (.int (1 : Int32)) ∧ Fr n0 L) room_1.cells room_1.slots)
      refine OGo.step (fun _ kk => XS.aload X156.here hx rfl (hb hby at_125) rfl O105.isRef kk) ?_
      show OGo p e below (T156.setTop (mkF m 127 #[.val (.int p1), .val (.int p2), .val (.int p3), .val (.int p4), .val (.int p5), .val (.int p6), .val (.int (((p1.toUInt32 >>> ((30 : Int32) &&& 31).toUInt32).toInt32) &&& (3 : Int32))), .val w94, .val w96, .val w99, .val w105, .val w113, .val w122, .val (.ref c1), .val (.ref c2), .unset] [w105, w94])) (OEndW s Z consts_1 (fun v h L => v = some (.int (1 : Int32)) ∧ Fr n0 L) room_1.cells room_1.slots)
      refine own_callS X156 hx hZ (y := (⟨"com/example/tags_to_grants/tagstogrants/policy/CellEqualsPinLaw", "same", "(Ljava/lang/String;Ljava/lang/String;)Z"⟩ : MethodName)) hown (hw _ (List.mem_of_getElem? (i := 55) rfl)) (hw _ (List.mem_of_getElem? (i := 56) rfl)) (hw _ (List.mem_of_getElem? (i := 2) rfl)) (hw _ (List.mem_of_getElem? (i := 57) rfl)) (by decide) (W := 0) (own_same l Z a0 hw [] zc w94 w105 (own_so p1) (own_so p4) T156.heap n0 sz156 fx181 hzc fx161 fx171) rfl  (pc := 127) (Ls := #[.val (.int p1), .val (.int p2), .val (.int p3), .val (.int p4), .val (.int p5), .val (.int p6), .val (.int (((p1.toUInt32 >>> ((30 : Int32) &&& 31).toUInt32).toInt32) &&& (3 : Int32))), .val w94, .val w96, .val w99, .val w105, .val w113, .val w122, .val (.ref c1), .val (.ref c2), .unset]) (argsL := [w94, w105]) (rest := []) (by rw [hml]; rfl) (lenOf own_pd6 rfl) rfl (hb hby at_127) (by decide) (by decide) (by decide) (by decide) ?_
      intro v186 T186 L186 X186 hQ186
      obtain ⟨rfl, N186, e186⟩ := hQ186
      show OGo p e below (T186.setTop (mkF m 130 #[.val (.int p1), .val (.int p2), .val (.int p3), .val (.int p4), .val (.int p5), .val (.int p6), .val (.int (((p1.toUInt32 >>> ((30 : Int32) &&& 31).toUInt32).toInt32) &&& (3 : Int32))), .val w94, .val w96, .val w99, .val w105, .val w113, .val w122, .val (.ref c1), .val (.ref c2), .unset] [(.int (if (own_so p1) = (own_so p4) then (1 : Int32) else 0))])) (OEndW s Z consts_1 (fun v h L => v = some (.int (1 : Int32)) ∧ Fr n0 L) room_1.cells room_1.slots)
      have Nc186 := Fr.app Nc156 N186
      by_cases hm1 : (if (own_so p1) = (own_so p4) then (1 : Int32) else 0) = (0 : Int32)
      · refine OGo.step (fun _ kk => XS.ifYes X186.here hx rfl (pc0 := 130) (pc' := 157) rfl (hb hby at_130) rfl ((if0 _ _).trans (teq hm1).1) (by decide) (by decide) kk) ?_
        show OGo p e below (T186.setTop (mkF m 157 #[.val (.int p1), .val (.int p2), .val (.int p3), .val (.int p4), .val (.int p5), .val (.int p6), .val (.int (((p1.toUInt32 >>> ((30 : Int32) &&& 31).toUInt32).toInt32) &&& (3 : Int32))), .val w94, .val w96, .val w99, .val w105, .val w113, .val w122, .val (.ref c1), .val (.ref c2), .unset] [])) (OEndW s Z consts_1 (fun v h L => v = some (.int (1 : Int32)) ∧ Fr n0 L) room_1.cells room_1.slots)
        refine OGo.step (fun _ kk => XS.iconst X186.here hx rfl (hb hby at_157) kk) ?_
        show OGo p e below (T186.setTop (mkF m 158 #[.val (.int p1), .val (.int p2), .val (.int p3), .val (.int p4), .val (.int p5), .val (.int p6), .val (.int (((p1.toUInt32 >>> ((30 : Int32) &&& 31).toUInt32).toInt32) &&& (3 : Int32))), .val w94, .val w96, .val w99, .val w105, .val w113, .val w122, .val (.ref c1), .val (.ref c2), .unset] [(.int (0 : Int32))])) (OEndW s Z consts_1 (fun v h L => v = some (.int (1 : Int32)) ∧ Fr n0 L) room_1.cells room_1.slots)
        refine OGo.step (fun _ kk => XS.istore X186.here hx rfl (hb hby at_158) rfl (l' := #[.val (.int p1), .val (.int p2), .val (.int p3), .val (.int p4), .val (.int p5), .val (.int p6), .val (.int (((p1.toUInt32 >>> ((30 : Int32) &&& 31).toUInt32).toInt32) &&& (3 : Int32))), .val w94, .val w96, .val w99, .val w105, .val w113, .val w122, .val (.ref c1), .val (.ref c2), .val (.int (0 : Int32))]) rfl kk) ?_
        show OGo p e below (T186.setTop (mkF m 160 #[.val (.int p1), .val (.int p2), .val (.int p3), .val (.int p4), .val (.int p5), .val (.int p6), .val (.int (((p1.toUInt32 >>> ((30 : Int32) &&& 31).toUInt32).toInt32) &&& (3 : Int32))), .val w94, .val w96, .val w99, .val w105, .val w113, .val w122, .val (.ref c1), .val (.ref c2), .val (.int (0 : Int32))] [])) (OEndW s Z consts_1 (fun v h L => v = some (.int (1 : Int32)) ∧ Fr n0 L) room_1.cells room_1.slots)
        refine OGo.step (fun _ kk => XS.aload X186.here hx rfl (hb hby at_160) rfl rfl kk) ?_
        show OGo p e below (T186.setTop (mkF m 162 #[.val (.int p1), .val (.int p2), .val (.int p3), .val (.int p4), .val (.int p5), .val (.int p6), .val (.int (((p1.toUInt32 >>> ((30 : Int32) &&& 31).toUInt32).toInt32) &&& (3 : Int32))), .val w94, .val w96, .val w99, .val w105, .val w113, .val w122, .val (.ref c1), .val (.ref c2), .val (.int (0 : Int32))] [(.ref c1)])) (OEndW s Z consts_1 (fun v h L => v = some (.int (1 : Int32)) ∧ Fr n0 L) room_1.cells room_1.slots)
        refine OGo.step (fun _ kk => XS.aload X186.here hx rfl (hb hby at_162) rfl rfl kk) ?_
        show OGo p e below (T186.setTop (mkF m 164 #[.val (.int p1), .val (.int p2), .val (.int p3), .val (.int p4), .val (.int p5), .val (.int p6), .val (.int (((p1.toUInt32 >>> ((30 : Int32) &&& 31).toUInt32).toInt32) &&& (3 : Int32))), .val w94, .val w96, .val w99, .val w105, .val w113, .val w122, .val (.ref c1), .val (.ref c2), .val (.int (0 : Int32))] [(.ref c2), (.ref c1)])) (OEndW s Z consts_1 (fun v h L => v = some (.int (1 : Int32)) ∧ Fr n0 L) room_1.cells room_1.slots)
        refine own_virtual X186 hx hZ (y := (⟨"com/example/tags_to_grants/tagstogrants/policy/Policy$Cell", "equals", "(Ljava/lang/Object;)Z"⟩ : MethodName)) (z := (⟨"com/example/tags_to_grants/tagstogrants/policy/Policy$Cell", "equals", "(Ljava/lang/Object;)Z"⟩ : MethodName)) hown (hw _ (List.mem_of_getElem? (i := 58) rfl)) (hw _ (List.mem_of_getElem? (i := 59) rfl)) (notFace_of_selects (args := #[]) (mvT hZ (hw _ (List.mem_of_getElem? (i := 61) rfl)))) (hw _ (List.mem_of_getElem? (i := 61) rfl)) (hw _ (List.mem_of_getElem? (i := 60) rfl)) (by decide) (hw _ (List.mem_of_getElem? (i := 62) rfl)) (hw _ (List.mem_of_getElem? (i := 39) rfl)) (b := c1) fc182 (W := 0) (own_ceq l Z a0 hw [] c1 c2 zc w94 w96 w99 w105 w113 w122 (own_so p1) (own_so p2) (own_so p3) (own_so p4) (own_so p5) (own_so p6) T156.heap n0 sz156 fx181 hzc E156 fc183 fc184 fc185 Fa156 Fb156 Fc156 fx161 fx171 hne1 fx165 fx173 hne2 fx169 fx175 hne3) e186  (pc := 164) (Ls := #[.val (.int p1), .val (.int p2), .val (.int p3), .val (.int p4), .val (.int p5), .val (.int p6), .val (.int (((p1.toUInt32 >>> ((30 : Int32) &&& 31).toUInt32).toInt32) &&& (3 : Int32))), .val w94, .val w96, .val w99, .val w105, .val w113, .val w122, .val (.ref c1), .val (.ref c2), .val (.int (0 : Int32))]) (argsL := [(.ref c2)]) (rest := []) (by rw [hml]; rfl) (lenOf own_pd2 rfl) rfl (hb hby at_164) (by decide) (by decide) (by decide) (by decide) ?_
        intro v187 T187 L187 X187 hQ187
        obtain ⟨rfl, N187, e187⟩ := hQ187
        show OGo p e below (T187.setTop (mkF m 167 #[.val (.int p1), .val (.int p2), .val (.int p3), .val (.int p4), .val (.int p5), .val (.int p6), .val (.int (((p1.toUInt32 >>> ((30 : Int32) &&& 31).toUInt32).toInt32) &&& (3 : Int32))), .val w94, .val w96, .val w99, .val w105, .val w113, .val w122, .val (.ref c1), .val (.ref c2), .val (.int (0 : Int32))] [(.int (if (own_so p1) = (own_so p4) ∧ (own_so p2) = (own_so p5) ∧ (own_so p3) = (own_so p6) then (1 : Int32) else 0))])) (OEndW s Z consts_1 (fun v h L => v = some (.int (1 : Int32)) ∧ Fr n0 L) room_1.cells room_1.slots)
        have Nc187 := Fr.app Nc186 N187
        refine OGo.step (fun _ kk => XS.iload X187.here hx rfl (hb hby at_167) rfl kk) ?_
        show OGo p e below (T187.setTop (mkF m 169 #[.val (.int p1), .val (.int p2), .val (.int p3), .val (.int p4), .val (.int p5), .val (.int p6), .val (.int (((p1.toUInt32 >>> ((30 : Int32) &&& 31).toUInt32).toInt32) &&& (3 : Int32))), .val w94, .val w96, .val w99, .val w105, .val w113, .val w122, .val (.ref c1), .val (.ref c2), .val (.int (0 : Int32))] [(.int (0 : Int32)), (.int (if (own_so p1) = (own_so p4) ∧ (own_so p2) = (own_so p5) ∧ (own_so p3) = (own_so p6) then (1 : Int32) else 0))])) (OEndW s Z consts_1 (fun v h L => v = some (.int (1 : Int32)) ∧ Fr n0 L) room_1.cells room_1.slots)
        refine OGo.step (fun _ kk => XS.icmpNo X187.here hx rfl (hb hby at_169) rfl (teq (if_neg (fun z => own_if0 hm1 z.1))).2 kk) ?_
        show OGo p e below (T187.setTop (mkF m 172 #[.val (.int p1), .val (.int p2), .val (.int p3), .val (.int p4), .val (.int p5), .val (.int p6), .val (.int (((p1.toUInt32 >>> ((30 : Int32) &&& 31).toUInt32).toInt32) &&& (3 : Int32))), .val w94, .val w96, .val w99, .val w105, .val w113, .val w122, .val (.ref c1), .val (.ref c2), .val (.int (0 : Int32))] [])) (OEndW s Z consts_1 (fun v h L => v = some (.int (1 : Int32)) ∧ Fr n0 L) room_1.cells room_1.slots)
        refine OGo.step (fun _ kk => XS.aload X187.here hx rfl (hb hby at_172) rfl rfl kk) ?_
        show OGo p e below (T187.setTop (mkF m 174 #[.val (.int p1), .val (.int p2), .val (.int p3), .val (.int p4), .val (.int p5), .val (.int p6), .val (.int (((p1.toUInt32 >>> ((30 : Int32) &&& 31).toUInt32).toInt32) &&& (3 : Int32))), .val w94, .val w96, .val w99, .val w105, .val w113, .val w122, .val (.ref c1), .val (.ref c2), .val (.int (0 : Int32))] [(.ref c2)])) (OEndW s Z consts_1 (fun v h L => v = some (.int (1 : Int32)) ∧ Fr n0 L) room_1.cells room_1.slots)
        refine OGo.step (fun _ kk => XS.aload X187.here hx rfl (hb hby at_174) rfl rfl kk) ?_
        show OGo p e below (T187.setTop (mkF m 176 #[.val (.int p1), .val (.int p2), .val (.int p3), .val (.int p4), .val (.int p5), .val (.int p6), .val (.int (((p1.toUInt32 >>> ((30 : Int32) &&& 31).toUInt32).toInt32) &&& (3 : Int32))), .val w94, .val w96, .val w99, .val w105, .val w113, .val w122, .val (.ref c1), .val (.ref c2), .val (.int (0 : Int32))] [(.ref c1), (.ref c2)])) (OEndW s Z consts_1 (fun v h L => v = some (.int (1 : Int32)) ∧ Fr n0 L) room_1.cells room_1.slots)
        refine own_virtual X187 hx hZ (y := (⟨"com/example/tags_to_grants/tagstogrants/policy/Policy$Cell", "equals", "(Ljava/lang/Object;)Z"⟩ : MethodName)) (z := (⟨"com/example/tags_to_grants/tagstogrants/policy/Policy$Cell", "equals", "(Ljava/lang/Object;)Z"⟩ : MethodName)) hown (hw _ (List.mem_of_getElem? (i := 58) rfl)) (hw _ (List.mem_of_getElem? (i := 59) rfl)) (notFace_of_selects (args := #[]) (mvT hZ (hw _ (List.mem_of_getElem? (i := 61) rfl)))) (hw _ (List.mem_of_getElem? (i := 61) rfl)) (hw _ (List.mem_of_getElem? (i := 60) rfl)) (by decide) (hw _ (List.mem_of_getElem? (i := 62) rfl)) (hw _ (List.mem_of_getElem? (i := 39) rfl)) (b := c2) E156 (W := 0) (own_ceq l Z a0 hw [] c2 c1 zc w105 w113 w122 w94 w96 w99 (own_so p4) (own_so p5) (own_so p6) (own_so p1) (own_so p2) (own_so p3) T156.heap n0 sz156 fx181 hzc fc182 Fa156 Fb156 Fc156 fc183 fc184 fc185 fx171 fx161 (fun z => (hne1 z.symm).symm) fx173 fx165 (fun z => (hne2 z.symm).symm) fx175 fx169 (fun z => (hne3 z.symm).symm)) e187  (pc := 176) (Ls := #[.val (.int p1), .val (.int p2), .val (.int p3), .val (.int p4), .val (.int p5), .val (.int p6), .val (.int (((p1.toUInt32 >>> ((30 : Int32) &&& 31).toUInt32).toInt32) &&& (3 : Int32))), .val w94, .val w96, .val w99, .val w105, .val w113, .val w122, .val (.ref c1), .val (.ref c2), .val (.int (0 : Int32))]) (argsL := [(.ref c1)]) (rest := []) (by rw [hml]; rfl) (lenOf own_pd2 rfl) rfl (hb hby at_176) (by decide) (by decide) (by decide) (by decide) ?_
        intro v188 T188 L188 X188 hQ188
        obtain ⟨rfl, N188, e188⟩ := hQ188
        show OGo p e below (T188.setTop (mkF m 179 #[.val (.int p1), .val (.int p2), .val (.int p3), .val (.int p4), .val (.int p5), .val (.int p6), .val (.int (((p1.toUInt32 >>> ((30 : Int32) &&& 31).toUInt32).toInt32) &&& (3 : Int32))), .val w94, .val w96, .val w99, .val w105, .val w113, .val w122, .val (.ref c1), .val (.ref c2), .val (.int (0 : Int32))] [(.int (if (own_so p4) = (own_so p1) ∧ (own_so p5) = (own_so p2) ∧ (own_so p6) = (own_so p3) then (1 : Int32) else 0))])) (OEndW s Z consts_1 (fun v h L => v = some (.int (1 : Int32)) ∧ Fr n0 L) room_1.cells room_1.slots)
        have Nc188 := Fr.app Nc187 N188
        refine OGo.step (fun _ kk => XS.iload X188.here hx rfl (hb hby at_179) rfl kk) ?_
        show OGo p e below (T188.setTop (mkF m 181 #[.val (.int p1), .val (.int p2), .val (.int p3), .val (.int p4), .val (.int p5), .val (.int p6), .val (.int (((p1.toUInt32 >>> ((30 : Int32) &&& 31).toUInt32).toInt32) &&& (3 : Int32))), .val w94, .val w96, .val w99, .val w105, .val w113, .val w122, .val (.ref c1), .val (.ref c2), .val (.int (0 : Int32))] [(.int (0 : Int32)), (.int (if (own_so p4) = (own_so p1) ∧ (own_so p5) = (own_so p2) ∧ (own_so p6) = (own_so p3) then (1 : Int32) else 0))])) (OEndW s Z consts_1 (fun v h L => v = some (.int (1 : Int32)) ∧ Fr n0 L) room_1.cells room_1.slots)
        refine OGo.step (fun _ kk => XS.icmpNo X188.here hx rfl (hb hby at_181) rfl (teq (if_neg (fun z => own_if0 hm1 z.1.symm))).2 kk) ?_
        show OGo p e below (T188.setTop (mkF m 184 #[.val (.int p1), .val (.int p2), .val (.int p3), .val (.int p4), .val (.int p5), .val (.int p6), .val (.int (((p1.toUInt32 >>> ((30 : Int32) &&& 31).toUInt32).toInt32) &&& (3 : Int32))), .val w94, .val w96, .val w99, .val w105, .val w113, .val w122, .val (.ref c1), .val (.ref c2), .val (.int (0 : Int32))] [])) (OEndW s Z consts_1 (fun v h L => v = some (.int (1 : Int32)) ∧ Fr n0 L) room_1.cells room_1.slots)
        refine OGo.step (fun _ kk => XS.aload X188.here hx rfl (hb hby at_184) rfl rfl kk) ?_
        show OGo p e below (T188.setTop (mkF m 186 #[.val (.int p1), .val (.int p2), .val (.int p3), .val (.int p4), .val (.int p5), .val (.int p6), .val (.int (((p1.toUInt32 >>> ((30 : Int32) &&& 31).toUInt32).toInt32) &&& (3 : Int32))), .val w94, .val w96, .val w99, .val w105, .val w113, .val w122, .val (.ref c1), .val (.ref c2), .val (.int (0 : Int32))] [(.ref c1)])) (OEndW s Z consts_1 (fun v h L => v = some (.int (1 : Int32)) ∧ Fr n0 L) room_1.cells room_1.slots)
        refine OGo.step (fun _ kk => XS.aload X188.here hx rfl (hb hby at_186) rfl rfl kk) ?_
        show OGo p e below (T188.setTop (mkF m 188 #[.val (.int p1), .val (.int p2), .val (.int p3), .val (.int p4), .val (.int p5), .val (.int p6), .val (.int (((p1.toUInt32 >>> ((30 : Int32) &&& 31).toUInt32).toInt32) &&& (3 : Int32))), .val w94, .val w96, .val w99, .val w105, .val w113, .val w122, .val (.ref c1), .val (.ref c2), .val (.int (0 : Int32))] [(.ref c1), (.ref c1)])) (OEndW s Z consts_1 (fun v h L => v = some (.int (1 : Int32)) ∧ Fr n0 L) room_1.cells room_1.slots)
        refine own_virtual X188 hx hZ (y := (⟨"com/example/tags_to_grants/tagstogrants/policy/Policy$Cell", "equals", "(Ljava/lang/Object;)Z"⟩ : MethodName)) (z := (⟨"com/example/tags_to_grants/tagstogrants/policy/Policy$Cell", "equals", "(Ljava/lang/Object;)Z"⟩ : MethodName)) hown (hw _ (List.mem_of_getElem? (i := 58) rfl)) (hw _ (List.mem_of_getElem? (i := 59) rfl)) (notFace_of_selects (args := #[]) (mvT hZ (hw _ (List.mem_of_getElem? (i := 61) rfl)))) (hw _ (List.mem_of_getElem? (i := 61) rfl)) (hw _ (List.mem_of_getElem? (i := 60) rfl)) (by decide) (hw _ (List.mem_of_getElem? (i := 62) rfl)) (hw _ (List.mem_of_getElem? (i := 39) rfl)) (b := c1) fc182 (W := 0) (own_ceq l Z a0 hw [] c1 c1 zc w94 w96 w99 w94 w96 w99 (own_so p1) (own_so p2) (own_so p3) (own_so p1) (own_so p2) (own_so p3) T156.heap n0 sz156 fx181 hzc fc182 fc183 fc184 fc185 fc183 fc184 fc185 fx161 fx161 (fun _ => rfl) fx165 fx165 (fun _ => rfl) fx169 fx169 (fun _ => rfl)) e188  (pc := 188) (Ls := #[.val (.int p1), .val (.int p2), .val (.int p3), .val (.int p4), .val (.int p5), .val (.int p6), .val (.int (((p1.toUInt32 >>> ((30 : Int32) &&& 31).toUInt32).toInt32) &&& (3 : Int32))), .val w94, .val w96, .val w99, .val w105, .val w113, .val w122, .val (.ref c1), .val (.ref c2), .val (.int (0 : Int32))]) (argsL := [(.ref c1)]) (rest := []) (by rw [hml]; rfl) (lenOf own_pd2 rfl) rfl (hb hby at_188) (by decide) (by decide) (by decide) (by decide) ?_
        intro v189 T189 L189 X189 hQ189
        obtain ⟨rfl, N189, e189⟩ := hQ189
        show OGo p e below (T189.setTop (mkF m 191 #[.val (.int p1), .val (.int p2), .val (.int p3), .val (.int p4), .val (.int p5), .val (.int p6), .val (.int (((p1.toUInt32 >>> ((30 : Int32) &&& 31).toUInt32).toInt32) &&& (3 : Int32))), .val w94, .val w96, .val w99, .val w105, .val w113, .val w122, .val (.ref c1), .val (.ref c2), .val (.int (0 : Int32))] [(.int (if (own_so p1) = (own_so p1) ∧ (own_so p2) = (own_so p2) ∧ (own_so p3) = (own_so p3) then (1 : Int32) else 0))])) (OEndW s Z consts_1 (fun v h L => v = some (.int (1 : Int32)) ∧ Fr n0 L) room_1.cells room_1.slots)
        have Nc189 := Fr.app Nc188 N189
        refine OGo.step (fun _ kk => XS.ifNo X189.here hx rfl (hb hby at_191) rfl ((if0 _ _).trans (feq (by rw [if_pos ⟨rfl, rfl, rfl⟩]; decide)).1) kk) ?_
        show OGo p e below (T189.setTop (mkF m 194 #[.val (.int p1), .val (.int p2), .val (.int p3), .val (.int p4), .val (.int p5), .val (.int p6), .val (.int (((p1.toUInt32 >>> ((30 : Int32) &&& 31).toUInt32).toInt32) &&& (3 : Int32))), .val w94, .val w96, .val w99, .val w105, .val w113, .val w122, .val (.ref c1), .val (.ref c2), .val (.int (0 : Int32))] [])) (OEndW s Z consts_1 (fun v h L => v = some (.int (1 : Int32)) ∧ Fr n0 L) room_1.cells room_1.slots)
        refine OGo.step (fun _ kk => XS.iconst X189.here hx rfl (hb hby at_194) kk) ?_
        show OGo p e below (T189.setTop (mkF m 195 #[.val (.int p1), .val (.int p2), .val (.int p3), .val (.int p4), .val (.int p5), .val (.int p6), .val (.int (((p1.toUInt32 >>> ((30 : Int32) &&& 31).toUInt32).toInt32) &&& (3 : Int32))), .val w94, .val w96, .val w99, .val w105, .val w113, .val w122, .val (.ref c1), .val (.ref c2), .val (.int (0 : Int32))] [(.int (1 : Int32))])) (OEndW s Z consts_1 (fun v h L => v = some (.int (1 : Int32)) ∧ Fr n0 L) room_1.cells room_1.slots)
        refine OGo.step (fun _ kk => XS.goto X189.here hx rfl (pc0 := 195) (pc' := 199) rfl (hb hby at_195) (by decide) (by decide) kk) ?_
        show OGo p e below (T189.setTop (mkF m 199 #[.val (.int p1), .val (.int p2), .val (.int p3), .val (.int p4), .val (.int p5), .val (.int p6), .val (.int (((p1.toUInt32 >>> ((30 : Int32) &&& 31).toUInt32).toInt32) &&& (3 : Int32))), .val w94, .val w96, .val w99, .val w105, .val w113, .val w122, .val (.ref c1), .val (.ref c2), .val (.int (0 : Int32))] [(.int (1 : Int32))])) (OEndW s Z consts_1 (fun v h L => v = some (.int (1 : Int32)) ∧ Fr n0 L) room_1.cells room_1.slots)
        exact own_retNW X189 hx hlk hEL OW157 e189 hret (by simp) (hb hby at_199) ⟨by rw [own_nar1], Nc189⟩ (by decide) (by decide)
      · refine OGo.step (fun _ kk => XS.ifNo X186.here hx rfl (hb hby at_130) rfl ((if0 _ _).trans (feq hm1).1) kk) ?_
        show OGo p e below (T186.setTop (mkF m 133 #[.val (.int p1), .val (.int p2), .val (.int p3), .val (.int p4), .val (.int p5), .val (.int p6), .val (.int (((p1.toUInt32 >>> ((30 : Int32) &&& 31).toUInt32).toInt32) &&& (3 : Int32))), .val w94, .val w96, .val w99, .val w105, .val w113, .val w122, .val (.ref c1), .val (.ref c2), .unset] [])) (OEndW s Z consts_1 (fun v h L => v = some (.int (1 : Int32)) ∧ Fr n0 L) room_1.cells room_1.slots)
        refine OGo.step (fun _ kk => XS.aload X186.here hx rfl (hb hby at_133) rfl O96.isRef kk) ?_
        show OGo p e below (T186.setTop (mkF m 135 #[.val (.int p1), .val (.int p2), .val (.int p3), .val (.int p4), .val (.int p5), .val (.int p6), .val (.int (((p1.toUInt32 >>> ((30 : Int32) &&& 31).toUInt32).toInt32) &&& (3 : Int32))), .val w94, .val w96, .val w99, .val w105, .val w113, .val w122, .val (.ref c1), .val (.ref c2), .unset] [w96])) (OEndW s Z consts_1 (fun v h L => v = some (.int (1 : Int32)) ∧ Fr n0 L) room_1.cells room_1.slots)
        refine OGo.step (fun _ kk => XS.aload X186.here hx rfl (hb hby at_135) rfl O113.isRef kk) ?_
        show OGo p e below (T186.setTop (mkF m 137 #[.val (.int p1), .val (.int p2), .val (.int p3), .val (.int p4), .val (.int p5), .val (.int p6), .val (.int (((p1.toUInt32 >>> ((30 : Int32) &&& 31).toUInt32).toInt32) &&& (3 : Int32))), .val w94, .val w96, .val w99, .val w105, .val w113, .val w122, .val (.ref c1), .val (.ref c2), .unset] [w113, w96])) (OEndW s Z consts_1 (fun v h L => v = some (.int (1 : Int32)) ∧ Fr n0 L) room_1.cells room_1.slots)
        refine own_callS X186 hx hZ (y := (⟨"com/example/tags_to_grants/tagstogrants/policy/CellEqualsPinLaw", "same", "(Ljava/lang/String;Ljava/lang/String;)Z"⟩ : MethodName)) hown (hw _ (List.mem_of_getElem? (i := 55) rfl)) (hw _ (List.mem_of_getElem? (i := 56) rfl)) (hw _ (List.mem_of_getElem? (i := 2) rfl)) (hw _ (List.mem_of_getElem? (i := 57) rfl)) (by decide) (W := 0) (own_same l Z a0 hw [] zc w96 w113 (own_so p2) (own_so p5) T156.heap n0 sz156 fx181 hzc fx165 fx173) e186  (pc := 137) (Ls := #[.val (.int p1), .val (.int p2), .val (.int p3), .val (.int p4), .val (.int p5), .val (.int p6), .val (.int (((p1.toUInt32 >>> ((30 : Int32) &&& 31).toUInt32).toInt32) &&& (3 : Int32))), .val w94, .val w96, .val w99, .val w105, .val w113, .val w122, .val (.ref c1), .val (.ref c2), .unset]) (argsL := [w96, w113]) (rest := []) (by rw [hml]; rfl) (lenOf own_pd6 rfl) rfl (hb hby at_137) (by decide) (by decide) (by decide) (by decide) ?_
        intro v190 T190 L190 X190 hQ190
        obtain ⟨rfl, N190, e190⟩ := hQ190
        show OGo p e below (T190.setTop (mkF m 140 #[.val (.int p1), .val (.int p2), .val (.int p3), .val (.int p4), .val (.int p5), .val (.int p6), .val (.int (((p1.toUInt32 >>> ((30 : Int32) &&& 31).toUInt32).toInt32) &&& (3 : Int32))), .val w94, .val w96, .val w99, .val w105, .val w113, .val w122, .val (.ref c1), .val (.ref c2), .unset] [(.int (if (own_so p2) = (own_so p5) then (1 : Int32) else 0))])) (OEndW s Z consts_1 (fun v h L => v = some (.int (1 : Int32)) ∧ Fr n0 L) room_1.cells room_1.slots)
        have Nc190 := Fr.app Nc186 N190
        by_cases hm2 : (if (own_so p2) = (own_so p5) then (1 : Int32) else 0) = (0 : Int32)
        · refine OGo.step (fun _ kk => XS.ifYes X190.here hx rfl (pc0 := 140) (pc' := 157) rfl (hb hby at_140) rfl ((if0 _ _).trans (teq hm2).1) (by decide) (by decide) kk) ?_
          show OGo p e below (T190.setTop (mkF m 157 #[.val (.int p1), .val (.int p2), .val (.int p3), .val (.int p4), .val (.int p5), .val (.int p6), .val (.int (((p1.toUInt32 >>> ((30 : Int32) &&& 31).toUInt32).toInt32) &&& (3 : Int32))), .val w94, .val w96, .val w99, .val w105, .val w113, .val w122, .val (.ref c1), .val (.ref c2), .unset] [])) (OEndW s Z consts_1 (fun v h L => v = some (.int (1 : Int32)) ∧ Fr n0 L) room_1.cells room_1.slots)
          refine OGo.step (fun _ kk => XS.iconst X190.here hx rfl (hb hby at_157) kk) ?_
          show OGo p e below (T190.setTop (mkF m 158 #[.val (.int p1), .val (.int p2), .val (.int p3), .val (.int p4), .val (.int p5), .val (.int p6), .val (.int (((p1.toUInt32 >>> ((30 : Int32) &&& 31).toUInt32).toInt32) &&& (3 : Int32))), .val w94, .val w96, .val w99, .val w105, .val w113, .val w122, .val (.ref c1), .val (.ref c2), .unset] [(.int (0 : Int32))])) (OEndW s Z consts_1 (fun v h L => v = some (.int (1 : Int32)) ∧ Fr n0 L) room_1.cells room_1.slots)
          refine OGo.step (fun _ kk => XS.istore X190.here hx rfl (hb hby at_158) rfl (l' := #[.val (.int p1), .val (.int p2), .val (.int p3), .val (.int p4), .val (.int p5), .val (.int p6), .val (.int (((p1.toUInt32 >>> ((30 : Int32) &&& 31).toUInt32).toInt32) &&& (3 : Int32))), .val w94, .val w96, .val w99, .val w105, .val w113, .val w122, .val (.ref c1), .val (.ref c2), .val (.int (0 : Int32))]) rfl kk) ?_
          show OGo p e below (T190.setTop (mkF m 160 #[.val (.int p1), .val (.int p2), .val (.int p3), .val (.int p4), .val (.int p5), .val (.int p6), .val (.int (((p1.toUInt32 >>> ((30 : Int32) &&& 31).toUInt32).toInt32) &&& (3 : Int32))), .val w94, .val w96, .val w99, .val w105, .val w113, .val w122, .val (.ref c1), .val (.ref c2), .val (.int (0 : Int32))] [])) (OEndW s Z consts_1 (fun v h L => v = some (.int (1 : Int32)) ∧ Fr n0 L) room_1.cells room_1.slots)
          refine OGo.step (fun _ kk => XS.aload X190.here hx rfl (hb hby at_160) rfl rfl kk) ?_
          show OGo p e below (T190.setTop (mkF m 162 #[.val (.int p1), .val (.int p2), .val (.int p3), .val (.int p4), .val (.int p5), .val (.int p6), .val (.int (((p1.toUInt32 >>> ((30 : Int32) &&& 31).toUInt32).toInt32) &&& (3 : Int32))), .val w94, .val w96, .val w99, .val w105, .val w113, .val w122, .val (.ref c1), .val (.ref c2), .val (.int (0 : Int32))] [(.ref c1)])) (OEndW s Z consts_1 (fun v h L => v = some (.int (1 : Int32)) ∧ Fr n0 L) room_1.cells room_1.slots)
          refine OGo.step (fun _ kk => XS.aload X190.here hx rfl (hb hby at_162) rfl rfl kk) ?_
          show OGo p e below (T190.setTop (mkF m 164 #[.val (.int p1), .val (.int p2), .val (.int p3), .val (.int p4), .val (.int p5), .val (.int p6), .val (.int (((p1.toUInt32 >>> ((30 : Int32) &&& 31).toUInt32).toInt32) &&& (3 : Int32))), .val w94, .val w96, .val w99, .val w105, .val w113, .val w122, .val (.ref c1), .val (.ref c2), .val (.int (0 : Int32))] [(.ref c2), (.ref c1)])) (OEndW s Z consts_1 (fun v h L => v = some (.int (1 : Int32)) ∧ Fr n0 L) room_1.cells room_1.slots)
          refine own_virtual X190 hx hZ (y := (⟨"com/example/tags_to_grants/tagstogrants/policy/Policy$Cell", "equals", "(Ljava/lang/Object;)Z"⟩ : MethodName)) (z := (⟨"com/example/tags_to_grants/tagstogrants/policy/Policy$Cell", "equals", "(Ljava/lang/Object;)Z"⟩ : MethodName)) hown (hw _ (List.mem_of_getElem? (i := 58) rfl)) (hw _ (List.mem_of_getElem? (i := 59) rfl)) (notFace_of_selects (args := #[]) (mvT hZ (hw _ (List.mem_of_getElem? (i := 61) rfl)))) (hw _ (List.mem_of_getElem? (i := 61) rfl)) (hw _ (List.mem_of_getElem? (i := 60) rfl)) (by decide) (hw _ (List.mem_of_getElem? (i := 62) rfl)) (hw _ (List.mem_of_getElem? (i := 39) rfl)) (b := c1) fc182 (W := 0) (own_ceq l Z a0 hw [] c1 c2 zc w94 w96 w99 w105 w113 w122 (own_so p1) (own_so p2) (own_so p3) (own_so p4) (own_so p5) (own_so p6) T156.heap n0 sz156 fx181 hzc E156 fc183 fc184 fc185 Fa156 Fb156 Fc156 fx161 fx171 hne1 fx165 fx173 hne2 fx169 fx175 hne3) e190  (pc := 164) (Ls := #[.val (.int p1), .val (.int p2), .val (.int p3), .val (.int p4), .val (.int p5), .val (.int p6), .val (.int (((p1.toUInt32 >>> ((30 : Int32) &&& 31).toUInt32).toInt32) &&& (3 : Int32))), .val w94, .val w96, .val w99, .val w105, .val w113, .val w122, .val (.ref c1), .val (.ref c2), .val (.int (0 : Int32))]) (argsL := [(.ref c2)]) (rest := []) (by rw [hml]; rfl) (lenOf own_pd2 rfl) rfl (hb hby at_164) (by decide) (by decide) (by decide) (by decide) ?_
          intro v191 T191 L191 X191 hQ191
          obtain ⟨rfl, N191, e191⟩ := hQ191
          show OGo p e below (T191.setTop (mkF m 167 #[.val (.int p1), .val (.int p2), .val (.int p3), .val (.int p4), .val (.int p5), .val (.int p6), .val (.int (((p1.toUInt32 >>> ((30 : Int32) &&& 31).toUInt32).toInt32) &&& (3 : Int32))), .val w94, .val w96, .val w99, .val w105, .val w113, .val w122, .val (.ref c1), .val (.ref c2), .val (.int (0 : Int32))] [(.int (if (own_so p1) = (own_so p4) ∧ (own_so p2) = (own_so p5) ∧ (own_so p3) = (own_so p6) then (1 : Int32) else 0))])) (OEndW s Z consts_1 (fun v h L => v = some (.int (1 : Int32)) ∧ Fr n0 L) room_1.cells room_1.slots)
          have Nc191 := Fr.app Nc190 N191
          refine OGo.step (fun _ kk => XS.iload X191.here hx rfl (hb hby at_167) rfl kk) ?_
          show OGo p e below (T191.setTop (mkF m 169 #[.val (.int p1), .val (.int p2), .val (.int p3), .val (.int p4), .val (.int p5), .val (.int p6), .val (.int (((p1.toUInt32 >>> ((30 : Int32) &&& 31).toUInt32).toInt32) &&& (3 : Int32))), .val w94, .val w96, .val w99, .val w105, .val w113, .val w122, .val (.ref c1), .val (.ref c2), .val (.int (0 : Int32))] [(.int (0 : Int32)), (.int (if (own_so p1) = (own_so p4) ∧ (own_so p2) = (own_so p5) ∧ (own_so p3) = (own_so p6) then (1 : Int32) else 0))])) (OEndW s Z consts_1 (fun v h L => v = some (.int (1 : Int32)) ∧ Fr n0 L) room_1.cells room_1.slots)
          refine OGo.step (fun _ kk => XS.icmpNo X191.here hx rfl (hb hby at_169) rfl (teq (if_neg (fun z => own_if0 hm2 z.2.1))).2 kk) ?_
          show OGo p e below (T191.setTop (mkF m 172 #[.val (.int p1), .val (.int p2), .val (.int p3), .val (.int p4), .val (.int p5), .val (.int p6), .val (.int (((p1.toUInt32 >>> ((30 : Int32) &&& 31).toUInt32).toInt32) &&& (3 : Int32))), .val w94, .val w96, .val w99, .val w105, .val w113, .val w122, .val (.ref c1), .val (.ref c2), .val (.int (0 : Int32))] [])) (OEndW s Z consts_1 (fun v h L => v = some (.int (1 : Int32)) ∧ Fr n0 L) room_1.cells room_1.slots)
          refine OGo.step (fun _ kk => XS.aload X191.here hx rfl (hb hby at_172) rfl rfl kk) ?_
          show OGo p e below (T191.setTop (mkF m 174 #[.val (.int p1), .val (.int p2), .val (.int p3), .val (.int p4), .val (.int p5), .val (.int p6), .val (.int (((p1.toUInt32 >>> ((30 : Int32) &&& 31).toUInt32).toInt32) &&& (3 : Int32))), .val w94, .val w96, .val w99, .val w105, .val w113, .val w122, .val (.ref c1), .val (.ref c2), .val (.int (0 : Int32))] [(.ref c2)])) (OEndW s Z consts_1 (fun v h L => v = some (.int (1 : Int32)) ∧ Fr n0 L) room_1.cells room_1.slots)
          refine OGo.step (fun _ kk => XS.aload X191.here hx rfl (hb hby at_174) rfl rfl kk) ?_
          show OGo p e below (T191.setTop (mkF m 176 #[.val (.int p1), .val (.int p2), .val (.int p3), .val (.int p4), .val (.int p5), .val (.int p6), .val (.int (((p1.toUInt32 >>> ((30 : Int32) &&& 31).toUInt32).toInt32) &&& (3 : Int32))), .val w94, .val w96, .val w99, .val w105, .val w113, .val w122, .val (.ref c1), .val (.ref c2), .val (.int (0 : Int32))] [(.ref c1), (.ref c2)])) (OEndW s Z consts_1 (fun v h L => v = some (.int (1 : Int32)) ∧ Fr n0 L) room_1.cells room_1.slots)
          refine own_virtual X191 hx hZ (y := (⟨"com/example/tags_to_grants/tagstogrants/policy/Policy$Cell", "equals", "(Ljava/lang/Object;)Z"⟩ : MethodName)) (z := (⟨"com/example/tags_to_grants/tagstogrants/policy/Policy$Cell", "equals", "(Ljava/lang/Object;)Z"⟩ : MethodName)) hown (hw _ (List.mem_of_getElem? (i := 58) rfl)) (hw _ (List.mem_of_getElem? (i := 59) rfl)) (notFace_of_selects (args := #[]) (mvT hZ (hw _ (List.mem_of_getElem? (i := 61) rfl)))) (hw _ (List.mem_of_getElem? (i := 61) rfl)) (hw _ (List.mem_of_getElem? (i := 60) rfl)) (by decide) (hw _ (List.mem_of_getElem? (i := 62) rfl)) (hw _ (List.mem_of_getElem? (i := 39) rfl)) (b := c2) E156 (W := 0) (own_ceq l Z a0 hw [] c2 c1 zc w105 w113 w122 w94 w96 w99 (own_so p4) (own_so p5) (own_so p6) (own_so p1) (own_so p2) (own_so p3) T156.heap n0 sz156 fx181 hzc fc182 Fa156 Fb156 Fc156 fc183 fc184 fc185 fx171 fx161 (fun z => (hne1 z.symm).symm) fx173 fx165 (fun z => (hne2 z.symm).symm) fx175 fx169 (fun z => (hne3 z.symm).symm)) e191  (pc := 176) (Ls := #[.val (.int p1), .val (.int p2), .val (.int p3), .val (.int p4), .val (.int p5), .val (.int p6), .val (.int (((p1.toUInt32 >>> ((30 : Int32) &&& 31).toUInt32).toInt32) &&& (3 : Int32))), .val w94, .val w96, .val w99, .val w105, .val w113, .val w122, .val (.ref c1), .val (.ref c2), .val (.int (0 : Int32))]) (argsL := [(.ref c1)]) (rest := []) (by rw [hml]; rfl) (lenOf own_pd2 rfl) rfl (hb hby at_176) (by decide) (by decide) (by decide) (by decide) ?_
          intro v192 T192 L192 X192 hQ192
          obtain ⟨rfl, N192, e192⟩ := hQ192
          show OGo p e below (T192.setTop (mkF m 179 #[.val (.int p1), .val (.int p2), .val (.int p3), .val (.int p4), .val (.int p5), .val (.int p6), .val (.int (((p1.toUInt32 >>> ((30 : Int32) &&& 31).toUInt32).toInt32) &&& (3 : Int32))), .val w94, .val w96, .val w99, .val w105, .val w113, .val w122, .val (.ref c1), .val (.ref c2), .val (.int (0 : Int32))] [(.int (if (own_so p4) = (own_so p1) ∧ (own_so p5) = (own_so p2) ∧ (own_so p6) = (own_so p3) then (1 : Int32) else 0))])) (OEndW s Z consts_1 (fun v h L => v = some (.int (1 : Int32)) ∧ Fr n0 L) room_1.cells room_1.slots)
          have Nc192 := Fr.app Nc191 N192
          refine OGo.step (fun _ kk => XS.iload X192.here hx rfl (hb hby at_179) rfl kk) ?_
          show OGo p e below (T192.setTop (mkF m 181 #[.val (.int p1), .val (.int p2), .val (.int p3), .val (.int p4), .val (.int p5), .val (.int p6), .val (.int (((p1.toUInt32 >>> ((30 : Int32) &&& 31).toUInt32).toInt32) &&& (3 : Int32))), .val w94, .val w96, .val w99, .val w105, .val w113, .val w122, .val (.ref c1), .val (.ref c2), .val (.int (0 : Int32))] [(.int (0 : Int32)), (.int (if (own_so p4) = (own_so p1) ∧ (own_so p5) = (own_so p2) ∧ (own_so p6) = (own_so p3) then (1 : Int32) else 0))])) (OEndW s Z consts_1 (fun v h L => v = some (.int (1 : Int32)) ∧ Fr n0 L) room_1.cells room_1.slots)
          refine OGo.step (fun _ kk => XS.icmpNo X192.here hx rfl (hb hby at_181) rfl (teq (if_neg (fun z => own_if0 hm2 z.2.1.symm))).2 kk) ?_
          show OGo p e below (T192.setTop (mkF m 184 #[.val (.int p1), .val (.int p2), .val (.int p3), .val (.int p4), .val (.int p5), .val (.int p6), .val (.int (((p1.toUInt32 >>> ((30 : Int32) &&& 31).toUInt32).toInt32) &&& (3 : Int32))), .val w94, .val w96, .val w99, .val w105, .val w113, .val w122, .val (.ref c1), .val (.ref c2), .val (.int (0 : Int32))] [])) (OEndW s Z consts_1 (fun v h L => v = some (.int (1 : Int32)) ∧ Fr n0 L) room_1.cells room_1.slots)
          refine OGo.step (fun _ kk => XS.aload X192.here hx rfl (hb hby at_184) rfl rfl kk) ?_
          show OGo p e below (T192.setTop (mkF m 186 #[.val (.int p1), .val (.int p2), .val (.int p3), .val (.int p4), .val (.int p5), .val (.int p6), .val (.int (((p1.toUInt32 >>> ((30 : Int32) &&& 31).toUInt32).toInt32) &&& (3 : Int32))), .val w94, .val w96, .val w99, .val w105, .val w113, .val w122, .val (.ref c1), .val (.ref c2), .val (.int (0 : Int32))] [(.ref c1)])) (OEndW s Z consts_1 (fun v h L => v = some (.int (1 : Int32)) ∧ Fr n0 L) room_1.cells room_1.slots)
          refine OGo.step (fun _ kk => XS.aload X192.here hx rfl (hb hby at_186) rfl rfl kk) ?_
          show OGo p e below (T192.setTop (mkF m 188 #[.val (.int p1), .val (.int p2), .val (.int p3), .val (.int p4), .val (.int p5), .val (.int p6), .val (.int (((p1.toUInt32 >>> ((30 : Int32) &&& 31).toUInt32).toInt32) &&& (3 : Int32))), .val w94, .val w96, .val w99, .val w105, .val w113, .val w122, .val (.ref c1), .val (.ref c2), .val (.int (0 : Int32))] [(.ref c1), (.ref c1)])) (OEndW s Z consts_1 (fun v h L => v = some (.int (1 : Int32)) ∧ Fr n0 L) room_1.cells room_1.slots)
          refine own_virtual X192 hx hZ (y := (⟨"com/example/tags_to_grants/tagstogrants/policy/Policy$Cell", "equals", "(Ljava/lang/Object;)Z"⟩ : MethodName)) (z := (⟨"com/example/tags_to_grants/tagstogrants/policy/Policy$Cell", "equals", "(Ljava/lang/Object;)Z"⟩ : MethodName)) hown (hw _ (List.mem_of_getElem? (i := 58) rfl)) (hw _ (List.mem_of_getElem? (i := 59) rfl)) (notFace_of_selects (args := #[]) (mvT hZ (hw _ (List.mem_of_getElem? (i := 61) rfl)))) (hw _ (List.mem_of_getElem? (i := 61) rfl)) (hw _ (List.mem_of_getElem? (i := 60) rfl)) (by decide) (hw _ (List.mem_of_getElem? (i := 62) rfl)) (hw _ (List.mem_of_getElem? (i := 39) rfl)) (b := c1) fc182 (W := 0) (own_ceq l Z a0 hw [] c1 c1 zc w94 w96 w99 w94 w96 w99 (own_so p1) (own_so p2) (own_so p3) (own_so p1) (own_so p2) (own_so p3) T156.heap n0 sz156 fx181 hzc fc182 fc183 fc184 fc185 fc183 fc184 fc185 fx161 fx161 (fun _ => rfl) fx165 fx165 (fun _ => rfl) fx169 fx169 (fun _ => rfl)) e192  (pc := 188) (Ls := #[.val (.int p1), .val (.int p2), .val (.int p3), .val (.int p4), .val (.int p5), .val (.int p6), .val (.int (((p1.toUInt32 >>> ((30 : Int32) &&& 31).toUInt32).toInt32) &&& (3 : Int32))), .val w94, .val w96, .val w99, .val w105, .val w113, .val w122, .val (.ref c1), .val (.ref c2), .val (.int (0 : Int32))]) (argsL := [(.ref c1)]) (rest := []) (by rw [hml]; rfl) (lenOf own_pd2 rfl) rfl (hb hby at_188) (by decide) (by decide) (by decide) (by decide) ?_
          intro v193 T193 L193 X193 hQ193
          obtain ⟨rfl, N193, e193⟩ := hQ193
          show OGo p e below (T193.setTop (mkF m 191 #[.val (.int p1), .val (.int p2), .val (.int p3), .val (.int p4), .val (.int p5), .val (.int p6), .val (.int (((p1.toUInt32 >>> ((30 : Int32) &&& 31).toUInt32).toInt32) &&& (3 : Int32))), .val w94, .val w96, .val w99, .val w105, .val w113, .val w122, .val (.ref c1), .val (.ref c2), .val (.int (0 : Int32))] [(.int (if (own_so p1) = (own_so p1) ∧ (own_so p2) = (own_so p2) ∧ (own_so p3) = (own_so p3) then (1 : Int32) else 0))])) (OEndW s Z consts_1 (fun v h L => v = some (.int (1 : Int32)) ∧ Fr n0 L) room_1.cells room_1.slots)
          have Nc193 := Fr.app Nc192 N193
          refine OGo.step (fun _ kk => XS.ifNo X193.here hx rfl (hb hby at_191) rfl ((if0 _ _).trans (feq (by rw [if_pos ⟨rfl, rfl, rfl⟩]; decide)).1) kk) ?_
          show OGo p e below (T193.setTop (mkF m 194 #[.val (.int p1), .val (.int p2), .val (.int p3), .val (.int p4), .val (.int p5), .val (.int p6), .val (.int (((p1.toUInt32 >>> ((30 : Int32) &&& 31).toUInt32).toInt32) &&& (3 : Int32))), .val w94, .val w96, .val w99, .val w105, .val w113, .val w122, .val (.ref c1), .val (.ref c2), .val (.int (0 : Int32))] [])) (OEndW s Z consts_1 (fun v h L => v = some (.int (1 : Int32)) ∧ Fr n0 L) room_1.cells room_1.slots)
          refine OGo.step (fun _ kk => XS.iconst X193.here hx rfl (hb hby at_194) kk) ?_
          show OGo p e below (T193.setTop (mkF m 195 #[.val (.int p1), .val (.int p2), .val (.int p3), .val (.int p4), .val (.int p5), .val (.int p6), .val (.int (((p1.toUInt32 >>> ((30 : Int32) &&& 31).toUInt32).toInt32) &&& (3 : Int32))), .val w94, .val w96, .val w99, .val w105, .val w113, .val w122, .val (.ref c1), .val (.ref c2), .val (.int (0 : Int32))] [(.int (1 : Int32))])) (OEndW s Z consts_1 (fun v h L => v = some (.int (1 : Int32)) ∧ Fr n0 L) room_1.cells room_1.slots)
          refine OGo.step (fun _ kk => XS.goto X193.here hx rfl (pc0 := 195) (pc' := 199) rfl (hb hby at_195) (by decide) (by decide) kk) ?_
          show OGo p e below (T193.setTop (mkF m 199 #[.val (.int p1), .val (.int p2), .val (.int p3), .val (.int p4), .val (.int p5), .val (.int p6), .val (.int (((p1.toUInt32 >>> ((30 : Int32) &&& 31).toUInt32).toInt32) &&& (3 : Int32))), .val w94, .val w96, .val w99, .val w105, .val w113, .val w122, .val (.ref c1), .val (.ref c2), .val (.int (0 : Int32))] [(.int (1 : Int32))])) (OEndW s Z consts_1 (fun v h L => v = some (.int (1 : Int32)) ∧ Fr n0 L) room_1.cells room_1.slots)
          exact own_retNW X193 hx hlk hEL OW157 e193 hret (by simp) (hb hby at_199) ⟨by rw [own_nar1], Nc193⟩ (by decide) (by decide)
        · refine OGo.step (fun _ kk => XS.ifNo X190.here hx rfl (hb hby at_140) rfl ((if0 _ _).trans (feq hm2).1) kk) ?_
          show OGo p e below (T190.setTop (mkF m 143 #[.val (.int p1), .val (.int p2), .val (.int p3), .val (.int p4), .val (.int p5), .val (.int p6), .val (.int (((p1.toUInt32 >>> ((30 : Int32) &&& 31).toUInt32).toInt32) &&& (3 : Int32))), .val w94, .val w96, .val w99, .val w105, .val w113, .val w122, .val (.ref c1), .val (.ref c2), .unset] [])) (OEndW s Z consts_1 (fun v h L => v = some (.int (1 : Int32)) ∧ Fr n0 L) room_1.cells room_1.slots)
          refine OGo.step (fun _ kk => XS.aload X190.here hx rfl (hb hby at_143) rfl O99.isRef kk) ?_
          show OGo p e below (T190.setTop (mkF m 145 #[.val (.int p1), .val (.int p2), .val (.int p3), .val (.int p4), .val (.int p5), .val (.int p6), .val (.int (((p1.toUInt32 >>> ((30 : Int32) &&& 31).toUInt32).toInt32) &&& (3 : Int32))), .val w94, .val w96, .val w99, .val w105, .val w113, .val w122, .val (.ref c1), .val (.ref c2), .unset] [w99])) (OEndW s Z consts_1 (fun v h L => v = some (.int (1 : Int32)) ∧ Fr n0 L) room_1.cells room_1.slots)
          refine OGo.step (fun _ kk => XS.aload X190.here hx rfl (hb hby at_145) rfl O122.isRef kk) ?_
          show OGo p e below (T190.setTop (mkF m 147 #[.val (.int p1), .val (.int p2), .val (.int p3), .val (.int p4), .val (.int p5), .val (.int p6), .val (.int (((p1.toUInt32 >>> ((30 : Int32) &&& 31).toUInt32).toInt32) &&& (3 : Int32))), .val w94, .val w96, .val w99, .val w105, .val w113, .val w122, .val (.ref c1), .val (.ref c2), .unset] [w122, w99])) (OEndW s Z consts_1 (fun v h L => v = some (.int (1 : Int32)) ∧ Fr n0 L) room_1.cells room_1.slots)
          refine own_callS X190 hx hZ (y := (⟨"com/example/tags_to_grants/tagstogrants/policy/CellEqualsPinLaw", "same", "(Ljava/lang/String;Ljava/lang/String;)Z"⟩ : MethodName)) hown (hw _ (List.mem_of_getElem? (i := 55) rfl)) (hw _ (List.mem_of_getElem? (i := 56) rfl)) (hw _ (List.mem_of_getElem? (i := 2) rfl)) (hw _ (List.mem_of_getElem? (i := 57) rfl)) (by decide) (W := 0) (own_same l Z a0 hw [] zc w99 w122 (own_so p3) (own_so p6) T156.heap n0 sz156 fx181 hzc fx169 fx175) e190  (pc := 147) (Ls := #[.val (.int p1), .val (.int p2), .val (.int p3), .val (.int p4), .val (.int p5), .val (.int p6), .val (.int (((p1.toUInt32 >>> ((30 : Int32) &&& 31).toUInt32).toInt32) &&& (3 : Int32))), .val w94, .val w96, .val w99, .val w105, .val w113, .val w122, .val (.ref c1), .val (.ref c2), .unset]) (argsL := [w99, w122]) (rest := []) (by rw [hml]; rfl) (lenOf own_pd6 rfl) rfl (hb hby at_147) (by decide) (by decide) (by decide) (by decide) ?_
          intro v194 T194 L194 X194 hQ194
          obtain ⟨rfl, N194, e194⟩ := hQ194
          show OGo p e below (T194.setTop (mkF m 150 #[.val (.int p1), .val (.int p2), .val (.int p3), .val (.int p4), .val (.int p5), .val (.int p6), .val (.int (((p1.toUInt32 >>> ((30 : Int32) &&& 31).toUInt32).toInt32) &&& (3 : Int32))), .val w94, .val w96, .val w99, .val w105, .val w113, .val w122, .val (.ref c1), .val (.ref c2), .unset] [(.int (if (own_so p3) = (own_so p6) then (1 : Int32) else 0))])) (OEndW s Z consts_1 (fun v h L => v = some (.int (1 : Int32)) ∧ Fr n0 L) room_1.cells room_1.slots)
          have Nc194 := Fr.app Nc190 N194
          by_cases hm3 : (if (own_so p3) = (own_so p6) then (1 : Int32) else 0) = (0 : Int32)
          · refine OGo.step (fun _ kk => XS.ifYes X194.here hx rfl (pc0 := 150) (pc' := 157) rfl (hb hby at_150) rfl ((if0 _ _).trans (teq hm3).1) (by decide) (by decide) kk) ?_
            show OGo p e below (T194.setTop (mkF m 157 #[.val (.int p1), .val (.int p2), .val (.int p3), .val (.int p4), .val (.int p5), .val (.int p6), .val (.int (((p1.toUInt32 >>> ((30 : Int32) &&& 31).toUInt32).toInt32) &&& (3 : Int32))), .val w94, .val w96, .val w99, .val w105, .val w113, .val w122, .val (.ref c1), .val (.ref c2), .unset] [])) (OEndW s Z consts_1 (fun v h L => v = some (.int (1 : Int32)) ∧ Fr n0 L) room_1.cells room_1.slots)
            refine OGo.step (fun _ kk => XS.iconst X194.here hx rfl (hb hby at_157) kk) ?_
            show OGo p e below (T194.setTop (mkF m 158 #[.val (.int p1), .val (.int p2), .val (.int p3), .val (.int p4), .val (.int p5), .val (.int p6), .val (.int (((p1.toUInt32 >>> ((30 : Int32) &&& 31).toUInt32).toInt32) &&& (3 : Int32))), .val w94, .val w96, .val w99, .val w105, .val w113, .val w122, .val (.ref c1), .val (.ref c2), .unset] [(.int (0 : Int32))])) (OEndW s Z consts_1 (fun v h L => v = some (.int (1 : Int32)) ∧ Fr n0 L) room_1.cells room_1.slots)
            refine OGo.step (fun _ kk => XS.istore X194.here hx rfl (hb hby at_158) rfl (l' := #[.val (.int p1), .val (.int p2), .val (.int p3), .val (.int p4), .val (.int p5), .val (.int p6), .val (.int (((p1.toUInt32 >>> ((30 : Int32) &&& 31).toUInt32).toInt32) &&& (3 : Int32))), .val w94, .val w96, .val w99, .val w105, .val w113, .val w122, .val (.ref c1), .val (.ref c2), .val (.int (0 : Int32))]) rfl kk) ?_
            show OGo p e below (T194.setTop (mkF m 160 #[.val (.int p1), .val (.int p2), .val (.int p3), .val (.int p4), .val (.int p5), .val (.int p6), .val (.int (((p1.toUInt32 >>> ((30 : Int32) &&& 31).toUInt32).toInt32) &&& (3 : Int32))), .val w94, .val w96, .val w99, .val w105, .val w113, .val w122, .val (.ref c1), .val (.ref c2), .val (.int (0 : Int32))] [])) (OEndW s Z consts_1 (fun v h L => v = some (.int (1 : Int32)) ∧ Fr n0 L) room_1.cells room_1.slots)
            refine OGo.step (fun _ kk => XS.aload X194.here hx rfl (hb hby at_160) rfl rfl kk) ?_
            show OGo p e below (T194.setTop (mkF m 162 #[.val (.int p1), .val (.int p2), .val (.int p3), .val (.int p4), .val (.int p5), .val (.int p6), .val (.int (((p1.toUInt32 >>> ((30 : Int32) &&& 31).toUInt32).toInt32) &&& (3 : Int32))), .val w94, .val w96, .val w99, .val w105, .val w113, .val w122, .val (.ref c1), .val (.ref c2), .val (.int (0 : Int32))] [(.ref c1)])) (OEndW s Z consts_1 (fun v h L => v = some (.int (1 : Int32)) ∧ Fr n0 L) room_1.cells room_1.slots)
            refine OGo.step (fun _ kk => XS.aload X194.here hx rfl (hb hby at_162) rfl rfl kk) ?_
            show OGo p e below (T194.setTop (mkF m 164 #[.val (.int p1), .val (.int p2), .val (.int p3), .val (.int p4), .val (.int p5), .val (.int p6), .val (.int (((p1.toUInt32 >>> ((30 : Int32) &&& 31).toUInt32).toInt32) &&& (3 : Int32))), .val w94, .val w96, .val w99, .val w105, .val w113, .val w122, .val (.ref c1), .val (.ref c2), .val (.int (0 : Int32))] [(.ref c2), (.ref c1)])) (OEndW s Z consts_1 (fun v h L => v = some (.int (1 : Int32)) ∧ Fr n0 L) room_1.cells room_1.slots)
            refine own_virtual X194 hx hZ (y := (⟨"com/example/tags_to_grants/tagstogrants/policy/Policy$Cell", "equals", "(Ljava/lang/Object;)Z"⟩ : MethodName)) (z := (⟨"com/example/tags_to_grants/tagstogrants/policy/Policy$Cell", "equals", "(Ljava/lang/Object;)Z"⟩ : MethodName)) hown (hw _ (List.mem_of_getElem? (i := 58) rfl)) (hw _ (List.mem_of_getElem? (i := 59) rfl)) (notFace_of_selects (args := #[]) (mvT hZ (hw _ (List.mem_of_getElem? (i := 61) rfl)))) (hw _ (List.mem_of_getElem? (i := 61) rfl)) (hw _ (List.mem_of_getElem? (i := 60) rfl)) (by decide) (hw _ (List.mem_of_getElem? (i := 62) rfl)) (hw _ (List.mem_of_getElem? (i := 39) rfl)) (b := c1) fc182 (W := 0) (own_ceq l Z a0 hw [] c1 c2 zc w94 w96 w99 w105 w113 w122 (own_so p1) (own_so p2) (own_so p3) (own_so p4) (own_so p5) (own_so p6) T156.heap n0 sz156 fx181 hzc E156 fc183 fc184 fc185 Fa156 Fb156 Fc156 fx161 fx171 hne1 fx165 fx173 hne2 fx169 fx175 hne3) e194  (pc := 164) (Ls := #[.val (.int p1), .val (.int p2), .val (.int p3), .val (.int p4), .val (.int p5), .val (.int p6), .val (.int (((p1.toUInt32 >>> ((30 : Int32) &&& 31).toUInt32).toInt32) &&& (3 : Int32))), .val w94, .val w96, .val w99, .val w105, .val w113, .val w122, .val (.ref c1), .val (.ref c2), .val (.int (0 : Int32))]) (argsL := [(.ref c2)]) (rest := []) (by rw [hml]; rfl) (lenOf own_pd2 rfl) rfl (hb hby at_164) (by decide) (by decide) (by decide) (by decide) ?_
            intro v195 T195 L195 X195 hQ195
            obtain ⟨rfl, N195, e195⟩ := hQ195
            show OGo p e below (T195.setTop (mkF m 167 #[.val (.int p1), .val (.int p2), .val (.int p3), .val (.int p4), .val (.int p5), .val (.int p6), .val (.int (((p1.toUInt32 >>> ((30 : Int32) &&& 31).toUInt32).toInt32) &&& (3 : Int32))), .val w94, .val w96, .val w99, .val w105, .val w113, .val w122, .val (.ref c1), .val (.ref c2), .val (.int (0 : Int32))] [(.int (if (own_so p1) = (own_so p4) ∧ (own_so p2) = (own_so p5) ∧ (own_so p3) = (own_so p6) then (1 : Int32) else 0))])) (OEndW s Z consts_1 (fun v h L => v = some (.int (1 : Int32)) ∧ Fr n0 L) room_1.cells room_1.slots)
            have Nc195 := Fr.app Nc194 N195
            refine OGo.step (fun _ kk => XS.iload X195.here hx rfl (hb hby at_167) rfl kk) ?_
            show OGo p e below (T195.setTop (mkF m 169 #[.val (.int p1), .val (.int p2), .val (.int p3), .val (.int p4), .val (.int p5), .val (.int p6), .val (.int (((p1.toUInt32 >>> ((30 : Int32) &&& 31).toUInt32).toInt32) &&& (3 : Int32))), .val w94, .val w96, .val w99, .val w105, .val w113, .val w122, .val (.ref c1), .val (.ref c2), .val (.int (0 : Int32))] [(.int (0 : Int32)), (.int (if (own_so p1) = (own_so p4) ∧ (own_so p2) = (own_so p5) ∧ (own_so p3) = (own_so p6) then (1 : Int32) else 0))])) (OEndW s Z consts_1 (fun v h L => v = some (.int (1 : Int32)) ∧ Fr n0 L) room_1.cells room_1.slots)
            refine OGo.step (fun _ kk => XS.icmpNo X195.here hx rfl (hb hby at_169) rfl (teq (if_neg (fun z => own_if0 hm3 z.2.2))).2 kk) ?_
            show OGo p e below (T195.setTop (mkF m 172 #[.val (.int p1), .val (.int p2), .val (.int p3), .val (.int p4), .val (.int p5), .val (.int p6), .val (.int (((p1.toUInt32 >>> ((30 : Int32) &&& 31).toUInt32).toInt32) &&& (3 : Int32))), .val w94, .val w96, .val w99, .val w105, .val w113, .val w122, .val (.ref c1), .val (.ref c2), .val (.int (0 : Int32))] [])) (OEndW s Z consts_1 (fun v h L => v = some (.int (1 : Int32)) ∧ Fr n0 L) room_1.cells room_1.slots)
            refine OGo.step (fun _ kk => XS.aload X195.here hx rfl (hb hby at_172) rfl rfl kk) ?_
            show OGo p e below (T195.setTop (mkF m 174 #[.val (.int p1), .val (.int p2), .val (.int p3), .val (.int p4), .val (.int p5), .val (.int p6), .val (.int (((p1.toUInt32 >>> ((30 : Int32) &&& 31).toUInt32).toInt32) &&& (3 : Int32))), .val w94, .val w96, .val w99, .val w105, .val w113, .val w122, .val (.ref c1), .val (.ref c2), .val (.int (0 : Int32))] [(.ref c2)])) (OEndW s Z consts_1 (fun v h L => v = some (.int (1 : Int32)) ∧ Fr n0 L) room_1.cells room_1.slots)
            refine OGo.step (fun _ kk => XS.aload X195.here hx rfl (hb hby at_174) rfl rfl kk) ?_
            show OGo p e below (T195.setTop (mkF m 176 #[.val (.int p1), .val (.int p2), .val (.int p3), .val (.int p4), .val (.int p5), .val (.int p6), .val (.int (((p1.toUInt32 >>> ((30 : Int32) &&& 31).toUInt32).toInt32) &&& (3 : Int32))), .val w94, .val w96, .val w99, .val w105, .val w113, .val w122, .val (.ref c1), .val (.ref c2), .val (.int (0 : Int32))] [(.ref c1), (.ref c2)])) (OEndW s Z consts_1 (fun v h L => v = some (.int (1 : Int32)) ∧ Fr n0 L) room_1.cells room_1.slots)
            refine own_virtual X195 hx hZ (y := (⟨"com/example/tags_to_grants/tagstogrants/policy/Policy$Cell", "equals", "(Ljava/lang/Object;)Z"⟩ : MethodName)) (z := (⟨"com/example/tags_to_grants/tagstogrants/policy/Policy$Cell", "equals", "(Ljava/lang/Object;)Z"⟩ : MethodName)) hown (hw _ (List.mem_of_getElem? (i := 58) rfl)) (hw _ (List.mem_of_getElem? (i := 59) rfl)) (notFace_of_selects (args := #[]) (mvT hZ (hw _ (List.mem_of_getElem? (i := 61) rfl)))) (hw _ (List.mem_of_getElem? (i := 61) rfl)) (hw _ (List.mem_of_getElem? (i := 60) rfl)) (by decide) (hw _ (List.mem_of_getElem? (i := 62) rfl)) (hw _ (List.mem_of_getElem? (i := 39) rfl)) (b := c2) E156 (W := 0) (own_ceq l Z a0 hw [] c2 c1 zc w105 w113 w122 w94 w96 w99 (own_so p4) (own_so p5) (own_so p6) (own_so p1) (own_so p2) (own_so p3) T156.heap n0 sz156 fx181 hzc fc182 Fa156 Fb156 Fc156 fc183 fc184 fc185 fx171 fx161 (fun z => (hne1 z.symm).symm) fx173 fx165 (fun z => (hne2 z.symm).symm) fx175 fx169 (fun z => (hne3 z.symm).symm)) e195  (pc := 176) (Ls := #[.val (.int p1), .val (.int p2), .val (.int p3), .val (.int p4), .val (.int p5), .val (.int p6), .val (.int (((p1.toUInt32 >>> ((30 : Int32) &&& 31).toUInt32).toInt32) &&& (3 : Int32))), .val w94, .val w96, .val w99, .val w105, .val w113, .val w122, .val (.ref c1), .val (.ref c2), .val (.int (0 : Int32))]) (argsL := [(.ref c1)]) (rest := []) (by rw [hml]; rfl) (lenOf own_pd2 rfl) rfl (hb hby at_176) (by decide) (by decide) (by decide) (by decide) ?_
            intro v196 T196 L196 X196 hQ196
            obtain ⟨rfl, N196, e196⟩ := hQ196
            show OGo p e below (T196.setTop (mkF m 179 #[.val (.int p1), .val (.int p2), .val (.int p3), .val (.int p4), .val (.int p5), .val (.int p6), .val (.int (((p1.toUInt32 >>> ((30 : Int32) &&& 31).toUInt32).toInt32) &&& (3 : Int32))), .val w94, .val w96, .val w99, .val w105, .val w113, .val w122, .val (.ref c1), .val (.ref c2), .val (.int (0 : Int32))] [(.int (if (own_so p4) = (own_so p1) ∧ (own_so p5) = (own_so p2) ∧ (own_so p6) = (own_so p3) then (1 : Int32) else 0))])) (OEndW s Z consts_1 (fun v h L => v = some (.int (1 : Int32)) ∧ Fr n0 L) room_1.cells room_1.slots)
            have Nc196 := Fr.app Nc195 N196
            refine OGo.step (fun _ kk => XS.iload X196.here hx rfl (hb hby at_179) rfl kk) ?_
            show OGo p e below (T196.setTop (mkF m 181 #[.val (.int p1), .val (.int p2), .val (.int p3), .val (.int p4), .val (.int p5), .val (.int p6), .val (.int (((p1.toUInt32 >>> ((30 : Int32) &&& 31).toUInt32).toInt32) &&& (3 : Int32))), .val w94, .val w96, .val w99, .val w105, .val w113, .val w122, .val (.ref c1), .val (.ref c2), .val (.int (0 : Int32))] [(.int (0 : Int32)), (.int (if (own_so p4) = (own_so p1) ∧ (own_so p5) = (own_so p2) ∧ (own_so p6) = (own_so p3) then (1 : Int32) else 0))])) (OEndW s Z consts_1 (fun v h L => v = some (.int (1 : Int32)) ∧ Fr n0 L) room_1.cells room_1.slots)
            refine OGo.step (fun _ kk => XS.icmpNo X196.here hx rfl (hb hby at_181) rfl (teq (if_neg (fun z => own_if0 hm3 z.2.2.symm))).2 kk) ?_
            show OGo p e below (T196.setTop (mkF m 184 #[.val (.int p1), .val (.int p2), .val (.int p3), .val (.int p4), .val (.int p5), .val (.int p6), .val (.int (((p1.toUInt32 >>> ((30 : Int32) &&& 31).toUInt32).toInt32) &&& (3 : Int32))), .val w94, .val w96, .val w99, .val w105, .val w113, .val w122, .val (.ref c1), .val (.ref c2), .val (.int (0 : Int32))] [])) (OEndW s Z consts_1 (fun v h L => v = some (.int (1 : Int32)) ∧ Fr n0 L) room_1.cells room_1.slots)
            refine OGo.step (fun _ kk => XS.aload X196.here hx rfl (hb hby at_184) rfl rfl kk) ?_
            show OGo p e below (T196.setTop (mkF m 186 #[.val (.int p1), .val (.int p2), .val (.int p3), .val (.int p4), .val (.int p5), .val (.int p6), .val (.int (((p1.toUInt32 >>> ((30 : Int32) &&& 31).toUInt32).toInt32) &&& (3 : Int32))), .val w94, .val w96, .val w99, .val w105, .val w113, .val w122, .val (.ref c1), .val (.ref c2), .val (.int (0 : Int32))] [(.ref c1)])) (OEndW s Z consts_1 (fun v h L => v = some (.int (1 : Int32)) ∧ Fr n0 L) room_1.cells room_1.slots)
            refine OGo.step (fun _ kk => XS.aload X196.here hx rfl (hb hby at_186) rfl rfl kk) ?_
            show OGo p e below (T196.setTop (mkF m 188 #[.val (.int p1), .val (.int p2), .val (.int p3), .val (.int p4), .val (.int p5), .val (.int p6), .val (.int (((p1.toUInt32 >>> ((30 : Int32) &&& 31).toUInt32).toInt32) &&& (3 : Int32))), .val w94, .val w96, .val w99, .val w105, .val w113, .val w122, .val (.ref c1), .val (.ref c2), .val (.int (0 : Int32))] [(.ref c1), (.ref c1)])) (OEndW s Z consts_1 (fun v h L => v = some (.int (1 : Int32)) ∧ Fr n0 L) room_1.cells room_1.slots)
            refine own_virtual X196 hx hZ (y := (⟨"com/example/tags_to_grants/tagstogrants/policy/Policy$Cell", "equals", "(Ljava/lang/Object;)Z"⟩ : MethodName)) (z := (⟨"com/example/tags_to_grants/tagstogrants/policy/Policy$Cell", "equals", "(Ljava/lang/Object;)Z"⟩ : MethodName)) hown (hw _ (List.mem_of_getElem? (i := 58) rfl)) (hw _ (List.mem_of_getElem? (i := 59) rfl)) (notFace_of_selects (args := #[]) (mvT hZ (hw _ (List.mem_of_getElem? (i := 61) rfl)))) (hw _ (List.mem_of_getElem? (i := 61) rfl)) (hw _ (List.mem_of_getElem? (i := 60) rfl)) (by decide) (hw _ (List.mem_of_getElem? (i := 62) rfl)) (hw _ (List.mem_of_getElem? (i := 39) rfl)) (b := c1) fc182 (W := 0) (own_ceq l Z a0 hw [] c1 c1 zc w94 w96 w99 w94 w96 w99 (own_so p1) (own_so p2) (own_so p3) (own_so p1) (own_so p2) (own_so p3) T156.heap n0 sz156 fx181 hzc fc182 fc183 fc184 fc185 fc183 fc184 fc185 fx161 fx161 (fun _ => rfl) fx165 fx165 (fun _ => rfl) fx169 fx169 (fun _ => rfl)) e196  (pc := 188) (Ls := #[.val (.int p1), .val (.int p2), .val (.int p3), .val (.int p4), .val (.int p5), .val (.int p6), .val (.int (((p1.toUInt32 >>> ((30 : Int32) &&& 31).toUInt32).toInt32) &&& (3 : Int32))), .val w94, .val w96, .val w99, .val w105, .val w113, .val w122, .val (.ref c1), .val (.ref c2), .val (.int (0 : Int32))]) (argsL := [(.ref c1)]) (rest := []) (by rw [hml]; rfl) (lenOf own_pd2 rfl) rfl (hb hby at_188) (by decide) (by decide) (by decide) (by decide) ?_
            intro v197 T197 L197 X197 hQ197
            obtain ⟨rfl, N197, e197⟩ := hQ197
            show OGo p e below (T197.setTop (mkF m 191 #[.val (.int p1), .val (.int p2), .val (.int p3), .val (.int p4), .val (.int p5), .val (.int p6), .val (.int (((p1.toUInt32 >>> ((30 : Int32) &&& 31).toUInt32).toInt32) &&& (3 : Int32))), .val w94, .val w96, .val w99, .val w105, .val w113, .val w122, .val (.ref c1), .val (.ref c2), .val (.int (0 : Int32))] [(.int (if (own_so p1) = (own_so p1) ∧ (own_so p2) = (own_so p2) ∧ (own_so p3) = (own_so p3) then (1 : Int32) else 0))])) (OEndW s Z consts_1 (fun v h L => v = some (.int (1 : Int32)) ∧ Fr n0 L) room_1.cells room_1.slots)
            have Nc197 := Fr.app Nc196 N197
            refine OGo.step (fun _ kk => XS.ifNo X197.here hx rfl (hb hby at_191) rfl ((if0 _ _).trans (feq (by rw [if_pos ⟨rfl, rfl, rfl⟩]; decide)).1) kk) ?_
            show OGo p e below (T197.setTop (mkF m 194 #[.val (.int p1), .val (.int p2), .val (.int p3), .val (.int p4), .val (.int p5), .val (.int p6), .val (.int (((p1.toUInt32 >>> ((30 : Int32) &&& 31).toUInt32).toInt32) &&& (3 : Int32))), .val w94, .val w96, .val w99, .val w105, .val w113, .val w122, .val (.ref c1), .val (.ref c2), .val (.int (0 : Int32))] [])) (OEndW s Z consts_1 (fun v h L => v = some (.int (1 : Int32)) ∧ Fr n0 L) room_1.cells room_1.slots)
            refine OGo.step (fun _ kk => XS.iconst X197.here hx rfl (hb hby at_194) kk) ?_
            show OGo p e below (T197.setTop (mkF m 195 #[.val (.int p1), .val (.int p2), .val (.int p3), .val (.int p4), .val (.int p5), .val (.int p6), .val (.int (((p1.toUInt32 >>> ((30 : Int32) &&& 31).toUInt32).toInt32) &&& (3 : Int32))), .val w94, .val w96, .val w99, .val w105, .val w113, .val w122, .val (.ref c1), .val (.ref c2), .val (.int (0 : Int32))] [(.int (1 : Int32))])) (OEndW s Z consts_1 (fun v h L => v = some (.int (1 : Int32)) ∧ Fr n0 L) room_1.cells room_1.slots)
            refine OGo.step (fun _ kk => XS.goto X197.here hx rfl (pc0 := 195) (pc' := 199) rfl (hb hby at_195) (by decide) (by decide) kk) ?_
            show OGo p e below (T197.setTop (mkF m 199 #[.val (.int p1), .val (.int p2), .val (.int p3), .val (.int p4), .val (.int p5), .val (.int p6), .val (.int (((p1.toUInt32 >>> ((30 : Int32) &&& 31).toUInt32).toInt32) &&& (3 : Int32))), .val w94, .val w96, .val w99, .val w105, .val w113, .val w122, .val (.ref c1), .val (.ref c2), .val (.int (0 : Int32))] [(.int (1 : Int32))])) (OEndW s Z consts_1 (fun v h L => v = some (.int (1 : Int32)) ∧ Fr n0 L) room_1.cells room_1.slots)
            exact own_retNW X197 hx hlk hEL OW157 e197 hret (by simp) (hb hby at_199) ⟨by rw [own_nar1], Nc197⟩ (by decide) (by decide)
          · refine OGo.step (fun _ kk => XS.ifNo X194.here hx rfl (hb hby at_150) rfl ((if0 _ _).trans (feq hm3).1) kk) ?_
            show OGo p e below (T194.setTop (mkF m 153 #[.val (.int p1), .val (.int p2), .val (.int p3), .val (.int p4), .val (.int p5), .val (.int p6), .val (.int (((p1.toUInt32 >>> ((30 : Int32) &&& 31).toUInt32).toInt32) &&& (3 : Int32))), .val w94, .val w96, .val w99, .val w105, .val w113, .val w122, .val (.ref c1), .val (.ref c2), .unset] [])) (OEndW s Z consts_1 (fun v h L => v = some (.int (1 : Int32)) ∧ Fr n0 L) room_1.cells room_1.slots)
            refine OGo.step (fun _ kk => XS.iconst X194.here hx rfl (hb hby at_153) kk) ?_
            show OGo p e below (T194.setTop (mkF m 154 #[.val (.int p1), .val (.int p2), .val (.int p3), .val (.int p4), .val (.int p5), .val (.int p6), .val (.int (((p1.toUInt32 >>> ((30 : Int32) &&& 31).toUInt32).toInt32) &&& (3 : Int32))), .val w94, .val w96, .val w99, .val w105, .val w113, .val w122, .val (.ref c1), .val (.ref c2), .unset] [(.int (1 : Int32))])) (OEndW s Z consts_1 (fun v h L => v = some (.int (1 : Int32)) ∧ Fr n0 L) room_1.cells room_1.slots)
            refine OGo.step (fun _ kk => XS.goto X194.here hx rfl (pc0 := 154) (pc' := 158) rfl (hb hby at_154) (by decide) (by decide) kk) ?_
            show OGo p e below (T194.setTop (mkF m 158 #[.val (.int p1), .val (.int p2), .val (.int p3), .val (.int p4), .val (.int p5), .val (.int p6), .val (.int (((p1.toUInt32 >>> ((30 : Int32) &&& 31).toUInt32).toInt32) &&& (3 : Int32))), .val w94, .val w96, .val w99, .val w105, .val w113, .val w122, .val (.ref c1), .val (.ref c2), .unset] [(.int (1 : Int32))])) (OEndW s Z consts_1 (fun v h L => v = some (.int (1 : Int32)) ∧ Fr n0 L) room_1.cells room_1.slots)
            refine OGo.step (fun _ kk => XS.istore X194.here hx rfl (hb hby at_158) rfl (l' := #[.val (.int p1), .val (.int p2), .val (.int p3), .val (.int p4), .val (.int p5), .val (.int p6), .val (.int (((p1.toUInt32 >>> ((30 : Int32) &&& 31).toUInt32).toInt32) &&& (3 : Int32))), .val w94, .val w96, .val w99, .val w105, .val w113, .val w122, .val (.ref c1), .val (.ref c2), .val (.int (1 : Int32))]) rfl kk) ?_
            show OGo p e below (T194.setTop (mkF m 160 #[.val (.int p1), .val (.int p2), .val (.int p3), .val (.int p4), .val (.int p5), .val (.int p6), .val (.int (((p1.toUInt32 >>> ((30 : Int32) &&& 31).toUInt32).toInt32) &&& (3 : Int32))), .val w94, .val w96, .val w99, .val w105, .val w113, .val w122, .val (.ref c1), .val (.ref c2), .val (.int (1 : Int32))] [])) (OEndW s Z consts_1 (fun v h L => v = some (.int (1 : Int32)) ∧ Fr n0 L) room_1.cells room_1.slots)
            refine OGo.step (fun _ kk => XS.aload X194.here hx rfl (hb hby at_160) rfl rfl kk) ?_
            show OGo p e below (T194.setTop (mkF m 162 #[.val (.int p1), .val (.int p2), .val (.int p3), .val (.int p4), .val (.int p5), .val (.int p6), .val (.int (((p1.toUInt32 >>> ((30 : Int32) &&& 31).toUInt32).toInt32) &&& (3 : Int32))), .val w94, .val w96, .val w99, .val w105, .val w113, .val w122, .val (.ref c1), .val (.ref c2), .val (.int (1 : Int32))] [(.ref c1)])) (OEndW s Z consts_1 (fun v h L => v = some (.int (1 : Int32)) ∧ Fr n0 L) room_1.cells room_1.slots)
            refine OGo.step (fun _ kk => XS.aload X194.here hx rfl (hb hby at_162) rfl rfl kk) ?_
            show OGo p e below (T194.setTop (mkF m 164 #[.val (.int p1), .val (.int p2), .val (.int p3), .val (.int p4), .val (.int p5), .val (.int p6), .val (.int (((p1.toUInt32 >>> ((30 : Int32) &&& 31).toUInt32).toInt32) &&& (3 : Int32))), .val w94, .val w96, .val w99, .val w105, .val w113, .val w122, .val (.ref c1), .val (.ref c2), .val (.int (1 : Int32))] [(.ref c2), (.ref c1)])) (OEndW s Z consts_1 (fun v h L => v = some (.int (1 : Int32)) ∧ Fr n0 L) room_1.cells room_1.slots)
            refine own_virtual X194 hx hZ (y := (⟨"com/example/tags_to_grants/tagstogrants/policy/Policy$Cell", "equals", "(Ljava/lang/Object;)Z"⟩ : MethodName)) (z := (⟨"com/example/tags_to_grants/tagstogrants/policy/Policy$Cell", "equals", "(Ljava/lang/Object;)Z"⟩ : MethodName)) hown (hw _ (List.mem_of_getElem? (i := 58) rfl)) (hw _ (List.mem_of_getElem? (i := 59) rfl)) (notFace_of_selects (args := #[]) (mvT hZ (hw _ (List.mem_of_getElem? (i := 61) rfl)))) (hw _ (List.mem_of_getElem? (i := 61) rfl)) (hw _ (List.mem_of_getElem? (i := 60) rfl)) (by decide) (hw _ (List.mem_of_getElem? (i := 62) rfl)) (hw _ (List.mem_of_getElem? (i := 39) rfl)) (b := c1) fc182 (W := 0) (own_ceq l Z a0 hw [] c1 c2 zc w94 w96 w99 w105 w113 w122 (own_so p1) (own_so p2) (own_so p3) (own_so p4) (own_so p5) (own_so p6) T156.heap n0 sz156 fx181 hzc E156 fc183 fc184 fc185 Fa156 Fb156 Fc156 fx161 fx171 hne1 fx165 fx173 hne2 fx169 fx175 hne3) e194  (pc := 164) (Ls := #[.val (.int p1), .val (.int p2), .val (.int p3), .val (.int p4), .val (.int p5), .val (.int p6), .val (.int (((p1.toUInt32 >>> ((30 : Int32) &&& 31).toUInt32).toInt32) &&& (3 : Int32))), .val w94, .val w96, .val w99, .val w105, .val w113, .val w122, .val (.ref c1), .val (.ref c2), .val (.int (1 : Int32))]) (argsL := [(.ref c2)]) (rest := []) (by rw [hml]; rfl) (lenOf own_pd2 rfl) rfl (hb hby at_164) (by decide) (by decide) (by decide) (by decide) ?_
            intro v198 T198 L198 X198 hQ198
            obtain ⟨rfl, N198, e198⟩ := hQ198
            show OGo p e below (T198.setTop (mkF m 167 #[.val (.int p1), .val (.int p2), .val (.int p3), .val (.int p4), .val (.int p5), .val (.int p6), .val (.int (((p1.toUInt32 >>> ((30 : Int32) &&& 31).toUInt32).toInt32) &&& (3 : Int32))), .val w94, .val w96, .val w99, .val w105, .val w113, .val w122, .val (.ref c1), .val (.ref c2), .val (.int (1 : Int32))] [(.int (if (own_so p1) = (own_so p4) ∧ (own_so p2) = (own_so p5) ∧ (own_so p3) = (own_so p6) then (1 : Int32) else 0))])) (OEndW s Z consts_1 (fun v h L => v = some (.int (1 : Int32)) ∧ Fr n0 L) room_1.cells room_1.slots)
            have Nc198 := Fr.app Nc194 N198
            refine OGo.step (fun _ kk => XS.iload X198.here hx rfl (hb hby at_167) rfl kk) ?_
            show OGo p e below (T198.setTop (mkF m 169 #[.val (.int p1), .val (.int p2), .val (.int p3), .val (.int p4), .val (.int p5), .val (.int p6), .val (.int (((p1.toUInt32 >>> ((30 : Int32) &&& 31).toUInt32).toInt32) &&& (3 : Int32))), .val w94, .val w96, .val w99, .val w105, .val w113, .val w122, .val (.ref c1), .val (.ref c2), .val (.int (1 : Int32))] [(.int (1 : Int32)), (.int (if (own_so p1) = (own_so p4) ∧ (own_so p2) = (own_so p5) ∧ (own_so p3) = (own_so p6) then (1 : Int32) else 0))])) (OEndW s Z consts_1 (fun v h L => v = some (.int (1 : Int32)) ∧ Fr n0 L) room_1.cells room_1.slots)
            refine OGo.step (fun _ kk => XS.icmpNo X198.here hx rfl (hb hby at_169) rfl (teq (if_pos ⟨own_if1 hm1, own_if1 hm2, own_if1 hm3⟩)).2 kk) ?_
            show OGo p e below (T198.setTop (mkF m 172 #[.val (.int p1), .val (.int p2), .val (.int p3), .val (.int p4), .val (.int p5), .val (.int p6), .val (.int (((p1.toUInt32 >>> ((30 : Int32) &&& 31).toUInt32).toInt32) &&& (3 : Int32))), .val w94, .val w96, .val w99, .val w105, .val w113, .val w122, .val (.ref c1), .val (.ref c2), .val (.int (1 : Int32))] [])) (OEndW s Z consts_1 (fun v h L => v = some (.int (1 : Int32)) ∧ Fr n0 L) room_1.cells room_1.slots)
            refine OGo.step (fun _ kk => XS.aload X198.here hx rfl (hb hby at_172) rfl rfl kk) ?_
            show OGo p e below (T198.setTop (mkF m 174 #[.val (.int p1), .val (.int p2), .val (.int p3), .val (.int p4), .val (.int p5), .val (.int p6), .val (.int (((p1.toUInt32 >>> ((30 : Int32) &&& 31).toUInt32).toInt32) &&& (3 : Int32))), .val w94, .val w96, .val w99, .val w105, .val w113, .val w122, .val (.ref c1), .val (.ref c2), .val (.int (1 : Int32))] [(.ref c2)])) (OEndW s Z consts_1 (fun v h L => v = some (.int (1 : Int32)) ∧ Fr n0 L) room_1.cells room_1.slots)
            refine OGo.step (fun _ kk => XS.aload X198.here hx rfl (hb hby at_174) rfl rfl kk) ?_
            show OGo p e below (T198.setTop (mkF m 176 #[.val (.int p1), .val (.int p2), .val (.int p3), .val (.int p4), .val (.int p5), .val (.int p6), .val (.int (((p1.toUInt32 >>> ((30 : Int32) &&& 31).toUInt32).toInt32) &&& (3 : Int32))), .val w94, .val w96, .val w99, .val w105, .val w113, .val w122, .val (.ref c1), .val (.ref c2), .val (.int (1 : Int32))] [(.ref c1), (.ref c2)])) (OEndW s Z consts_1 (fun v h L => v = some (.int (1 : Int32)) ∧ Fr n0 L) room_1.cells room_1.slots)
            refine own_virtual X198 hx hZ (y := (⟨"com/example/tags_to_grants/tagstogrants/policy/Policy$Cell", "equals", "(Ljava/lang/Object;)Z"⟩ : MethodName)) (z := (⟨"com/example/tags_to_grants/tagstogrants/policy/Policy$Cell", "equals", "(Ljava/lang/Object;)Z"⟩ : MethodName)) hown (hw _ (List.mem_of_getElem? (i := 58) rfl)) (hw _ (List.mem_of_getElem? (i := 59) rfl)) (notFace_of_selects (args := #[]) (mvT hZ (hw _ (List.mem_of_getElem? (i := 61) rfl)))) (hw _ (List.mem_of_getElem? (i := 61) rfl)) (hw _ (List.mem_of_getElem? (i := 60) rfl)) (by decide) (hw _ (List.mem_of_getElem? (i := 62) rfl)) (hw _ (List.mem_of_getElem? (i := 39) rfl)) (b := c2) E156 (W := 0) (own_ceq l Z a0 hw [] c2 c1 zc w105 w113 w122 w94 w96 w99 (own_so p4) (own_so p5) (own_so p6) (own_so p1) (own_so p2) (own_so p3) T156.heap n0 sz156 fx181 hzc fc182 Fa156 Fb156 Fc156 fc183 fc184 fc185 fx171 fx161 (fun z => (hne1 z.symm).symm) fx173 fx165 (fun z => (hne2 z.symm).symm) fx175 fx169 (fun z => (hne3 z.symm).symm)) e198  (pc := 176) (Ls := #[.val (.int p1), .val (.int p2), .val (.int p3), .val (.int p4), .val (.int p5), .val (.int p6), .val (.int (((p1.toUInt32 >>> ((30 : Int32) &&& 31).toUInt32).toInt32) &&& (3 : Int32))), .val w94, .val w96, .val w99, .val w105, .val w113, .val w122, .val (.ref c1), .val (.ref c2), .val (.int (1 : Int32))]) (argsL := [(.ref c1)]) (rest := []) (by rw [hml]; rfl) (lenOf own_pd2 rfl) rfl (hb hby at_176) (by decide) (by decide) (by decide) (by decide) ?_
            intro v199 T199 L199 X199 hQ199
            obtain ⟨rfl, N199, e199⟩ := hQ199
            show OGo p e below (T199.setTop (mkF m 179 #[.val (.int p1), .val (.int p2), .val (.int p3), .val (.int p4), .val (.int p5), .val (.int p6), .val (.int (((p1.toUInt32 >>> ((30 : Int32) &&& 31).toUInt32).toInt32) &&& (3 : Int32))), .val w94, .val w96, .val w99, .val w105, .val w113, .val w122, .val (.ref c1), .val (.ref c2), .val (.int (1 : Int32))] [(.int (if (own_so p4) = (own_so p1) ∧ (own_so p5) = (own_so p2) ∧ (own_so p6) = (own_so p3) then (1 : Int32) else 0))])) (OEndW s Z consts_1 (fun v h L => v = some (.int (1 : Int32)) ∧ Fr n0 L) room_1.cells room_1.slots)
            have Nc199 := Fr.app Nc198 N199
            refine OGo.step (fun _ kk => XS.iload X199.here hx rfl (hb hby at_179) rfl kk) ?_
            show OGo p e below (T199.setTop (mkF m 181 #[.val (.int p1), .val (.int p2), .val (.int p3), .val (.int p4), .val (.int p5), .val (.int p6), .val (.int (((p1.toUInt32 >>> ((30 : Int32) &&& 31).toUInt32).toInt32) &&& (3 : Int32))), .val w94, .val w96, .val w99, .val w105, .val w113, .val w122, .val (.ref c1), .val (.ref c2), .val (.int (1 : Int32))] [(.int (1 : Int32)), (.int (if (own_so p4) = (own_so p1) ∧ (own_so p5) = (own_so p2) ∧ (own_so p6) = (own_so p3) then (1 : Int32) else 0))])) (OEndW s Z consts_1 (fun v h L => v = some (.int (1 : Int32)) ∧ Fr n0 L) room_1.cells room_1.slots)
            refine OGo.step (fun _ kk => XS.icmpNo X199.here hx rfl (hb hby at_181) rfl (teq (if_pos ⟨(own_if1 hm1).symm, (own_if1 hm2).symm, (own_if1 hm3).symm⟩)).2 kk) ?_
            show OGo p e below (T199.setTop (mkF m 184 #[.val (.int p1), .val (.int p2), .val (.int p3), .val (.int p4), .val (.int p5), .val (.int p6), .val (.int (((p1.toUInt32 >>> ((30 : Int32) &&& 31).toUInt32).toInt32) &&& (3 : Int32))), .val w94, .val w96, .val w99, .val w105, .val w113, .val w122, .val (.ref c1), .val (.ref c2), .val (.int (1 : Int32))] [])) (OEndW s Z consts_1 (fun v h L => v = some (.int (1 : Int32)) ∧ Fr n0 L) room_1.cells room_1.slots)
            refine OGo.step (fun _ kk => XS.aload X199.here hx rfl (hb hby at_184) rfl rfl kk) ?_
            show OGo p e below (T199.setTop (mkF m 186 #[.val (.int p1), .val (.int p2), .val (.int p3), .val (.int p4), .val (.int p5), .val (.int p6), .val (.int (((p1.toUInt32 >>> ((30 : Int32) &&& 31).toUInt32).toInt32) &&& (3 : Int32))), .val w94, .val w96, .val w99, .val w105, .val w113, .val w122, .val (.ref c1), .val (.ref c2), .val (.int (1 : Int32))] [(.ref c1)])) (OEndW s Z consts_1 (fun v h L => v = some (.int (1 : Int32)) ∧ Fr n0 L) room_1.cells room_1.slots)
            refine OGo.step (fun _ kk => XS.aload X199.here hx rfl (hb hby at_186) rfl rfl kk) ?_
            show OGo p e below (T199.setTop (mkF m 188 #[.val (.int p1), .val (.int p2), .val (.int p3), .val (.int p4), .val (.int p5), .val (.int p6), .val (.int (((p1.toUInt32 >>> ((30 : Int32) &&& 31).toUInt32).toInt32) &&& (3 : Int32))), .val w94, .val w96, .val w99, .val w105, .val w113, .val w122, .val (.ref c1), .val (.ref c2), .val (.int (1 : Int32))] [(.ref c1), (.ref c1)])) (OEndW s Z consts_1 (fun v h L => v = some (.int (1 : Int32)) ∧ Fr n0 L) room_1.cells room_1.slots)
            refine own_virtual X199 hx hZ (y := (⟨"com/example/tags_to_grants/tagstogrants/policy/Policy$Cell", "equals", "(Ljava/lang/Object;)Z"⟩ : MethodName)) (z := (⟨"com/example/tags_to_grants/tagstogrants/policy/Policy$Cell", "equals", "(Ljava/lang/Object;)Z"⟩ : MethodName)) hown (hw _ (List.mem_of_getElem? (i := 58) rfl)) (hw _ (List.mem_of_getElem? (i := 59) rfl)) (notFace_of_selects (args := #[]) (mvT hZ (hw _ (List.mem_of_getElem? (i := 61) rfl)))) (hw _ (List.mem_of_getElem? (i := 61) rfl)) (hw _ (List.mem_of_getElem? (i := 60) rfl)) (by decide) (hw _ (List.mem_of_getElem? (i := 62) rfl)) (hw _ (List.mem_of_getElem? (i := 39) rfl)) (b := c1) fc182 (W := 0) (own_ceq l Z a0 hw [] c1 c1 zc w94 w96 w99 w94 w96 w99 (own_so p1) (own_so p2) (own_so p3) (own_so p1) (own_so p2) (own_so p3) T156.heap n0 sz156 fx181 hzc fc182 fc183 fc184 fc185 fc183 fc184 fc185 fx161 fx161 (fun _ => rfl) fx165 fx165 (fun _ => rfl) fx169 fx169 (fun _ => rfl)) e199  (pc := 188) (Ls := #[.val (.int p1), .val (.int p2), .val (.int p3), .val (.int p4), .val (.int p5), .val (.int p6), .val (.int (((p1.toUInt32 >>> ((30 : Int32) &&& 31).toUInt32).toInt32) &&& (3 : Int32))), .val w94, .val w96, .val w99, .val w105, .val w113, .val w122, .val (.ref c1), .val (.ref c2), .val (.int (1 : Int32))]) (argsL := [(.ref c1)]) (rest := []) (by rw [hml]; rfl) (lenOf own_pd2 rfl) rfl (hb hby at_188) (by decide) (by decide) (by decide) (by decide) ?_
            intro v200 T200 L200 X200 hQ200
            obtain ⟨rfl, N200, e200⟩ := hQ200
            show OGo p e below (T200.setTop (mkF m 191 #[.val (.int p1), .val (.int p2), .val (.int p3), .val (.int p4), .val (.int p5), .val (.int p6), .val (.int (((p1.toUInt32 >>> ((30 : Int32) &&& 31).toUInt32).toInt32) &&& (3 : Int32))), .val w94, .val w96, .val w99, .val w105, .val w113, .val w122, .val (.ref c1), .val (.ref c2), .val (.int (1 : Int32))] [(.int (if (own_so p1) = (own_so p1) ∧ (own_so p2) = (own_so p2) ∧ (own_so p3) = (own_so p3) then (1 : Int32) else 0))])) (OEndW s Z consts_1 (fun v h L => v = some (.int (1 : Int32)) ∧ Fr n0 L) room_1.cells room_1.slots)
            have Nc200 := Fr.app Nc199 N200
            refine OGo.step (fun _ kk => XS.ifNo X200.here hx rfl (hb hby at_191) rfl ((if0 _ _).trans (feq (by rw [if_pos ⟨rfl, rfl, rfl⟩]; decide)).1) kk) ?_
            show OGo p e below (T200.setTop (mkF m 194 #[.val (.int p1), .val (.int p2), .val (.int p3), .val (.int p4), .val (.int p5), .val (.int p6), .val (.int (((p1.toUInt32 >>> ((30 : Int32) &&& 31).toUInt32).toInt32) &&& (3 : Int32))), .val w94, .val w96, .val w99, .val w105, .val w113, .val w122, .val (.ref c1), .val (.ref c2), .val (.int (1 : Int32))] [])) (OEndW s Z consts_1 (fun v h L => v = some (.int (1 : Int32)) ∧ Fr n0 L) room_1.cells room_1.slots)
            refine OGo.step (fun _ kk => XS.iconst X200.here hx rfl (hb hby at_194) kk) ?_
            show OGo p e below (T200.setTop (mkF m 195 #[.val (.int p1), .val (.int p2), .val (.int p3), .val (.int p4), .val (.int p5), .val (.int p6), .val (.int (((p1.toUInt32 >>> ((30 : Int32) &&& 31).toUInt32).toInt32) &&& (3 : Int32))), .val w94, .val w96, .val w99, .val w105, .val w113, .val w122, .val (.ref c1), .val (.ref c2), .val (.int (1 : Int32))] [(.int (1 : Int32))])) (OEndW s Z consts_1 (fun v h L => v = some (.int (1 : Int32)) ∧ Fr n0 L) room_1.cells room_1.slots)
            refine OGo.step (fun _ kk => XS.goto X200.here hx rfl (pc0 := 195) (pc' := 199) rfl (hb hby at_195) (by decide) (by decide) kk) ?_
            show OGo p e below (T200.setTop (mkF m 199 #[.val (.int p1), .val (.int p2), .val (.int p3), .val (.int p4), .val (.int p5), .val (.int p6), .val (.int (((p1.toUInt32 >>> ((30 : Int32) &&& 31).toUInt32).toInt32) &&& (3 : Int32))), .val w94, .val w96, .val w99, .val w105, .val w113, .val w122, .val (.ref c1), .val (.ref c2), .val (.int (1 : Int32))] [(.int (1 : Int32))])) (OEndW s Z consts_1 (fun v h L => v = some (.int (1 : Int32)) ∧ Fr n0 L) room_1.cells room_1.slots)
            exact own_retNW X200 hx hlk hEL OW157 e200 hret (by simp) (hb hby at_199) ⟨by rw [own_nar1], Nc200⟩ (by decide) (by decide)

set_option maxRecDepth 65536 in
set_option maxHeartbeats 40000000 in
theorem comes_1 {Post : Tables → Env → Array Value → State → Outcome → State → Prop} (hpost : ∀ tb e args s v u, (limb_1_1.after args s (.returned v) u = true ∧ limb_1_2.after args s (.returned v) u = true ∧ True) → ReturnedEndW s (.returned v) u (Jvm.fieldLocs frame_1_writes args s ++ Jvm.arrayLocs frame_1_arrays args s ++ Jvm.staticLocs frame_1_statics s) 56 1216 → Post tb e args s (.returned v) u) :
    ArmFor flags0 classFile x code maxLocals ret World_1 tables_1 room_1 Calls_1 rest_1 Pre_1 Post := by
  intro l hfl _ _ p e ha hc hk s m args below hf hA hF happ hP
  obtain ⟨hcalls, hrest, hpre⟩ := hP
  obtain ⟨-, -, -, hnamed, -, -, -, hat⟩ := (Spec.applies_iff hf).mp happ
  obtain ⟨hg, hn⟩ := and_e (Cond.before_iff.mp (show (Jvm.Cond.and given_1 narrow_1).before args s = true from hpre))
  obtain ⟨k201, k201'⟩ := and_e hg
  obtain ⟨k202, k202'⟩ := and_e k201'
  obtain ⟨k203, k203'⟩ := and_e k202'
  obtain ⟨k204, k204'⟩ := and_e k203'
  obtain ⟨k205, k205'⟩ := and_e k204'
  obtain ⟨k206, k206'⟩ := and_e k205'
  obtain ⟨w0_, w1_, w2_, w3_, w4_, w5_, rfl⟩ : ∃ w0_ w1_ w2_ w3_ w4_ w5_ : Value, args = #[w0_, w1_, w2_, w3_, w4_, w5_] := by
    have hs : args.size = 6 := by simpa [Cond.value, given_1] using k201
    obtain ⟨L⟩ := args
    match L, hs with
    | [w0_, w1_, w2_, w3_, w4_, w5_], _ => exact ⟨w0_, w1_, w2_, w3_, w4_, w5_, rfl⟩
  have hw := fun d (hd : d ∈ tables_1) => atoms_spec (ws := Jvm.Cond.code x code maxLocals ret :: tables_1) hat d (List.mem_cons_of_mem _ hd)
  have hfit : Fit s := fun {y c} hc i hi => by
    obtain ⟨ha, rfl⟩ := Array.getElem?_eq_some_iff.mp hc
    have q := List.all_eq_true.mp ((Array.all_eq_true_iff_forall_mem.mp hF) _ (Array.getElem_mem ha)) i (List.mem_range.mpr hi)
    simpa [Array.getElem?_eq_getElem hi] using q
  obtain ⟨hsets, hown0⟩ := atoms_of _ (rest_1_c_eq ▸ (show rest_1_c.before _ s = true from hrest))
  obtain ⟨i0, ei0⟩ := is_v k202
  obtain rfl : w0_ = (.int i0) := Option.some.inj ei0
  obtain ⟨i1, ei1⟩ := is_v k203
  obtain rfl : w1_ = (.int i1) := Option.some.inj ei1
  obtain ⟨i2, ei2⟩ := is_v k204
  obtain rfl : w2_ = (.int i2) := Option.some.inj ei2
  obtain ⟨i3, ei3⟩ := is_v k205
  obtain rfl : w3_ = (.int i3) := Option.some.inj ei3
  obtain ⟨i4, ei4⟩ := is_v k206
  obtain rfl : w4_ = (.int i4) := Option.some.inj ei4
  obtain ⟨i5, ei5⟩ := is_v k206'
  obtain rfl : w5_ = (.int i5) := Option.some.inj ei5
  obtain ⟨zc, ezc⟩ := is_v (Cond.before_iff.mp (hsets _ (List.mem_of_getElem? (i := 1) rfl)))
  have SC0 := Sta.start ezc (Or.inl (hsets _ (List.mem_of_getElem? (i := 0) rfl)))
  have hzc : ¬ zc = 0 := gotF (Cond.eq_ints ezc (Term.int_eval (0))) (not_v (Cond.before_iff.mp (hsets _ (List.mem_of_getElem? (i := 2) rfl))))
  have hch : CHv s consts_1 s.vm s.heap := CHv.start (own_hEL hw) (fun p hp => hcalls.1 p hp) (hsets _ (List.mem_of_getElem? (i := 2) rfl)) (own_wS hw _ (by simp [Bundle.stringAtoms])) (own_wS hw _ (by simp [Bundle.stringAtoms, Bundle.sN]))
  obtain ⟨n, o, h1, h2, h3, _, L, rfl, ⟨rfl, N⟩, -, hq⟩ := own_rm0 l s _ hw tables_1 i0 i1 i2 i3 i4 i5 zc s.heap s.heap.size (Nat.le_refl _) SC0 hzc p e ha hc hk s m _ below hf ((Spec.applies_iff_loose hf).mp happ).1 ⟨rfl, State.Warmed39.refl s, rfl, hch⟩ trivial
  exact ⟨n, _, h1, h2, h3, hpost _ _ _ _ _ _ ⟨Cond.after_iff.mpr rfl, Cond.after_iff.mpr (eq_i res_at (Term.int_eval (1)) rfl), trivial⟩ ⟨hq.1, hq.2.1, hq.2.2.1, (hq.2.2.2.sift fun y hy => Or.inr (N y hy)).mono (by decide) (by decide)⟩⟩
theorem main_1_1 : Claimed_1_1 := comes_1 fun _ _ _ _ _ _ h hF => ⟨h.1, hF⟩
theorem main_1_2 : Claimed_1_2 := comes_1 fun _ _ _ _ _ _ h hF => ⟨h.2.1, hF⟩
end Jvm.Pilot.@@N@@
namespace Jvm.Pilot.@@N@@
open Jvm Jvm.ClassFile Sem Op Lib Jvm.Free Jvm.Stand Jvm.Pilot.@@N@@.Jvm.D
/-! MADE BY PROGRAM (witnessworld.py) out of the Statement's table words and the real class files: 22 classes; the members and pool entries that the words name. The judged class is class 1, her method 3. -/
namespace start1
open Jvm.ClassFile
def u (s : String) : CpInfo := .utf8 (stringToUtf16 s)
/-- a pool by its gaps: so many unusable entries, then the entry; so many at the end -/
def gap : Nat → List CpInfo → List CpInfo
  | 0, r => r
  | n + 1, r => .unusable :: gap n r
def poolList (es : List (Nat × CpInfo)) (last : Nat) : List CpInfo := es.foldr (fun e r => gap e.1 (e.2 :: r)) (gap last [])
def pool (es : List (Nat × CpInfo)) (last : Nat) : Array CpInfo := ⟨poolList es last⟩
def fileOf (pool : Array CpInfo) (this : Nat) (attrs : Array Attribute := #[]) (ms : Array MethodInfo := #[]) (fl : Nat := 33) (sup : Nat := 0) (ifs : Array Nat := #[]) (fds : Array FieldInfo := #[]) : ClassFile where
  minorVersion := 0
  majorVersion := 65
  constantPool := pool
  accessFlags := fl
  thisClass := this
  superClass := sup
  interfaces := ifs
  fields := fds
  methods := ms
  attributes := attrs
def plain (name : String) (sup : Option ClassId) : Class where
  name := name
  kind := .ordinary
  loader := none
  accessFlags := 33
  super := sup
  interfaces := #[]
  cf := none
  fields := #[]
  methods := #[]
  instanceTypes := #[]
  staticTypes := #[]
  resolved := #[]
  callSites := []
  init := .initialized
  statics := none
  mirror := none

def pool0 : Array CpInfo := pool [(5, u "<init>"), (0, u "()V"), (1, .class_ 10), (1, u "java/lang/Object"), (81, u "equals"), (0, u "(Ljava/lang/Object;)Z")] 30

def k0c0 : Code := { maxStack := 0, maxLocals := 1, code := object_method_1_code, exceptionTable := #[], attributes := #[] }
def k0m0 : Method := { name := "<init>", desc := "()V", sig := { parameters := [], returnType := none }, accessFlags := 1, code := some k0c0 }
def k0c1 : Code := { maxStack := 2, maxLocals := 2, code := object_method_1_code, exceptionTable := #[], attributes := #[] }
def k0m1 : Method := { name := "equals", desc := "(Ljava/lang/Object;)Z", sig := { parameters := [(.object "java/lang/Object")], returnType := some .boolean }, accessFlags := 1, code := some k0c1 }
/-- java/lang/Object -/
def k0 : Class := { plain "java/lang/Object" none with
  accessFlags := 33
  interfaces := #[]
  cf := some (fileOf pool0 8 #[] #[{ accessFlags := 1, nameIndex := 5, descriptorIndex := 6, attributes := #[] }, { accessFlags := 1, nameIndex := 92, descriptorIndex := 93, attributes := #[] }] 33 0 #[] #[])
  fields := #[]
  methods := #[k0m0, k0m1]
  instanceTypes := #[]
  staticTypes := #[]
  resolved := Array.replicate 124 none
  statics := none }

def pool1 : Array CpInfo := pool [(2, .class_ 4), (1, u "java/lang/Object"), (0, u "<init>"), (0, u "()V"), (0, .class_ 8), (0, u "java/lang/String"), (0, .methodref 7 10), (0, .nameAndType 5 11), (0, u "([C)V"), (0, .methodref 7 13), (0, .nameAndType 14 15), (0, u "equals"), (0, u "(Ljava/lang/Object;)Z"), (0, .methodref 17 18), (0, .class_ 19), (0, .nameAndType 20 21), (0, u "com/example/tags_to_grants/tagstogrants/policy/CellEqualsPinLaw"), (0, u "s"), (0, u "(I)Ljava/lang/String;"), (0, .class_ 23), (0, u "com/example/tags_to_grants/tagstogrants/policy/Policy$Cell"), (0, .methodref 22 25), (0, .nameAndType 5 26), (0, u "(Ljava/lang/String;Ljava/lang/String;Ljava/lang/String;)V"), (0, .methodref 22 13), (0, .methodref 17 29), (0, .nameAndType 30 31), (0, u "same"), (0, u "(Ljava/lang/String;Ljava/lang/String;)Z"), (3, u "law"), (0, u "(IIIIII)Z")] 6

def k1m0 : Method := { name := "<init>", desc := "()V", sig := { parameters := [], returnType := none }, accessFlags := 2, code := none }
def k1c1 : Code := { maxStack := 6, maxLocals := 4, code := method_2_code, exceptionTable := #[], attributes := #[] }
def k1m1 : Method := { name := "s", desc := "(I)Ljava/lang/String;", sig := { parameters := [.int], returnType := some (.object "java/lang/String") }, accessFlags := 10, code := some k1c1 }
def k1c2 : Code := { maxStack := 2, maxLocals := 2, code := method_3_code, exceptionTable := #[], attributes := #[] }
def k1m2 : Method := { name := "same", desc := "(Ljava/lang/String;Ljava/lang/String;)Z", sig := { parameters := [(.object "java/lang/String"), (.object "java/lang/String")], returnType := some .boolean }, accessFlags := 10, code := some k1c2 }
def k1c3 : Code := { maxStack := 5, maxLocals := 16, code := code, exceptionTable := #[], attributes := #[] }
def k1m3 : Method := { name := "law", desc := "(IIIIII)Z", sig := { parameters := [.int, .int, .int, .int, .int, .int], returnType := some .boolean }, accessFlags := 9, code := some k1c3 }
/-- com/example/tags_to_grants/tagstogrants/policy/CellEqualsPinLaw -/
def k1 : Class := { plain "com/example/tags_to_grants/tagstogrants/policy/CellEqualsPinLaw" (some 0) with
  accessFlags := 49
  interfaces := #[]
  cf := some (fileOf pool1 17 #[] #[{ accessFlags := 2, nameIndex := 5, descriptorIndex := 6, attributes := #[] }, { accessFlags := 10, nameIndex := 20, descriptorIndex := 21, attributes := #[] }, { accessFlags := 10, nameIndex := 30, descriptorIndex := 31, attributes := #[] }, { accessFlags := 9, nameIndex := 35, descriptorIndex := 36, attributes := #[] }] 49 2 #[] #[])
  fields := #[]
  methods := #[k1m0, k1m1, k1m2, k1m3]
  instanceTypes := #[]
  staticTypes := #[]
  resolved := Array.replicate 43 none
  statics := none }

def pool2 : Array CpInfo := pool [(1, .class_ 2), (0, u "java/io/Serializable"), (0, .class_ 4), (0, u "java/lang/Object")] 2

/-- java/io/Serializable -/
def k2 : Class := { plain "java/io/Serializable" (some 0) with
  accessFlags := 1537
  interfaces := #[]
  cf := some (fileOf pool2 1 #[] #[] 1537 3 #[] #[])
  fields := #[]
  methods := #[]
  instanceTypes := #[]
  staticTypes := #[]
  resolved := Array.replicate 7 none
  statics := none }

def pool3 : Array CpInfo := pool [(1, .class_ 2), (0, u "java/lang/Comparable"), (0, .class_ 4), (0, u "java/lang/Object")] 7

/-- java/lang/Comparable -/
def k3 : Class := { plain "java/lang/Comparable" (some 0) with
  accessFlags := 1537
  interfaces := #[]
  cf := some (fileOf pool3 1 #[] #[] 1537 3 #[] #[])
  fields := #[]
  methods := #[]
  instanceTypes := #[]
  staticTypes := #[]
  resolved := Array.replicate 12 none
  statics := none }

def pool4 : Array CpInfo := pool [(2, .class_ 4), (1, u "java/lang/CharSequence"), (42, .class_ 48), (0, u "java/lang/CharSequence$1CodePointIterator"), (10, .class_ 60), (0, u "java/lang/CharSequence$1CharIterator"), (5, .class_ 67), (0, u "java/lang/Object")] 63

/-- java/lang/CharSequence -/
def k4 : Class := { plain "java/lang/CharSequence" (some 0) with
  accessFlags := 1537
  interfaces := #[]
  cf := some (fileOf pool4 2 #[.nestMembers #[47, 59]] #[] 1537 66 #[] #[])
  fields := #[]
  methods := #[]
  instanceTypes := #[]
  staticTypes := #[]
  resolved := Array.replicate 131 none
  statics := none }

def pool5 : Array CpInfo := pool [(1, .class_ 2), (0, u "java/lang/constant/Constable"), (0, .class_ 4), (0, u "java/lang/Object")] 6

/-- java/lang/constant/Constable -/
def k5 : Class := { plain "java/lang/constant/Constable" (some 0) with
  accessFlags := 1537
  interfaces := #[]
  cf := some (fileOf pool5 1 #[] #[] 1537 3 #[] #[])
  fields := #[]
  methods := #[]
  instanceTypes := #[]
  staticTypes := #[]
  resolved := Array.replicate 11 none
  statics := none }

def pool6 : Array CpInfo := pool [(1, .class_ 2), (0, u "java/lang/constant/ConstantDesc"), (0, .class_ 4), (0, u "java/lang/Object")] 32

/-- java/lang/constant/ConstantDesc -/
def k6 : Class := { plain "java/lang/constant/ConstantDesc" (some 0) with
  accessFlags := 1537
  interfaces := #[]
  cf := some (fileOf pool6 1 #[] #[] 1537 3 #[] #[])
  fields := #[]
  methods := #[]
  instanceTypes := #[]
  staticTypes := #[]
  resolved := Array.replicate 37 none
  statics := none }

def pool7 : Array CpInfo := pool [(1, .methodref 2 3), (0, .class_ 4), (0, .nameAndType 5 6), (0, u "java/lang/Object"), (0, u "<init>"), (0, u "()V"), (0, .string 8), (0, u ""), (0, .fieldref 10 11), (0, .class_ 12), (0, .nameAndType 13 14), (0, u "java/lang/String"), (0, u "value"), (0, u "[B"), (0, .fieldref 10 16), (0, .nameAndType 17 18), (0, u "coder"), (0, u "B"), (2, u "hash"), (0, u "I"), (2, u "hashIsZero"), (0, u "Z"), (0, .methodref 10 28), (0, .nameAndType 5 29), (0, u "([CIILjava/lang/Void;)V"), (8, .fieldref 10 39), (0, .nameAndType 40 26), (0, u "COMPACT_STRINGS"), (1, .class_ 44), (1, u "java/lang/StringUTF16"), (0, u "compress"), (1, .methodref 42 48), (0, .nameAndType 49 50), (0, u "coderFromArrayLen"), (0, u "([BI)B"), (56, .class_ 109), (1, u "java/lang/StringLatin1"), (67, .methodref 42 178), (0, .nameAndType 45 179), (0, u "([CII)[B"), (361, .methodref 107 542), (0, .nameAndType 543 544), (0, u "equals"), (0, u "([B[B)Z"), (28, u "(Ljava/lang/Object;)Z"), (1, .class_ 576), (0, u "java/lang/CharSequence"), (22, u "CASE_INSENSITIVE_ORDER"), (0, u "Ljava/util/Comparator;"), (409, u "([C)V"), (90, u "serialPersistentFields"), (0, u "[Ljava/io/ObjectStreamField;"), (0, .class_ 1104), (0, u "java/lang/String$CaseInsensitiveComparator"), (1, .class_ 1107), (0, u "java/io/Serializable"), (0, .class_ 1109), (0, u "java/lang/Comparable"), (0, .class_ 1111), (0, u "java/lang/constant/Constable"), (0, .class_ 1113), (0, u "java/lang/constant/ConstantDesc"), (2, u "serialVersionUID"), (0, u "J"), (3, u "REPL"), (0, u "C"), (2, u "LATIN1"), (1, u "UTF16")] 323

def k7m0 : Method := { name := "<init>", desc := "()V", sig := { parameters := [], returnType := none }, accessFlags := 1, code := none }
def k7c1 : Code := { maxStack := 5, maxLocals := 2, code := jdk_42_method_3_code, exceptionTable := #[], attributes := #[] }
def k7m1 : Method := { name := "<init>", desc := "([C)V", sig := { parameters := [(.array .char)], returnType := none }, accessFlags := 1, code := some k7c1 }
def k7c2 : Code := { maxStack := 2, maxLocals := 3, code := jdk_42_method_66_code, exceptionTable := #[], attributes := #[] }
def k7m2 : Method := { name := "equals", desc := "(Ljava/lang/Object;)Z", sig := { parameters := [(.object "java/lang/Object")], returnType := some .boolean }, accessFlags := 1, code := some k7c2 }
def k7c3 : Code := { maxStack := 4, maxLocals := 6, code := jdk_42_method_149_code, exceptionTable := #[], attributes := #[] }
def k7m3 : Method := { name := "<init>", desc := "([CIILjava/lang/Void;)V", sig := { parameters := [(.array .char), .int, .int, (.object "java/lang/Void")], returnType := none }, accessFlags := 2, code := some k7c3 }
/-- java/lang/String -/
def k7 : Class := { plain "java/lang/String" (some 0) with
  accessFlags := 49
  interfaces := #[2, 3, 4, 5, 6]
  cf := some (fileOf pool7 10 #[.nestMembers #[1103]] #[{ accessFlags := 1, nameIndex := 5, descriptorIndex := 6, attributes := #[] }, { accessFlags := 1, nameIndex := 5, descriptorIndex := 1010, attributes := #[] }, { accessFlags := 1, nameIndex := 543, descriptorIndex := 573, attributes := #[] }, { accessFlags := 2, nameIndex := 5, descriptorIndex := 29, attributes := #[] }] 49 2 #[1106, 1108, 575, 1110, 1112] #[{ accessFlags := 18, nameIndex := 13, descriptorIndex := 14, attributes := #[] }, { accessFlags := 18, nameIndex := 17, descriptorIndex := 18, attributes := #[] }, { accessFlags := 2, nameIndex := 21, descriptorIndex := 22, attributes := #[] }, { accessFlags := 2, nameIndex := 25, descriptorIndex := 26, attributes := #[] }, { accessFlags := 26, nameIndex := 1116, descriptorIndex := 1117, attributes := #[] }, { accessFlags := 24, nameIndex := 40, descriptorIndex := 26, attributes := #[] }, { accessFlags := 26, nameIndex := 1101, descriptorIndex := 1102, attributes := #[] }, { accessFlags := 26, nameIndex := 1121, descriptorIndex := 1122, attributes := #[] }, { accessFlags := 25, nameIndex := 599, descriptorIndex := 600, attributes := #[] }, { accessFlags := 24, nameIndex := 1125, descriptorIndex := 18, attributes := #[] }, { accessFlags := 24, nameIndex := 1127, descriptorIndex := 18, attributes := #[] }])
  fields := #[{ name := "value", type := (.array .byte), accessFlags := 18, slot := 0, constantValue := 0 }, { name := "coder", type := .byte, accessFlags := 18, slot := 1, constantValue := 0 }, { name := "hash", type := .int, accessFlags := 2, slot := 2, constantValue := 0 }, { name := "hashIsZero", type := .boolean, accessFlags := 2, slot := 3, constantValue := 0 }, { name := "serialVersionUID", type := .long, accessFlags := 26, slot := 0, constantValue := 0 }, { name := "COMPACT_STRINGS", type := .boolean, accessFlags := 24, slot := 1, constantValue := 0 }, { name := "serialPersistentFields", type := (.array (.object "java/io/ObjectStreamField")), accessFlags := 26, slot := 2, constantValue := 0 }, { name := "REPL", type := .char, accessFlags := 26, slot := 3, constantValue := 0 }, { name := "CASE_INSENSITIVE_ORDER", type := (.object "java/util/Comparator"), accessFlags := 25, slot := 4, constantValue := 0 }, { name := "LATIN1", type := .byte, accessFlags := 24, slot := 5, constantValue := 0 }, { name := "UTF16", type := .byte, accessFlags := 24, slot := 6, constantValue := 0 }]
  methods := #[k7m0, k7m1, k7m2, k7m3]
  instanceTypes := #[(.array .byte), .byte, .int, .boolean]
  staticTypes := #[.long, .boolean, (.array (.object "java/io/ObjectStreamField")), .char, (.object "java/util/Comparator"), .byte, .byte]
  resolved := Array.replicate 1451 none
  statics := some 0 }

def pool8 : Array CpInfo := pool [(6, .class_ 8), (1, u "java/lang/Object"), (0, u "<init>"), (0, u "()V"), (1, .class_ 14), (1, u "java/lang/StringUTF16"), (31, u "$assertionsDisabled"), (0, u "Z"), (13, u "HI_BYTE_SHIFT"), (0, u "I"), (2, u "LO_BYTE_SHIFT"), (49, .methodref 12 116), (0, .nameAndType 117 118), (0, u "compress"), (0, u "([CI[BII)I"), (3, u "([CII)[B"), (138, u "coderFromArrayLen"), (0, u "([BI)B"), (106, .class_ 371), (1, u "java/lang/StringUTF16$LinesSpliterator"), (58, u "MAX_LENGTH"), (196, .class_ 628), (0, u "java/lang/StringUTF16$CodePointsSpliterator"), (0, .class_ 630), (0, u "java/lang/StringUTF16$CharsSpliterator")] 4

def k8m0 : Method := { name := "<init>", desc := "()V", sig := { parameters := [], returnType := none }, accessFlags := 0, code := none }
def k8c1 : Code := { maxStack := 2, maxLocals := 2, code := jdk_52_method_15_code, exceptionTable := #[], attributes := #[] }
def k8m1 : Method := { name := "coderFromArrayLen", desc := "([BI)B", sig := { parameters := [(.array .byte), .int], returnType := some .byte }, accessFlags := 8, code := some k8c1 }
def k8c2 : Code := { maxStack := 5, maxLocals := 6, code := jdk_52_method_16_code, exceptionTable := #[], attributes := #[] }
def k8m2 : Method := { name := "compress", desc := "([CII)[B", sig := { parameters := [(.array .char), .int, .int], returnType := some (.array .byte) }, accessFlags := 9, code := some k8c2 }
def k8c3 : Code := { maxStack := 3, maxLocals := 7, code := jdk_52_method_21_code, exceptionTable := #[], attributes := #[] }
def k8m3 : Method := { name := "compress", desc := "([CI[BII)I", sig := { parameters := [(.array .char), .int, (.array .byte), .int, .int], returnType := some .int }, accessFlags := 9, code := some k8c3 }
/-- java/lang/StringUTF16 -/
def k8 : Class := { plain "java/lang/StringUTF16" (some 0) with
  accessFlags := 48
  interfaces := #[]
  cf := some (fileOf pool8 12 #[.nestMembers #[627, 629, 369]] #[{ accessFlags := 0, nameIndex := 9, descriptorIndex := 10, attributes := #[] }, { accessFlags := 8, nameIndex := 261, descriptorIndex := 262, attributes := #[] }, { accessFlags := 9, nameIndex := 117, descriptorIndex := 122, attributes := #[] }, { accessFlags := 9, nameIndex := 117, descriptorIndex := 118, attributes := #[] }] 48 6 #[] #[{ accessFlags := 26, nameIndex := 61, descriptorIndex := 62, attributes := #[] }, { accessFlags := 26, nameIndex := 65, descriptorIndex := 62, attributes := #[] }, { accessFlags := 24, nameIndex := 430, descriptorIndex := 62, attributes := #[] }, { accessFlags := 4120, nameIndex := 46, descriptorIndex := 47, attributes := #[] }])
  fields := #[{ name := "HI_BYTE_SHIFT", type := .int, accessFlags := 26, slot := 0, constantValue := 0 }, { name := "LO_BYTE_SHIFT", type := .int, accessFlags := 26, slot := 1, constantValue := 0 }, { name := "MAX_LENGTH", type := .int, accessFlags := 24, slot := 2, constantValue := 0 }, { name := "$assertionsDisabled", type := .boolean, accessFlags := 4120, slot := 3, constantValue := 0 }]
  methods := #[k8m0, k8m1, k8m2, k8m3]
  instanceTypes := #[]
  staticTypes := #[.int, .int, .int, .boolean]
  resolved := Array.replicate 635 none
  statics := none }

def pool9 : Array CpInfo := pool [(1, .methodref 2 3), (0, .class_ 4), (0, .nameAndType 5 6), (0, u "java/lang/Object"), (0, u "<init>"), (0, u "()V"), (0, .class_ 8), (0, u "java/lang/Record")] 13

def k9c0 : Code := { maxStack := 1, maxLocals := 1, code := jdk_30_method_1_code, exceptionTable := #[], attributes := #[] }
def k9m0 : Method := { name := "<init>", desc := "()V", sig := { parameters := [], returnType := none }, accessFlags := 4, code := some k9c0 }
/-- java/lang/Record -/
def k9 : Class := { plain "java/lang/Record" (some 0) with
  accessFlags := 1057
  interfaces := #[]
  cf := some (fileOf pool9 7 #[] #[{ accessFlags := 4, nameIndex := 5, descriptorIndex := 6, attributes := #[] }] 1057 2 #[] #[])
  fields := #[]
  methods := #[k9m0]
  instanceTypes := #[]
  staticTypes := #[]
  resolved := Array.replicate 22 none
  statics := none }

def pool10 : Array CpInfo := pool [(1, .methodref 2 3), (0, .class_ 4), (0, .nameAndType 5 6), (0, u "java/lang/Record"), (0, u "<init>"), (0, u "()V"), (0, .fieldref 8 9), (0, .class_ 10), (0, .nameAndType 11 12), (0, u "com/example/tags_to_grants/tagstogrants/policy/Policy$Cell"), (0, u "subject"), (0, u "Ljava/lang/String;"), (0, .fieldref 8 14), (0, .nameAndType 15 12), (0, u "operation"), (0, .fieldref 8 17), (0, .nameAndType 18 12), (0, u "object"), (1, .class_ 22), (1, u "java/util/Objects"), (2, .methodref 20 26), (0, .nameAndType 27 28), (0, u "equals"), (0, u "(Ljava/lang/Object;Ljava/lang/Object;)Z"), (4, u "(Ljava/lang/String;Ljava/lang/String;Ljava/lang/String;)V"), (4, u "(Ljava/lang/Object;)Z"), (5, .class_ 45), (0, u "com/example/tags_to_grants/tagstogrants/policy/Policy")] 21

def k10c0 : Code := { maxStack := 2, maxLocals := 4, code := prog_64_method_1_code, exceptionTable := #[], attributes := #[] }
def k10m0 : Method := { name := "<init>", desc := "(Ljava/lang/String;Ljava/lang/String;Ljava/lang/String;)V", sig := { parameters := [(.object "java/lang/String"), (.object "java/lang/String"), (.object "java/lang/String")], returnType := none }, accessFlags := 1, code := some k10c0 }
def k10c1 : Code := { maxStack := 2, maxLocals := 3, code := prog_64_method_3_code, exceptionTable := #[], attributes := #[] }
def k10m1 : Method := { name := "equals", desc := "(Ljava/lang/Object;)Z", sig := { parameters := [(.object "java/lang/Object")], returnType := some .boolean }, accessFlags := 1, code := some k10c1 }
/-- com/example/tags_to_grants/tagstogrants/policy/Policy$Cell -/
def k10 : Class := { plain "com/example/tags_to_grants/tagstogrants/policy/Policy$Cell" (some 9) with
  accessFlags := 49
  interfaces := #[]
  cf := some (fileOf pool10 8 #[.nestHost 44] #[{ accessFlags := 1, nameIndex := 5, descriptorIndex := 33, attributes := #[] }, { accessFlags := 1, nameIndex := 27, descriptorIndex := 38, attributes := #[] }] 49 2 #[] #[{ accessFlags := 18, nameIndex := 11, descriptorIndex := 12, attributes := #[] }, { accessFlags := 18, nameIndex := 15, descriptorIndex := 12, attributes := #[] }, { accessFlags := 18, nameIndex := 18, descriptorIndex := 12, attributes := #[] }])
  fields := #[{ name := "subject", type := (.object "java/lang/String"), accessFlags := 18, slot := 0, constantValue := 0 }, { name := "operation", type := (.object "java/lang/String"), accessFlags := 18, slot := 1, constantValue := 0 }, { name := "object", type := (.object "java/lang/String"), accessFlags := 18, slot := 2, constantValue := 0 }]
  methods := #[k10m0, k10m1]
  instanceTypes := #[(.object "java/lang/String"), (.object "java/lang/String"), (.object "java/lang/String")]
  staticTypes := #[]
  resolved := Array.replicate 67 none
  statics := none }

def pool11 : Array CpInfo := pool [(2, .class_ 4), (1, u "java/lang/Object"), (0, u "<init>"), (0, u "()V"), (7, .methodref 2 15), (0, .nameAndType 16 17), (0, u "equals"), (0, u "(Ljava/lang/Object;)Z"), (5, u "(Ljava/lang/Object;Ljava/lang/Object;)Z"), (18, .class_ 44), (1, u "java/util/Objects")] 139

def k11m0 : Method := { name := "<init>", desc := "()V", sig := { parameters := [], returnType := none }, accessFlags := 2, code := none }
def k11c1 : Code := { maxStack := 2, maxLocals := 2, code := jdk_31_method_2_code, exceptionTable := #[], attributes := #[] }
def k11m1 : Method := { name := "equals", desc := "(Ljava/lang/Object;Ljava/lang/Object;)Z", sig := { parameters := [(.object "java/lang/Object"), (.object "java/lang/Object")], returnType := some .boolean }, accessFlags := 9, code := some k11c1 }
/-- java/util/Objects -/
def k11 : Class := { plain "java/util/Objects" (some 0) with
  accessFlags := 49
  interfaces := #[]
  cf := some (fileOf pool11 42 #[] #[{ accessFlags := 2, nameIndex := 5, descriptorIndex := 6, attributes := #[] }, { accessFlags := 9, nameIndex := 16, descriptorIndex := 23, attributes := #[] }] 49 2 #[] #[])
  fields := #[]
  methods := #[k11m0, k11m1]
  instanceTypes := #[]
  staticTypes := #[]
  resolved := Array.replicate 184 none
  statics := none }

def pool12 : Array CpInfo := pool [(4, .class_ 6), (1, u "java/lang/Object"), (0, u "<init>"), (0, u "()V"), (5, .class_ 16), (1, u "java/lang/StringLatin1"), (104, u "$assertionsDisabled"), (0, u "Z"), (98, .class_ 223), (1, u "java/lang/StringLatin1$LinesSpliterator"), (57, u "equals"), (0, u "([B[B)Z"), (107, .class_ 391), (0, u "java/lang/StringLatin1$CharsSpliterator")] 3

def k12m0 : Method := { name := "<init>", desc := "()V", sig := { parameters := [], returnType := none }, accessFlags := 0, code := none }
def k12c1 : Code := { maxStack := 3, maxLocals := 3, code := jdk_43_method_13_code, exceptionTable := #[], attributes := #[] }
def k12m1 : Method := { name := "equals", desc := "([B[B)Z", sig := { parameters := [(.array .byte), (.array .byte)], returnType := some .boolean }, accessFlags := 9, code := some k12c1 }
/-- java/lang/StringLatin1 -/
def k12 : Class := { plain "java/lang/StringLatin1" (some 0) with
  accessFlags := 48
  interfaces := #[]
  cf := some (fileOf pool12 14 #[.nestMembers #[390, 221]] #[{ accessFlags := 0, nameIndex := 7, descriptorIndex := 8, attributes := #[] }, { accessFlags := 9, nameIndex := 281, descriptorIndex := 282, attributes := #[] }] 48 4 #[] #[{ accessFlags := 4120, nameIndex := 121, descriptorIndex := 122, attributes := #[] }])
  fields := #[{ name := "$assertionsDisabled", type := .boolean, accessFlags := 4120, slot := 0, constantValue := 0 }]
  methods := #[k12m0, k12m1]
  instanceTypes := #[]
  staticTypes := #[.boolean]
  resolved := Array.replicate 395 none
  statics := none }

def pool13 : Array CpInfo := pool [(2, .class_ 4), (1, u "java/lang/Object"), (0, u "<init>"), (0, u "()V"), (17, .class_ 26), (1, u "jdk/internal/util/Preconditions"), (28, .class_ 56), (0, u "jdk/internal/util/Preconditions$4"), (57, .class_ 115), (0, u "jdk/internal/util/Preconditions$1"), (7, u "SIOOBE_FORMATTER"), (0, u "Ljava/util/function/BiFunction;"), (0, .class_ 126), (0, u "jdk/internal/util/Preconditions$2"), (3, u "AIOOBE_FORMATTER"), (0, .class_ 132), (0, u "jdk/internal/util/Preconditions$3"), (3, u "IOOBE_FORMATTER")] 57

def k13m0 : Method := { name := "<init>", desc := "()V", sig := { parameters := [], returnType := none }, accessFlags := 1, code := none }
/-- jdk/internal/util/Preconditions -/
def k13 : Class := { plain "jdk/internal/util/Preconditions" (some 0) with
  accessFlags := 33
  interfaces := #[]
  cf := some (fileOf pool13 24 #[.nestMembers #[55, 131, 125, 114]] #[{ accessFlags := 1, nameIndex := 5, descriptorIndex := 6, attributes := #[] }] 33 2 #[] #[{ accessFlags := 25, nameIndex := 123, descriptorIndex := 124, attributes := #[] }, { accessFlags := 25, nameIndex := 130, descriptorIndex := 124, attributes := #[] }, { accessFlags := 25, nameIndex := 136, descriptorIndex := 124, attributes := #[] }])
  fields := #[{ name := "SIOOBE_FORMATTER", type := (.object "java/util/function/BiFunction"), accessFlags := 25, slot := 0, constantValue := 0 }, { name := "AIOOBE_FORMATTER", type := (.object "java/util/function/BiFunction"), accessFlags := 25, slot := 1, constantValue := 0 }, { name := "IOOBE_FORMATTER", type := (.object "java/util/function/BiFunction"), accessFlags := 25, slot := 2, constantValue := 0 }]
  methods := #[k13m0]
  instanceTypes := #[]
  staticTypes := #[(.object "java/util/function/BiFunction"), (.object "java/util/function/BiFunction"), (.object "java/util/function/BiFunction")]
  resolved := Array.replicate 194 none
  statics := some 1 }

def pool14 : Array CpInfo := pool [(9, u "<init>"), (6, .class_ 18), (1, u "java/lang/Object"), (0, u "()V"), (1, .class_ 23), (1, u "jdk/internal/util/ArraysSupport"), (0, u "LOG2_ARRAY_LONG_INDEX_SCALE"), (0, u "I"), (2, u "U"), (0, u "Ljdk/internal/misc/Unsafe;"), (8, u "BIG_ENDIAN"), (0, u "Z"), (8, u "LOG2_BYTE_BIT_SIZE"), (4, u "LOG2_ARRAY_INT_INDEX_SCALE"), (54, u "JLA"), (0, u "Ljdk/internal/access/JavaLangAccess;"), (11, u "LOG2_ARRAY_BOOLEAN_INDEX_SCALE"), (9, u "LOG2_ARRAY_BYTE_INDEX_SCALE"), (5, u "LOG2_ARRAY_CHAR_INDEX_SCALE"), (5, u "LOG2_ARRAY_SHORT_INDEX_SCALE"), (18, u "LOG2_ARRAY_FLOAT_INDEX_SCALE"), (24, u "LOG2_ARRAY_DOUBLE_INDEX_SCALE"), (89, u "T_BOOLEAN"), (2, u "T_CHAR"), (1, u "T_FLOAT"), (1, u "T_DOUBLE"), (1, u "T_BYTE"), (1, u "T_SHORT"), (1, u "T_INT"), (1, u "T_LONG"), (1, u "SOFT_MAX_ARRAY_LENGTH")] 83

def k14m0 : Method := { name := "<init>", desc := "()V", sig := { parameters := [], returnType := none }, accessFlags := 2, code := none }
/-- jdk/internal/util/ArraysSupport -/
def k14 : Class := { plain "jdk/internal/util/ArraysSupport" (some 0) with
  accessFlags := 33
  interfaces := #[]
  cf := some (fileOf pool14 21 #[] #[{ accessFlags := 2, nameIndex := 9, descriptorIndex := 19, attributes := #[] }] 33 16 #[] #[{ accessFlags := 24, nameIndex := 28, descriptorIndex := 29, attributes := #[] }, { accessFlags := 26, nameIndex := 38, descriptorIndex := 39, attributes := #[] }, { accessFlags := 25, nameIndex := 121, descriptorIndex := 25, attributes := #[] }, { accessFlags := 25, nameIndex := 131, descriptorIndex := 25, attributes := #[] }, { accessFlags := 25, nameIndex := 137, descriptorIndex := 25, attributes := #[] }, { accessFlags := 25, nameIndex := 143, descriptorIndex := 25, attributes := #[] }, { accessFlags := 25, nameIndex := 53, descriptorIndex := 25, attributes := #[] }, { accessFlags := 25, nameIndex := 24, descriptorIndex := 25, attributes := #[] }, { accessFlags := 25, nameIndex := 162, descriptorIndex := 25, attributes := #[] }, { accessFlags := 25, nameIndex := 187, descriptorIndex := 25, attributes := #[] }, { accessFlags := 26, nameIndex := 48, descriptorIndex := 25, attributes := #[] }, { accessFlags := 25, nameIndex := 277, descriptorIndex := 25, attributes := #[] }, { accessFlags := 25, nameIndex := 280, descriptorIndex := 25, attributes := #[] }, { accessFlags := 25, nameIndex := 282, descriptorIndex := 25, attributes := #[] }, { accessFlags := 25, nameIndex := 284, descriptorIndex := 25, attributes := #[] }, { accessFlags := 25, nameIndex := 286, descriptorIndex := 25, attributes := #[] }, { accessFlags := 25, nameIndex := 288, descriptorIndex := 25, attributes := #[] }, { accessFlags := 25, nameIndex := 290, descriptorIndex := 25, attributes := #[] }, { accessFlags := 25, nameIndex := 292, descriptorIndex := 25, attributes := #[] }, { accessFlags := 26, nameIndex := 108, descriptorIndex := 109, attributes := #[] }, { accessFlags := 25, nameIndex := 294, descriptorIndex := 25, attributes := #[] }])
  fields := #[{ name := "U", type := (.object "jdk/internal/misc/Unsafe"), accessFlags := 24, slot := 0, constantValue := 0 }, { name := "BIG_ENDIAN", type := .boolean, accessFlags := 26, slot := 1, constantValue := 0 }, { name := "LOG2_ARRAY_BOOLEAN_INDEX_SCALE", type := .int, accessFlags := 25, slot := 2, constantValue := 0 }, { name := "LOG2_ARRAY_BYTE_INDEX_SCALE", type := .int, accessFlags := 25, slot := 3, constantValue := 0 }, { name := "LOG2_ARRAY_CHAR_INDEX_SCALE", type := .int, accessFlags := 25, slot := 4, constantValue := 0 }, { name := "LOG2_ARRAY_SHORT_INDEX_SCALE", type := .int, accessFlags := 25, slot := 5, constantValue := 0 }, { name := "LOG2_ARRAY_INT_INDEX_SCALE", type := .int, accessFlags := 25, slot := 6, constantValue := 0 }, { name := "LOG2_ARRAY_LONG_INDEX_SCALE", type := .int, accessFlags := 25, slot := 7, constantValue := 0 }, { name := "LOG2_ARRAY_FLOAT_INDEX_SCALE", type := .int, accessFlags := 25, slot := 8, constantValue := 0 }, { name := "LOG2_ARRAY_DOUBLE_INDEX_SCALE", type := .int, accessFlags := 25, slot := 9, constantValue := 0 }, { name := "LOG2_BYTE_BIT_SIZE", type := .int, accessFlags := 26, slot := 10, constantValue := 0 }, { name := "T_BOOLEAN", type := .int, accessFlags := 25, slot := 11, constantValue := 0 }, { name := "T_CHAR", type := .int, accessFlags := 25, slot := 12, constantValue := 0 }, { name := "T_FLOAT", type := .int, accessFlags := 25, slot := 13, constantValue := 0 }, { name := "T_DOUBLE", type := .int, accessFlags := 25, slot := 14, constantValue := 0 }, { name := "T_BYTE", type := .int, accessFlags := 25, slot := 15, constantValue := 0 }, { name := "T_SHORT", type := .int, accessFlags := 25, slot := 16, constantValue := 0 }, { name := "T_INT", type := .int, accessFlags := 25, slot := 17, constantValue := 0 }, { name := "T_LONG", type := .int, accessFlags := 25, slot := 18, constantValue := 0 }, { name := "JLA", type := (.object "jdk/internal/access/JavaLangAccess"), accessFlags := 26, slot := 19, constantValue := 0 }, { name := "SOFT_MAX_ARRAY_LENGTH", type := .int, accessFlags := 25, slot := 20, constantValue := 0 }]
  methods := #[k14m0]
  instanceTypes := #[]
  staticTypes := #[(.object "jdk/internal/misc/Unsafe"), .boolean, .int, .int, .int, .int, .int, .int, .int, .int, .int, .int, .int, .int, .int, .int, .int, .int, .int, (.object "jdk/internal/access/JavaLangAccess"), .int]
  resolved := Array.replicate 378 none
  statics := none }

def pool15 : Array CpInfo := pool [(1, u "java/lang/Cloneable"), (0, .class_ 1), (0, u "java/lang/Object"), (0, .class_ 3)] 3

/-- java/lang/Cloneable -/
def k15 : Class := { plain "java/lang/Cloneable" (some 0) with
  accessFlags := 1537
  interfaces := #[]
  cf := some (fileOf pool15 2 #[] #[] 1537 4 #[] #[])
  fields := #[]
  methods := #[]
  instanceTypes := #[]
  staticTypes := #[]
  resolved := Array.replicate 8 none
  statics := none }

/-- the primitive byte -/
def k16 : Class := { plain "byte" none with kind := .primitive 'B', accessFlags := 0x411 }
/-- [B -/
def k17 : Class := { plain "[B" (some 0) with kind := .array 16 .byte, interfaces := #[15, 2], accessFlags := 1041 }

/-- the primitive char -/
def k18 : Class := { plain "char" none with kind := .primitive 'C', accessFlags := 0x411 }
/-- [C -/
def k19 : Class := { plain "[C" (some 0) with kind := .array 18 .char, interfaces := #[15, 2], accessFlags := 1041 }

/-- the primitive int -/
def k20 : Class := { plain "int" none with kind := .primitive 'I', accessFlags := 0x411 }
/-- [I -/
def k21 : Class := { plain "[I" (some 0) with kind := .array 20 .int, interfaces := #[15, 2], accessFlags := 1041 }

def heap : Heap := #[{ cls := 7, slots := #[.long 0, .int 1, .null, .int 0, .null, .int 0, .int 0], vm := .statics 7 },
  { cls := 13, slots := #[.null, .null, .null], vm := .statics 13 }]
def classes : Array Class := #[k0, k1, k2, k3, k4, k5, k6, k7, k8, k9, k10, k11, k12, k13, k14, k15, k16, k17, k18, k19, k20, k21]
def interned : List (Array UInt16 × Addr) := []
def slotsUsed : Nat := 10
def theMethod : MethodId := ⟨1, 3⟩
def args0 : Array Value := #[.int 5, .int 6, .int 7, .int 9, .int 10, .int 14]
def aboutOver (below : List Frame) : State where
  vm := { classes := classes, interned := interned.toArray }
  heap := heap
  slotsUsed := slotsUsed
  threads := #[{ frames := .invoking theMethod args0 :: below }]
def below0 : List Frame := [.native { method := ⟨0, 0⟩, args := #[] }]
def about1 : State := aboutOver below0
def p0 : Program := .bare "" "" ""
def e0 : Env := launch0.env 0 0 0
theorem w_frames : about1.frames = Frame.invoking theMethod args0 :: below0 := rfl
set_option maxRecDepth 65536 in
theorem w_args : argsFit about1.vm theMethod args0 = true := by decide +kernel
set_option maxRecDepth 65536 in
theorem w_heap : heapFits about1 = true := by decide +kernel
set_option maxRecDepth 65536 in
theorem w_runnable : about1.curStatus? = some .runnable := by decide +kernel
set_option maxRecDepth 65536 in
theorem w_alone : about1.alone = true := by decide +kernel
set_option maxRecDepth 65536 in
theorem w_named : about1.methodNamed? x = some theMethod := by decide +kernel
set_option maxRecDepth 65536 in
theorem w_hears : about1.hears theMethod below0 = true := by decide +kernel
set_option maxRecDepth 65536 in
theorem w_ripe : about1.ripe theMethod args0 below0 = true := by decide +kernel
theorem w_running : about1.status = .running := rfl
set_option maxRecDepth 65536 in
theorem w_room : about1.hasRoom e0.platform room_1 = true :=
  launch0.hasRoom_least _ room_1 (by decide +kernel) (by decide +kernel) (by decide +kernel) (by decide +kernel) (by decide +kernel) (by decide +kernel)
theorem allAtoms_all (ts : List Jvm.Cond) (a : Array Jvm.Value) (st : Jvm.State) : (allAtoms ts).before a st = ts.all (fun c => c.before a st) := by
  induction ts with
  | nil => rfl
  | cons c t ih =>
    show (Jvm.Cond.and c (allAtoms t)).before a st = _
    rw [Jvm.Cond.before_and, ih, List.all_cons]
def words1 : List Jvm.Cond := Jvm.Cond.code x code maxLocals ret :: tables_1
/-- a 'code' word, met by the world's own term for the bytes: nothing is compared byte by byte -/
theorem code_word {y : MethodName} {bytes : ByteArray} {mx : Nat} {rt : Option FieldType} {a : Array Value} {s : State} {m : MethodId} {meth : Method} {c : Code} (h1 : s.methodNamed? y = some m) (h2 : s.vm.method? m = some meth) (h3 : meth.code = some c) (h4 : c.code = bytes)
    (h5 : (c.maxLocals == mx && c.exceptionTable.isEmpty && decide (c.maxStack ≤ mostOperands) && decide (meth.sig.returnType = rt) && !meth.locks && decide (parseMethodDescriptor y.desc = some meth.sig)) = true) : (Jvm.Cond.code y bytes mx rt).before a s = true := by
  simp only [Bool.and_eq_true, beq_iff_eq, Bool.not_eq_true', decide_eq_true_eq] at h5
  obtain ⟨⟨⟨⟨⟨g1, g2⟩, g3⟩, g4⟩, g5⟩, g6⟩ := h5
  simp [Cond.before, Cond.holds, Cond.value, h1, h2, h3, h4, g1, g2, g3, g4, g5, g6]
def isCode : Jvm.Cond → Bool
  | .code _ _ _ _ => true
  | _ => false
theorem all_split {L : List Jvm.Cond} {P : Jvm.Cond → Bool} (h1 : L.all (fun c => isCode c || P c) = true) (h2 : ∀ c ∈ L.filter isCode, P c = true) : L.all P = true := by
  refine List.all_eq_true.mpr fun c hc => ?_
  have h := List.all_eq_true.mp h1 c hc
  rcases Bool.eq_false_or_eq_true (isCode c) with hi | hi
  · exact h2 c (List.mem_filter.mpr ⟨hc, hi⟩)
  · simpa [hi] using h
set_option maxRecDepth 65536 in
theorem w_c0 : (Jvm.Cond.code x code maxLocals ret).before args0 about1 = true := code_word (m := ⟨1, 3⟩) (meth := k1m3) (c := k1c3) (by decide +kernel) rfl rfl rfl (by decide +kernel)
set_option maxRecDepth 65536 in
theorem w_c1 : (Jvm.Cond.code ({ cls := "com/example/tags_to_grants/tagstogrants/policy/CellEqualsPinLaw", name := "s", desc := "(I)Ljava/lang/String;" } : Jvm.MethodName) method_2_code (4 : Nat) (Option.some (Jvm.ClassFile.FieldType.object "java/lang/String"))).before args0 about1 = true := code_word (m := ⟨1, 1⟩) (meth := k1m1) (c := k1c1) (by decide +kernel) rfl rfl rfl (by decide +kernel)
set_option maxRecDepth 65536 in
theorem w_c2 : (Jvm.Cond.code ({ cls := "java/lang/String", name := "<init>", desc := "([C)V" } : Jvm.MethodName) jdk_42_method_3_code (2 : Nat) (Option.none : Option Jvm.ClassFile.FieldType)).before args0 about1 = true := code_word (m := ⟨7, 1⟩) (meth := k7m1) (c := k7c1) (by decide +kernel) rfl rfl rfl (by decide +kernel)
set_option maxRecDepth 65536 in
theorem w_c3 : (Jvm.Cond.code ({ cls := "java/lang/String", name := "<init>", desc := "([CIILjava/lang/Void;)V" } : Jvm.MethodName) jdk_42_method_149_code (6 : Nat) (Option.none : Option Jvm.ClassFile.FieldType)).before args0 about1 = true := code_word (m := ⟨7, 3⟩) (meth := k7m3) (c := k7c3) (by decide +kernel) rfl rfl rfl (by decide +kernel)
set_option maxRecDepth 65536 in
theorem w_c4 : (Jvm.Cond.code ({ cls := "java/lang/Object", name := "<init>", desc := "()V" } : Jvm.MethodName) object_method_1_code (1 : Nat) (Option.none : Option Jvm.ClassFile.FieldType)).before args0 about1 = true := code_word (m := ⟨0, 0⟩) (meth := k0m0) (c := k0c0) (by decide +kernel) rfl rfl rfl (by decide +kernel)
set_option maxRecDepth 65536 in
theorem w_c5 : (Jvm.Cond.code ({ cls := "java/lang/StringUTF16", name := "compress", desc := "([CII)[B" } : Jvm.MethodName) jdk_52_method_16_code (6 : Nat) (Option.some (Jvm.ClassFile.FieldType.array Jvm.ClassFile.FieldType.byte))).before args0 about1 = true := code_word (m := ⟨8, 2⟩) (meth := k8m2) (c := k8c2) (by decide +kernel) rfl rfl rfl (by decide +kernel)
set_option maxRecDepth 65536 in
theorem w_c6 : (Jvm.Cond.code ({ cls := "java/lang/StringUTF16", name := "compress", desc := "([CI[BII)I" } : Jvm.MethodName) jdk_52_method_21_code (7 : Nat) (Option.some Jvm.ClassFile.FieldType.int)).before args0 about1 = true := code_word (m := ⟨8, 3⟩) (meth := k8m3) (c := k8c3) (by decide +kernel) rfl rfl rfl (by decide +kernel)
set_option maxRecDepth 65536 in
theorem w_c7 : (Jvm.Cond.code ({ cls := "java/lang/StringUTF16", name := "coderFromArrayLen", desc := "([BI)B" } : Jvm.MethodName) jdk_52_method_15_code (2 : Nat) (Option.some Jvm.ClassFile.FieldType.byte)).before args0 about1 = true := code_word (m := ⟨8, 1⟩) (meth := k8m1) (c := k8c1) (by decide +kernel) rfl rfl rfl (by decide +kernel)
set_option maxRecDepth 65536 in
theorem w_c8 : (Jvm.Cond.code ({ cls := "com/example/tags_to_grants/tagstogrants/policy/Policy$Cell", name := "<init>", desc := "(Ljava/lang/String;Ljava/lang/String;Ljava/lang/String;)V" } : Jvm.MethodName) prog_64_method_1_code (4 : Nat) (Option.none : Option Jvm.ClassFile.FieldType)).before args0 about1 = true := code_word (m := ⟨10, 0⟩) (meth := k10m0) (c := k10c0) (by decide +kernel) rfl rfl rfl (by decide +kernel)
set_option maxRecDepth 65536 in
theorem w_c9 : (Jvm.Cond.code ({ cls := "java/lang/Record", name := "<init>", desc := "()V" } : Jvm.MethodName) jdk_30_method_1_code (1 : Nat) (Option.none : Option Jvm.ClassFile.FieldType)).before args0 about1 = true := code_word (m := ⟨9, 0⟩) (meth := k9m0) (c := k9c0) (by decide +kernel) rfl rfl rfl (by decide +kernel)
set_option maxRecDepth 65536 in
theorem w_c10 : (Jvm.Cond.code ({ cls := "com/example/tags_to_grants/tagstogrants/policy/CellEqualsPinLaw", name := "same", desc := "(Ljava/lang/String;Ljava/lang/String;)Z" } : Jvm.MethodName) method_3_code (2 : Nat) (Option.some Jvm.ClassFile.FieldType.boolean)).before args0 about1 = true := code_word (m := ⟨1, 2⟩) (meth := k1m2) (c := k1c2) (by decide +kernel) rfl rfl rfl (by decide +kernel)
set_option maxRecDepth 65536 in
theorem w_c11 : (Jvm.Cond.code ({ cls := "com/example/tags_to_grants/tagstogrants/policy/Policy$Cell", name := "equals", desc := "(Ljava/lang/Object;)Z" } : Jvm.MethodName) prog_64_method_3_code (3 : Nat) (Option.some Jvm.ClassFile.FieldType.boolean)).before args0 about1 = true := code_word (m := ⟨10, 1⟩) (meth := k10m1) (c := k10c1) (by decide +kernel) rfl rfl rfl (by decide +kernel)
set_option maxRecDepth 65536 in
theorem w_c12 : (Jvm.Cond.code ({ cls := "java/util/Objects", name := "equals", desc := "(Ljava/lang/Object;Ljava/lang/Object;)Z" } : Jvm.MethodName) jdk_31_method_2_code (2 : Nat) (Option.some Jvm.ClassFile.FieldType.boolean)).before args0 about1 = true := code_word (m := ⟨11, 1⟩) (meth := k11m1) (c := k11c1) (by decide +kernel) rfl rfl rfl (by decide +kernel)
set_option maxRecDepth 65536 in
theorem w_c13 : (Jvm.Cond.code ({ cls := "java/lang/String", name := "equals", desc := "(Ljava/lang/Object;)Z" } : Jvm.MethodName) jdk_42_method_66_code (3 : Nat) (Option.some Jvm.ClassFile.FieldType.boolean)).before args0 about1 = true := code_word (m := ⟨7, 2⟩) (meth := k7m2) (c := k7c2) (by decide +kernel) rfl rfl rfl (by decide +kernel)
set_option maxRecDepth 65536 in
theorem w_c14 : (Jvm.Cond.code ({ cls := "java/lang/StringLatin1", name := "equals", desc := "([B[B)Z" } : Jvm.MethodName) jdk_43_method_13_code (3 : Nat) (Option.some Jvm.ClassFile.FieldType.boolean)).before args0 about1 = true := code_word (m := ⟨12, 1⟩) (meth := k12m1) (c := k12c1) (by decide +kernel) rfl rfl rfl (by decide +kernel)
def codes1 : List Jvm.Cond := [Jvm.Cond.code x code maxLocals ret, Jvm.Cond.code ({ cls := "com/example/tags_to_grants/tagstogrants/policy/CellEqualsPinLaw", name := "s", desc := "(I)Ljava/lang/String;" } : Jvm.MethodName) method_2_code (4 : Nat) (Option.some (Jvm.ClassFile.FieldType.object "java/lang/String")), Jvm.Cond.code ({ cls := "java/lang/String", name := "<init>", desc := "([C)V" } : Jvm.MethodName) jdk_42_method_3_code (2 : Nat) (Option.none : Option Jvm.ClassFile.FieldType), Jvm.Cond.code ({ cls := "java/lang/String", name := "<init>", desc := "([CIILjava/lang/Void;)V" } : Jvm.MethodName) jdk_42_method_149_code (6 : Nat) (Option.none : Option Jvm.ClassFile.FieldType), Jvm.Cond.code ({ cls := "java/lang/Object", name := "<init>", desc := "()V" } : Jvm.MethodName) object_method_1_code (1 : Nat) (Option.none : Option Jvm.ClassFile.FieldType), Jvm.Cond.code ({ cls := "java/lang/StringUTF16", name := "compress", desc := "([CII)[B" } : Jvm.MethodName) jdk_52_method_16_code (6 : Nat) (Option.some (Jvm.ClassFile.FieldType.array Jvm.ClassFile.FieldType.byte)), Jvm.Cond.code ({ cls := "java/lang/StringUTF16", name := "compress", desc := "([CI[BII)I" } : Jvm.MethodName) jdk_52_method_21_code (7 : Nat) (Option.some Jvm.ClassFile.FieldType.int), Jvm.Cond.code ({ cls := "java/lang/StringUTF16", name := "coderFromArrayLen", desc := "([BI)B" } : Jvm.MethodName) jdk_52_method_15_code (2 : Nat) (Option.some Jvm.ClassFile.FieldType.byte), Jvm.Cond.code ({ cls := "com/example/tags_to_grants/tagstogrants/policy/Policy$Cell", name := "<init>", desc := "(Ljava/lang/String;Ljava/lang/String;Ljava/lang/String;)V" } : Jvm.MethodName) prog_64_method_1_code (4 : Nat) (Option.none : Option Jvm.ClassFile.FieldType), Jvm.Cond.code ({ cls := "java/lang/Record", name := "<init>", desc := "()V" } : Jvm.MethodName) jdk_30_method_1_code (1 : Nat) (Option.none : Option Jvm.ClassFile.FieldType), Jvm.Cond.code ({ cls := "com/example/tags_to_grants/tagstogrants/policy/CellEqualsPinLaw", name := "same", desc := "(Ljava/lang/String;Ljava/lang/String;)Z" } : Jvm.MethodName) method_3_code (2 : Nat) (Option.some Jvm.ClassFile.FieldType.boolean), Jvm.Cond.code ({ cls := "com/example/tags_to_grants/tagstogrants/policy/Policy$Cell", name := "equals", desc := "(Ljava/lang/Object;)Z" } : Jvm.MethodName) prog_64_method_3_code (3 : Nat) (Option.some Jvm.ClassFile.FieldType.boolean), Jvm.Cond.code ({ cls := "java/util/Objects", name := "equals", desc := "(Ljava/lang/Object;Ljava/lang/Object;)Z" } : Jvm.MethodName) jdk_31_method_2_code (2 : Nat) (Option.some Jvm.ClassFile.FieldType.boolean), Jvm.Cond.code ({ cls := "java/lang/String", name := "equals", desc := "(Ljava/lang/Object;)Z" } : Jvm.MethodName) jdk_42_method_66_code (3 : Nat) (Option.some Jvm.ClassFile.FieldType.boolean), Jvm.Cond.code ({ cls := "java/lang/StringLatin1", name := "equals", desc := "([B[B)Z" } : Jvm.MethodName) jdk_43_method_13_code (3 : Nat) (Option.some Jvm.ClassFile.FieldType.boolean)]
set_option maxRecDepth 65536 in
theorem codes_eq : words1.filter isCode = codes1 := rfl
theorem w_codes : ∀ c ∈ words1.filter isCode, c.before args0 about1 = true := by
  rw [codes_eq]
  intro c hc
  simp only [codes1, List.mem_cons, List.not_mem_nil, or_false] at hc
  rcases hc with rfl | rfl | rfl | rfl | rfl | rfl | rfl | rfl | rfl | rfl | rfl | rfl | rfl | rfl | rfl
  · exact w_c0
  · exact w_c1
  · exact w_c2
  · exact w_c3
  · exact w_c4
  · exact w_c5
  · exact w_c6
  · exact w_c7
  · exact w_c8
  · exact w_c9
  · exact w_c10
  · exact w_c11
  · exact w_c12
  · exact w_c13
  · exact w_c14
set_option maxRecDepth 65536 in
theorem w_t1 : (words1.take 24).all (fun c => isCode c || c.before args0 about1) = true := by decide +kernel
set_option maxRecDepth 65536 in
theorem w_t2 : ((words1.drop 24).take 24).all (fun c => isCode c || c.before args0 about1) = true := by decide +kernel
set_option maxRecDepth 65536 in
theorem w_t3 : (((words1.drop 24).drop 24).take 24).all (fun c => isCode c || c.before args0 about1) = true := by decide +kernel
set_option maxRecDepth 65536 in
theorem w_t4 : (((words1.drop 24).drop 24).drop 24).all (fun c => isCode c || c.before args0 about1) = true := by decide +kernel
theorem w_tables : (allAtoms (Jvm.Cond.code x code maxLocals ret :: tables_1)).before args0 about1 = true := by
  rw [allAtoms_all]
  show words1.all (fun c => c.before args0 about1) = true
  refine all_split ?_ w_codes
  rw [← List.take_append_drop 24 words1, List.all_append, w_t1, ← List.take_append_drop 24 (words1.drop 24), List.all_append, w_t2, ← List.take_append_drop 24 ((words1.drop 24).drop 24), List.all_append, w_t3, w_t4]
  rfl
set_option maxRecDepth 65536 in
theorem w_rest : rest_1_c.before args0 about1 = true := by decide +kernel
set_option maxRecDepth 65536 in
theorem w_case : (Jvm.Cond.and given_1 narrow_1).before args0 about1 = true := by decide +kernel
set_option maxRecDepth 65536 in
theorem w_consts : constsHeld consts_1 about1 := Jvm.Lit.constsHeldB_iff.mp (by decide +kernel)
theorem w_applies : (headSpec (Jvm.Cond.code x code maxLocals ret :: tables_1) room_1).applies x e0.platform about1 = true :=
  (Spec.applies_iff w_frames).mpr ⟨w_running, w_runnable, w_alone, w_named, w_hears, w_ripe, w_room, w_tables⟩
theorem atStart : AtStart classFile x code maxLocals ret World_1 tables_1 room_1 Calls_1 rest_1 Pre_1 launch0 p0 e0 about1 theMethod args0 below0 :=
  ⟨lists_1, trivial, launch0.admits_env _ _ _, launch0.least_env, fairChoices_fair.cas, fairChoices_fair.clock, w_frames, w_args, w_heap, w_applies, ⟨w_consts, trivial⟩, w_rest, w_case⟩
end start1
theorem witness_1 : WitnessClaimed_1 := ⟨start1.p0, start1.e0, start1.about1, start1.theMethod, start1.args0, start1.below0, start1.atStart⟩
end Jvm.Pilot.@@N@@
