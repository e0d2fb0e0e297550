import JvmDerived
import JvmDerived.Pilot.@@N@@Statement
import JvmDerived.Pilot.@@N@@Code
set_option linter.unusedVariables false
set_option linter.unusedSimpArgs false
@@BLOCK:NumsL.lean.txt@@
/- laws to paste: Road.backV, Road.eqW, Road.chN, Road.codOf (cut by pick.py; bodies as the Statement names them) -/
namespace Jvm.Pilot.@@N@@
namespace StrChars
open Jvm Sem ClassFile Op Lib Jvm.Stand Jvm.Free.XT Jvm.Free.ALB Jvm.Free.JM Jvm.Free
open Jvm.Lib.Cold (StaticIs)
/-- a char array whose places are chars -/
def Ch (a : Addr) (A : Cell) (U : State) : Prop := Arr .char a A U ∧ Typed .char A
theorem Ch.mv {a : Addr} {A : Cell} {U U' : State} (h : Ch a A U) (hal : U.vm.Alike U'.vm) (hh : U'.heap = U.heap) : Ch a A U' := ⟨h.1.mv hal hh, h.2⟩
theorem Ch.keep {a : Addr} {A : Cell} {U U' : State} (h : Ch a A U) (hal : U.vm.Alike U'.vm) (hk : U'.heap[a]? = some A) : Ch a A U' := ⟨h.1.keep hal hk, h.2⟩
/-- what place i of a char[]'s cell holds -/
def cv (A : Cell) (i : Nat) : Int32 := match A.slots[i]? with | some (.int x) => x | _ => 0
theorem Ch.get {a : Addr} {A : Cell} {U : State} (h : Ch a A U) {i : Nat} (hi : i < A.slots.size) : A.slots[i]? = some (.int (cv A i)) := by
  have e := Array.getElem?_eq_getElem hi
  have f := h.2 i _ e
  unfold cv; rw [e]
  generalize A.slots[i] = v at f
  cases v <;> simp [fits] at f ⊢
/-- the byte that i2b leaves of a char -/
def lo8 (x : Int32) : Int32 := x.toInt8.toInt32
theorem fits_lo8 (y : Int32) : fits .byte (.int (lo8 y)) = true := by
  have h1 := y.toInt8.le_toInt
  have h2 := y.toInt8.toInt_lt
  simp only [lo8, fits, Bool.and_eq_true, decide_eq_true_eq, Int32.le_iff_toInt_le, Int8.toInt_toInt32, show (-128 : Int32).toInt = -128 from by decide, show (127 : Int32).toInt = 127 from by decide]
  omega
/-- A' is A but that each place j of lo .. hi - 1 holds f j -/
def Laid (A A' : Cell) (lo hi : Nat) (f : Nat → Value) : Prop := A'.cls = A.cls ∧ A'.vm = A.vm ∧ A'.slots.size = A.slots.size ∧ ∀ i, A'.slots[i]? = if lo ≤ i ∧ i < hi then some (f i) else A.slots[i]?
theorem Laid.zero (A : Cell) (lo : Nat) (f : Nat → Value) : Laid A A lo (lo + 0) f := ⟨rfl, rfl, rfl, fun i => by rw [if_neg (by omega)]⟩
theorem Laid.step {A Ak : Cell} {lo k : Nat} {f : Nat → Value} {v : Value} (h : Laid A Ak lo k f) (hlo : lo ≤ k) (hk : k < Ak.slots.size) (hv : v = f k) : Laid A (Ak.setSlot k v) lo (k + 1) f := by
  refine ⟨h.1, h.2.1, by simpa [Cell.setSlot] using h.2.2.1, fun i => ?_⟩
  by_cases e : k = i
  · subst e; rw [Cell.slots_setSlot_self v hk, if_pos (by omega), hv]
  · rw [Cell.slots_setSlot_ne v e, h.2.2.2 i]
    by_cases q : lo ≤ i ∧ i < k
    · rw [if_pos q, if_pos (by omega)]
    · rw [if_neg q, if_neg (by omega)]
def U16 : String := "java/lang/StringUTF16"
namespace Cmp5
def yN : MethodName := ⟨"java/lang/StringUTF16", "compress", "([CI[BII)I"⟩
abbrev yB : ByteArray := jdk_52_method_21_code
theorem d0 : decode yB 0 = .ok (.iconst 0, 1) := by decide +kernel
theorem d1 : decode yB 1 = .ok (.istore 5, 2) := by decide +kernel
theorem d3 : decode yB 3 = .ok (.iload 5, 2) := by decide +kernel
theorem d5 : decode yB 5 = .ok (.iload 4, 2) := by decide +kernel
theorem d7 : decode yB 7 = .ok (.if_icmp (.ge) 37, 3) := by decide +kernel
theorem d10 : decode yB 10 = .ok (.aload_n 0, 1) := by decide +kernel
theorem d11 : decode yB 11 = .ok (.iload_n 1, 1) := by decide +kernel
theorem d12 : decode yB 12 = .ok (.caload, 1) := by decide +kernel
theorem d13 : decode yB 13 = .ok (.istore 6, 2) := by decide +kernel
theorem d15 : decode yB 15 = .ok (.iload 6, 2) := by decide +kernel
theorem d17 : decode yB 17 = .ok (.sipush 255, 3) := by decide +kernel
theorem d20 : decode yB 20 = .ok (.if_icmp (.le) 6, 3) := by decide +kernel
theorem d26 : decode yB 26 = .ok (.aload_n 2, 1) := by decide +kernel
theorem d27 : decode yB 27 = .ok (.iload_n 3, 1) := by decide +kernel
theorem d28 : decode yB 28 = .ok (.iload 6, 2) := by decide +kernel
theorem d30 : decode yB 30 = .ok (.i2b, 1) := by decide +kernel
theorem d31 : decode yB 31 = .ok (.bastore, 1) := by decide +kernel
theorem d32 : decode yB 32 = .ok (.iinc 1 1, 3) := by decide +kernel
theorem d35 : decode yB 35 = .ok (.iinc 3 1, 3) := by decide +kernel
theorem d38 : decode yB 38 = .ok (.iinc 5 1, 3) := by decide +kernel
theorem d41 : decode yB 41 = .ok (.goto (-38), 3) := by decide +kernel
theorem d44 : decode yB 44 = .ok (.iload 4, 2) := by decide +kernel
theorem d46 : decode yB 46 = .ok (.ireturn, 1) := by decide +kernel
def site : List Cond := []
def tab : Cond := tabOf yN yB 7 (some .int) site
def P (b : Addr) (A : Cell) (d : Addr) (B : Cell) (o q len : Nat) (args : Array Value) (s : State) : Prop := args = #[.ref b, .int (Int32.ofNat o), .ref d, .int (Int32.ofNat q), .int (Int32.ofNat len)] ∧ Ch b A s ∧ Arr .byte d B s ∧ b ≠ d ∧ o + len ≤ A.slots.size ∧ q + len ≤ B.slots.size ∧ ∀ i, i < len → ¬ 255 < cv A (o + i)
def E (b : Addr) (A : Cell) (d : Addr) (B : Cell) (o q len : Nat) (r : Option Value) (s u : State) : Prop := r = some (.int (Int32.ofNat len)) ∧ ∃ B', Put d B' s u ∧ Laid B B' q (q + len) (fun j => Value.int (lo8 (cv A (o + (j - q)))))
/-- no char of the range above 255: len; the places written hold each char's low byte -/
theorem law (l : Launch) (b : Addr) (A : Cell) (d : Addr) (B : Cell) (o q len : Nat) : Law l yN 5 5 0 0 yB 7 (some .int) site (P b A d B o q len) (E b A d B o q len) (copyLocs d q len) 0 0 := by
  refine Law.of_walk (plainFor_of_name (by decide +kernel)) (by decide +kernel) (by decide +kernel) (by decide) (fun _ _ h => by rw [h.1]; rfl) (fun _ U U' hal hh h => ⟨h.1, h.2.1.mv hal hh, h.2.2.1.mv hal hh, h.2.2.2⟩) (fun r U U' V V' h1 hal h2 h => ⟨h.1, h.2.elim fun B' q => ⟨B', q.1.mv h1 h2, q.2⟩⟩) ?_
  intro p e s m args below meth c s₁ X0 hexec hbytes hml hret hlk hnm hown hh0 W hP
  obtain ⟨rfl, hA, hB, hne, l1, l2, hp⟩ := hP
  have c1 : Steps p.tables e below (s₁.setTop (entryFrame m #[.ref b, .int (Int32.ofNat o), .ref d, .int (Int32.ofNat q), .int (Int32.ofNat len)] 7)) (s₁.setTop (mkF m 0 #[.val (.ref b), .val (.int (Int32.ofNat o)), .val (.ref d), .val (.int (Int32.ofNat q)), .val (.int (Int32.ofNat len)), .unset, .unset] [])) := entry rfl
  have hA0 := hA.1.mv X0.warmed.alike hh0
  have hB0 := hB.mv X0.warmed.alike hh0
  have a31 := hA.1.2.2.2
  have c2 : Steps p.tables e below (s₁.setTop (entryFrame m #[.ref b, .int (Int32.ofNat o), .ref d, .int (Int32.ofNat q), .int (Int32.ofNat len)] 7)) (s₁.setTop (mkF m 3 #[.val (.ref b), .val (.int (Int32.ofNat o)), .val (.ref d), .val (.int (Int32.ofNat q)), .val (.int (Int32.ofNat len)), .val (.int 0), .unset] [])) := c1.trans (by
    refine iconstV X0.here hexec rfl 0 (hb hbytes d0) (by decide) ?_
    refine XS.istore X0.here hexec rfl (hb hbytes d1) rfl rfl ?_
    exact Steps.refl _)
  have loop : ∀ (r i : Nat), i + r = len → ∀ (z : Slot), (z = .unset ∨ ∃ w, z = .val w ∧ w.category = 1) → ∀ (Tl : State) (Bk : Cell), Stand p l e { frames := 0, locals := 0, cells := 0, slots := 0 } s m #[.ref b, .int (Int32.ofNat o), .ref d, .int (Int32.ofNat q), .int (Int32.ofNat len)] below meth c Tl ([] ++ copyLocs d q i) 0 0 → Put d Bk s₁ Tl → Laid B Bk q (q + i) (fun j => Value.int (lo8 (cv A (o + (j - q))))) →
      Steps p.tables e below (s₁.setTop (entryFrame m #[.ref b, .int (Int32.ofNat o), .ref d, .int (Int32.ofNat q), .int (Int32.ofNat len)] 7)) (Tl.setTop (mkF m 3 #[.val (.ref b), .val (.int (Int32.ofNat (o + i))), .val (.ref d), .val (.int (Int32.ofNat (q + i))), .val (.int (Int32.ofNat len)), .val (.int (Int32.ofNat i)), z] [])) → ∃ (T' : State) (B' : Cell) (z' : Slot), Stand p l e { frames := 0, locals := 0, cells := 0, slots := 0 } s m #[.ref b, .int (Int32.ofNat o), .ref d, .int (Int32.ofNat q), .int (Int32.ofNat len)] below meth c T' ([] ++ copyLocs d q len) 0 0 ∧ Put d B' s₁ T' ∧ Laid B B' q (q + len) (fun j => Value.int (lo8 (cv A (o + (j - q))))) ∧
      Steps p.tables e below (s₁.setTop (entryFrame m #[.ref b, .int (Int32.ofNat o), .ref d, .int (Int32.ofNat q), .int (Int32.ofNat len)] 7)) (T'.setTop (mkF m 3 #[.val (.ref b), .val (.int (Int32.ofNat (o + len))), .val (.ref d), .val (.int (Int32.ofNat (q + len))), .val (.int (Int32.ofNat len)), .val (.int (Int32.ofNat len)), z'] [])) := by
    intro r
    induction r with
    | zero =>
      intro i hi z hz Tl Bk Xl pl fl cl
      have hil : i = len := by omega
      rw [hil] at Xl fl cl
      exact ⟨Tl, Bk, z, Xl, pl, fl, cl⟩
    | succ r ih =>
      intro i hi z hz Tl Bk Xl pl fl cl
      have all := X0.warmed.alike.symm.trans Xl.warmed.alike
      have hAl := hA0.keep all (pl.other hne hA0.1)
      have hBk := hB0.like all pl.1 fl.1 fl.2.1 fl.2.2.1
      have hlt : q + i < Bk.slots.size := by rw [fl.2.2.1]; omega
      have c3 : Steps p.tables e below (s₁.setTop (entryFrame m #[.ref b, .int (Int32.ofNat o), .ref d, .int (Int32.ofNat q), .int (Int32.ofNat len)] 7)) (Tl.setTop (mkF m 12 #[.val (.ref b), .val (.int (Int32.ofNat (o + i))), .val (.ref d), .val (.int (Int32.ofNat (q + i))), .val (.int (Int32.ofNat len)), .val (.int (Int32.ofNat i)), z] [.int (Int32.ofNat (o + i)), .ref b])) := cl.trans (by
        refine XS.iload Xl.here hexec rfl (hb hbytes d3) rfl ?_
        refine XS.iload Xl.here hexec rfl (hb hbytes d5) rfl ?_
        refine XS.icmpNo Xl.here hexec rfl (hb hbytes d7) rfl (ii_ge_f (lt32 (by omega) (by omega))) ?_
        refine XS.aloadN Xl.here hexec rfl (hb hbytes d10) rfl rfl ?_
        refine XS.iloadN Xl.here hexec rfl (hb hbytes d11) rfl ?_
        exact Steps.refl _)
      have c4 : Steps p.tables e below (s₁.setTop (entryFrame m #[.ref b, .int (Int32.ofNat o), .ref d, .int (Int32.ofNat q), .int (Int32.ofNat len)] 7)) (Tl.setTop (mkF m 13 #[.val (.ref b), .val (.int (Int32.ofNat (o + i))), .val (.ref d), .val (.int (Int32.ofNat (q + i))), .val (.int (Int32.ofNat len)), .val (.int (Int32.ofNat i)), z] [.int (cv A (o + i))])) := c3.trans (by
        refine Xl.aget hexec hAl rfl (hA.get (i := o + i) (by omega)) rfl rfl (hb hbytes d12) ?_
        exact Steps.refl _)
      have c5 : Steps p.tables e below (s₁.setTop (entryFrame m #[.ref b, .int (Int32.ofNat o), .ref d, .int (Int32.ofNat q), .int (Int32.ofNat len)] 7)) (Tl.setTop (mkF m 15 #[.val (.ref b), .val (.int (Int32.ofNat (o + i))), .val (.ref d), .val (.int (Int32.ofNat (q + i))), .val (.int (Int32.ofNat len)), .val (.int (Int32.ofNat i)), .val (.int (cv A (o + i)))] [])) := c4.trans (by
        refine XS.istoreS Xl.here hexec rfl (hb hbytes d13) rfl rfl hz ?_
        exact Steps.refl _)
      have c6 : Steps p.tables e below (s₁.setTop (entryFrame m #[.ref b, .int (Int32.ofNat o), .ref d, .int (Int32.ofNat q), .int (Int32.ofNat len)] 7)) (Tl.setTop (mkF m 31 #[.val (.ref b), .val (.int (Int32.ofNat (o + i))), .val (.ref d), .val (.int (Int32.ofNat (q + i))), .val (.int (Int32.ofNat len)), .val (.int (Int32.ofNat i)), .val (.int (cv A (o + i)))] [.int (lo8 (cv A (o + i))), .int (Int32.ofNat (q + i)), .ref d])) := c5.trans (by
        refine XS.iload Xl.here hexec rfl (hb hbytes d15) rfl ?_
        refine sipushV Xl.here hexec rfl 255 (hb hbytes d17) (by decide) ?_
        refine XS.icmpYes Xl.here hexec rfl (pc0 := 20) rfl (hb hbytes d20) rfl (ii_le_t (hp i (by omega))) (by decide) rfl ?_
        refine XS.aloadN Xl.here hexec rfl (hb hbytes d26) rfl rfl ?_
        refine XS.iloadN Xl.here hexec rfl (hb hbytes d27) rfl ?_
        refine XS.iload Xl.here hexec rfl (hb hbytes d28) rfl ?_
        refine i2b Xl.here hexec rfl (hb hbytes d30) rfl ?_
        exact Steps.refl _)
      obtain ⟨T7, X7, p7, st7⟩ := Xl.aput hexec hBk rfl hlt rfl (fits_lo8 (cv A (o + i))) (g := (mkF m 31 #[.val (.ref b), .val (.int (Int32.ofNat (o + i))), .val (.ref d), .val (.int (Int32.ofNat (q + i))), .val (.int (Int32.ofNat len)), .val (.int (Int32.ofNat i)), .val (.int (cv A (o + i)))] [.int (lo8 (cv A (o + i))), .int (Int32.ofNat (q + i)), .ref d])) rfl (rest := []) rfl (hb hbytes d31)
      have c8 : Steps p.tables e below (s₁.setTop (entryFrame m #[.ref b, .int (Int32.ofNat o), .ref d, .int (Int32.ofNat q), .int (Int32.ofNat len)] 7)) (T7.setTop (mkF m 32 #[.val (.ref b), .val (.int (Int32.ofNat (o + i))), .val (.ref d), .val (.int (Int32.ofNat (q + i))), .val (.int (Int32.ofNat len)), .val (.int (Int32.ofNat i)), .val (.int (cv A (o + i)))] [])) := c6.trans (st7 _ (Steps.refl _))
      have c9 : Steps p.tables e below (s₁.setTop (entryFrame m #[.ref b, .int (Int32.ofNat o), .ref d, .int (Int32.ofNat q), .int (Int32.ofNat len)] 7)) (T7.setTop (mkF m 3 #[.val (.ref b), .val (.int (Int32.ofNat (o + i) + 1)), .val (.ref d), .val (.int (Int32.ofNat (q + i) + 1)), .val (.int (Int32.ofNat len)), .val (.int (Int32.ofNat i + 1)), .val (.int (cv A (o + i)))] [])) := c8.trans (by
        refine iincV X7.here hexec rfl 1 (hb hbytes d32) (by decide) rfl rfl ?_
        refine iincV X7.here hexec rfl 1 (hb hbytes d35) (by decide) rfl rfl ?_
        refine iincV X7.here hexec rfl 1 (hb hbytes d38) (by decide) rfl rfl ?_
        refine XS.goto X7.here hexec rfl (pc0 := 41) rfl (hb hbytes d41) (by decide) rfl ?_
        exact Steps.refl _)
      have c10 : Steps p.tables e below (s₁.setTop (entryFrame m #[.ref b, .int (Int32.ofNat o), .ref d, .int (Int32.ofNat q), .int (Int32.ofNat len)] 7)) (T7.setTop (mkF m 3 #[.val (.ref b), .val (.int (Int32.ofNat (o + (i + 1)))), .val (.ref d), .val (.int (Int32.ofNat (q + (i + 1)))), .val (.int (Int32.ofNat len)), .val (.int (Int32.ofNat (i + 1))), .val (.int (cv A (o + i)))] [])) := by
        have := c9
        rw [succ32, succ32, succ32] at this
        exact this
      exact ih (i + 1) (by omega) _ (Or.inr ⟨_, rfl, rfl⟩) T7 _ (by rw [copyLocs_step, ← List.append_assoc]; exact X7) (pl.trans p7) (fl.step (by omega) hlt (by simp)) c10
  obtain ⟨T9, B9, z9, X9, p9, f9, g9⟩ := loop len 0 (by omega) .unset (Or.inl rfl) s₁ B (by simpa [copyLocs] using X0) ⟨hB0.1, fun _ _ => rfl, rfl⟩ (Laid.zero _ _ _) c2
  have c11 : Steps p.tables e below (s₁.setTop (entryFrame m #[.ref b, .int (Int32.ofNat o), .ref d, .int (Int32.ofNat q), .int (Int32.ofNat len)] 7)) (T9.setTop (mkF m 46 #[.val (.ref b), .val (.int (Int32.ofNat (o + len))), .val (.ref d), .val (.int (Int32.ofNat (q + len))), .val (.int (Int32.ofNat len)), .val (.int (Int32.ofNat len)), z9] [.int (Int32.ofNat len)])) := g9.trans (by
    refine XS.iload X9.here hexec rfl (hb hbytes d3) rfl ?_
    refine XS.iload X9.here hexec rfl (hb hbytes d5) rfl ?_
    refine XS.icmpYes X9.here hexec rfl (pc0 := 7) rfl (hb hbytes d7) rfl (ii_ge_t (nlt32 (by omega) (Nat.le_refl _))) (by decide) rfl ?_
    refine XS.iload X9.here hexec rfl (hb hbytes d44) rfl ?_
    exact Steps.refl _)
  exact ⟨T9, some (.int (Int32.ofNat len)), _, _, _, X9, by simp, rfl, rfl, (fun h => by cases h), ⟨rfl, B9, p9.from hh0, f9⟩, fun fs hl => c11.trans (X9.ireturnOut hexec hret rfl (Or.inl rfl) (hb hbytes d46) hl)⟩
end Cmp5
namespace Cmp3
def yN : MethodName := ⟨"java/lang/StringUTF16", "compress", "([CII)[B"⟩
abbrev yB : ByteArray := jdk_52_method_16_code
theorem d0 : decode yB 0 = .ok (.iload_n 2, 1) := by decide +kernel
theorem d1 : decode yB 1 = .ok (.newarray .byte, 2) := by decide +kernel
theorem d3 : decode yB 3 = .ok (.astore_n 3, 1) := by decide +kernel
theorem d4 : decode yB 4 = .ok (.aload_n 0, 1) := by decide +kernel
theorem d5 : decode yB 5 = .ok (.iload_n 1, 1) := by decide +kernel
theorem d6 : decode yB 6 = .ok (.aload_n 3, 1) := by decide +kernel
theorem d7 : decode yB 7 = .ok (.iconst 0, 1) := by decide +kernel
theorem d8 : decode yB 8 = .ok (.iload_n 2, 1) := by decide +kernel
theorem d9 : decode yB 9 = .ok (.invokestatic 115, 3) := by decide +kernel
theorem d12 : decode yB 12 = .ok (.istore 4, 2) := by decide +kernel
theorem d14 : decode yB 14 = .ok (.iload 4, 2) := by decide +kernel
theorem d16 : decode yB 16 = .ok (.iload_n 2, 1) := by decide +kernel
theorem d17 : decode yB 17 = .ok (.if_icmp (.eq) 40, 3) := by decide +kernel
theorem d57 : decode yB 57 = .ok (.aload_n 3, 1) := by decide +kernel
theorem d58 : decode yB 58 = .ok (.areturn, 1) := by decide +kernel
def site : List Cond := [.arrayClass .byte, Cmp5.tab] ++ staticW U16 115 Cmp5.yN
def tab : Cond := tabOf yN yB 6 (some (.array .byte)) site
def P (b : Addr) (A : Cell) (o len : Nat) (args : Array Value) (s : State) : Prop := args = #[.ref b, .int (Int32.ofNat o), .int (Int32.ofNat len)] ∧ Ch b A s ∧ o + len ≤ A.slots.size ∧ len ≤ 536870912 ∧ ∀ i, i < len → ¬ 255 < cv A (o + i)
def E (b : Addr) (A : Cell) (o len : Nat) (r : Option Value) (s u : State) : Prop := NewArr .byte "[B" len (fun j => .int (lo8 (cv A (o + j)))) r s u ∧ u.heap.size = s.heap.size + 1
/-- no char of the range above 255: a new byte[] of their low bytes -/
theorem law (l : Launch) (b : Addr) (A : Cell) (o len : Nat) : Law l yN 3 3 1 18 yB 6 (some (.array .byte)) site (P b A o len) (E b A o len) [] 1 len := by
  refine Law.of_walk (plainFor_of_name (by decide +kernel)) (by decide +kernel) (by decide +kernel) (by decide) (fun _ _ h => by rw [h.1]; rfl) (fun _ U U' hal hh h => ⟨h.1, h.2.1.mv hal hh, h.2.2⟩) (fun r U U' V V' h1 hal h2 h => ⟨NewArr.mv r U U' V V' h1 hal h2 h.1, by rw [h1, h2]; exact h.2⟩) ?_
  intro p e s m args below meth c s₁ X0 hexec hbytes hml hret hlk hnm hown hh0 W hP
  obtain ⟨rfl, hA, l1, l2, hp⟩ := hP
  have a31 := hA.1.2.2.2
  have c1 : Steps p.tables e below (s₁.setTop (entryFrame m #[.ref b, .int (Int32.ofNat o), .int (Int32.ofNat len)] 6)) (s₁.setTop (mkF m 0 #[.val (.ref b), .val (.int (Int32.ofNat o)), .val (.int (Int32.ofNat len)), .unset, .unset, .unset] [])) := entry rfl
  have c2 : Steps p.tables e below (s₁.setTop (entryFrame m #[.ref b, .int (Int32.ofNat o), .int (Int32.ofNat len)] 6)) (s₁.setTop (mkF m 1 #[.val (.ref b), .val (.int (Int32.ofNat o)), .val (.int (Int32.ofNat len)), .unset, .unset, .unset] [.int (Int32.ofNat len)])) := c1.trans (by
    refine XS.iloadN X0.here hexec rfl (hb hbytes d0) rfl ?_
    exact Steps.refl _)
  obtain ⟨T3, B3, X3, ba3, bs3, bv3, bh3, bf3, st3⟩ := X0.anew hexec (atype := .byte) (wk W (.arrayClass .byte)) rfl (by show len * 1 ≤ _; omega) (by omega) (g := (mkF m 1 #[.val (.ref b), .val (.int (Int32.ofNat o)), .val (.int (Int32.ofNat len)), .unset, .unset, .unset] [.int (Int32.ofNat len)])) rfl (hb hbytes d1) (rest := []) rfl (Nat.le_refl _) (by show 0 + len ≤ len; omega)
  rw [hh0] at ba3 st3
  have kp3 : XT.Kept s T3 := (XT.Kept.of_eq hh0).push bh3
  have hA3 := hA.keep X3.warmed.alike (kp3 _ _ hA.1.1)
  have hne : b ≠ s.heap.size := hA.1.ne
  have c4 : Steps p.tables e below (s₁.setTop (entryFrame m #[.ref b, .int (Int32.ofNat o), .int (Int32.ofNat len)] 6)) (T3.setTop (mkF m 3 #[.val (.ref b), .val (.int (Int32.ofNat o)), .val (.int (Int32.ofNat len)), .unset, .unset, .unset] [.ref s.heap.size])) := c2.trans (st3 _ (Steps.refl _))
  have c5 : Steps p.tables e below (s₁.setTop (entryFrame m #[.ref b, .int (Int32.ofNat o), .int (Int32.ofNat len)] 6)) (T3.setTop (mkF m 9 #[.val (.ref b), .val (.int (Int32.ofNat o)), .val (.int (Int32.ofNat len)), .val (.ref s.heap.size), .unset, .unset] [.int (Int32.ofNat len), .int 0, .ref s.heap.size, .int (Int32.ofNat o), .ref b])) := c4.trans (by
    refine XS.astoreN X3.here hexec rfl (hb hbytes d3) rfl rfl rfl ?_
    refine XS.aloadN X3.here hexec rfl (hb hbytes d4) rfl rfl ?_
    refine XS.iloadN X3.here hexec rfl (hb hbytes d5) rfl ?_
    refine XS.aloadN X3.here hexec rfl (hb hbytes d6) rfl rfl ?_
    refine iconstV X3.here hexec rfl 0 (hb hbytes d7) (by decide) ?_
    refine XS.iloadN X3.here hexec rfl (hb hbytes d8) rfl ?_
    exact Steps.refl _)
  obtain ⟨v6, T6, X6, E6, g6⟩ := X3.callS hexec (Cmp5.law l b A s.heap.size B3 o 0 len) hown (wks W (staticW U16 115 Cmp5.yN)) (wk W Cmp5.tab) (W := 0) (Nat.le_of_ble_eq_true rfl) (Nat.le_of_ble_eq_true rfl) (Nat.le_refl _) (by show 0 + len + 0 ≤ len; omega) (g := (mkF m 9 #[.val (.ref b), .val (.int (Int32.ofNat o)), .val (.int (Int32.ofNat len)), .val (.ref s.heap.size), .unset, .unset] [.int (Int32.ofNat len), .int (Int32.ofNat 0), .ref s.heap.size, .int (Int32.ofNat o), .ref b])) rfl (by rw [hml]; rfl) c5 (argsL := [.ref b, .int (Int32.ofNat o), .ref s.heap.size, .int (Int32.ofNat 0), .int (Int32.ofNat len)]) (rest := []) rfl rfl (by show 2 * 0 + 0 ≤ _; decide) (hb hbytes d9) (⟨rfl, hA3, ba3, hne, l1, by rw [bs3]; simp, hp⟩)
  obtain ⟨rfl, B6, p6, f6⟩ := E6
  have c7 : Steps p.tables e below (s₁.setTop (entryFrame m #[.ref b, .int (Int32.ofNat o), .int (Int32.ofNat len)] 6)) (T6.setTop (mkF m 12 #[.val (.ref b), .val (.int (Int32.ofNat o)), .val (.int (Int32.ofNat len)), .val (.ref s.heap.size), .unset, .unset] [.int (Int32.ofNat len)])) := g6
  have c8 : Steps p.tables e below (s₁.setTop (entryFrame m #[.ref b, .int (Int32.ofNat o), .int (Int32.ofNat len)] 6)) (T6.setTop (mkF m 58 #[.val (.ref b), .val (.int (Int32.ofNat o)), .val (.int (Int32.ofNat len)), .val (.ref s.heap.size), .val (.int (Int32.ofNat len)), .unset] [.ref s.heap.size])) := c7.trans (by
    refine XS.istore X6.here hexec rfl (hb hbytes d12) rfl rfl ?_
    refine XS.iload X6.here hexec rfl (hb hbytes d14) rfl ?_
    refine XS.iloadN X6.here hexec rfl (hb hbytes d16) rfl ?_
    refine XS.icmpYes X6.here hexec rfl (pc0 := 17) rfl (hb hbytes d17) rfl (ii_eq_t rfl) (by decide) rfl ?_
    refine XS.aloadN X6.here hexec rfl (hb hbytes d57) rfl rfl ?_
    exact Steps.refl _)
  have X8 := X6.wide (L' := []) (cells' := 1) (slots' := len) (fun x hx hlt => by
    simp only [List.nil_append, copyLocs, List.mem_map, List.mem_range] at hx
    obtain ⟨i, -, rfl⟩ := hx
    exact absurd hlt (Nat.lt_irrefl _)) (Nat.le_refl _) (by omega)
  exact ⟨T6, some (.ref s.heap.size), _, _, _, X8, rfl, rfl, rfl, (fun h => by cases h), ⟨⟨rfl, B6, ba3.like (X3.warmed.alike.symm.trans X6.warmed.alike) p6.1 f6.1 f6.2.1 f6.2.2.1, f6.2.1.trans bv3, by rw [X6.warmed.alike.findClass, f6.1]; exact bf3, by rw [f6.2.2.1, bs3]; simp, fun j hj => by rw [f6.2.2.2 j, if_pos (by omega)]; rfl, kp3.put p6 (Nat.le_refl _)⟩, by rw [p6.2.2, bh3, hh0]; simp⟩, fun fs hl => c8.trans (X8.areturnOut hexec rfl hret rfl (hb hbytes d58) hl)⟩
end Cmp3
namespace CodL
def yN : MethodName := ⟨"java/lang/StringUTF16", "coderFromArrayLen", "([BI)B"⟩
abbrev yB : ByteArray := jdk_52_method_15_code
theorem d0 : decode yB 0 = .ok (.iload_n 1, 1) := by decide +kernel
theorem d1 : decode yB 1 = .ok (.aload_n 0, 1) := by decide +kernel
theorem d2 : decode yB 2 = .ok (.arraylength, 1) := by decide +kernel
theorem d3 : decode yB 3 = .ok (.isub, 1) := by decide +kernel
theorem d4 : decode yB 4 = .ok (.bipush 31, 2) := by decide +kernel
theorem d6 : decode yB 6 = .ok (.iushr, 1) := by decide +kernel
theorem d7 : decode yB 7 = .ok (.i2b, 1) := by decide +kernel
theorem d8 : decode yB 8 = .ok (.ireturn, 1) := by decide +kernel
def site : List Cond := []
def tab : Cond := tabOf yN yB 2 (some .byte) site
def P (d : Addr) (B : Cell) (args : Array Value) (s : State) : Prop := args = #[.ref d, .int (Int32.ofNat B.slots.size)] ∧ Arr .byte d B s
def E (r : Option Value) (s u : State) : Prop := XT.PureE (some (.int 0)) r s u
/-- an array as long as the number of chars: LATIN1 -/
theorem law (l : Launch) (d : Addr) (B : Cell) : Law l yN 2 2 0 0 yB 2 (some .byte) site (P d B) E [] 0 0 := by
  refine Law.of_walk (plainFor_of_name (by decide +kernel)) (by decide +kernel) (by decide +kernel) (by decide) (fun _ _ h => by rw [h.1]; rfl) (fun _ U U' hal hh h => ⟨h.1, h.2.mv hal hh⟩) (fun r U U' V V' h1 hal h2 h => XT.PureE.mv r U U' V V' h1 hal h2 h) ?_
  intro p e s m args below meth c s₁ X0 hexec hbytes hml hret hlk hnm hown hh0 W hP
  obtain ⟨rfl, hB⟩ := hP
  have hB0 := hB.mv X0.warmed.alike hh0
  have c1 : Steps p.tables e below (s₁.setTop (entryFrame m #[.ref d, .int (Int32.ofNat B.slots.size)] 2)) (s₁.setTop (mkF m 0 #[.val (.ref d), .val (.int (Int32.ofNat B.slots.size))] [])) := entry rfl
  have c2 : Steps p.tables e below (s₁.setTop (entryFrame m #[.ref d, .int (Int32.ofNat B.slots.size)] 2)) (s₁.setTop (mkF m 2 #[.val (.ref d), .val (.int (Int32.ofNat B.slots.size))] [.ref d, .int (Int32.ofNat B.slots.size)])) := c1.trans (by
    refine XS.iloadN X0.here hexec rfl (hb hbytes d0) rfl ?_
    refine XS.aloadN X0.here hexec rfl (hb hbytes d1) rfl rfl ?_
    exact Steps.refl _)
  have c3 : Steps p.tables e below (s₁.setTop (entryFrame m #[.ref d, .int (Int32.ofNat B.slots.size)] 2)) (s₁.setTop (mkF m 8 #[.val (.ref d), .val (.int (Int32.ofNat B.slots.size))] [.int (lo8 (ushr (Int32.ofNat B.slots.size - Int32.ofNat B.slots.size) 31))])) := c2.trans (by
    refine X0.alen hexec hB0 rfl rfl (hb hbytes d2) ?_
    refine XS.isub X0.here hexec rfl (hb hbytes d3) rfl ?_
    refine bipushV X0.here hexec rfl 31 (hb hbytes d4) (by decide) ?_
    refine iushr X0.here hexec rfl (hb hbytes d6) rfl ?_
    refine i2b X0.here hexec rfl (hb hbytes d7) rfl ?_
    exact Steps.refl _)
  have e0 : lo8 (ushr (Int32.ofNat B.slots.size - Int32.ofNat B.slots.size) 31) = 0 := by rw [Int32.sub_self]; decide
  rw [e0] at c3
  exact ⟨s₁, some (.int 0), _, _, _, X0, rfl, rfl, rfl, (fun h => by cases h), ⟨rfl, hh0⟩, fun fs hl => c3.trans (X0.ireturnOut hexec hret rfl (Or.inr (Or.inr (Or.inl rfl))) (hb hbytes d8) hl)⟩
end CodL
/-- the String at a is Latin-1 over a new byte[] (the heap's one new cell): the low bytes of the len chars of A from o on; every cell but a is kept -/
def Got (a : Addr) (D : Cell) (fV fC : Field) (A : Cell) (o len : Nat) (r : Option Value) (s u : State) : Prop := r = none ∧ ∃ D' V : Cell, Blank "java/lang/String" a D' u ∧ Same D D' [fV.slot, fC.slot] ∧ D'.slots[fV.slot]? = some (.ref s.heap.size) ∧ D'.slots[fC.slot]? = some (.int 0) ∧ Arr .byte s.heap.size V u ∧ V.vm = .none ∧ u.vm.findClass "[B" = some V.cls ∧ V.slots.size = len ∧ (∀ j, j < len → V.slots[j]? = some (.int (lo8 (cv A (o + j))))) ∧ (∀ (y : Addr) (c : Cell), y ≠ a → s.heap[y]? = some c → u.heap[y]? = some c) ∧ u.heap.size = s.heap.size + 1
theorem Got.mv {a : Addr} {D A : Cell} {fV fC : Field} {o len : Nat} : ∀ r (U U' V V' : State), U'.heap = U.heap → V.vm.Alike V'.vm → V'.heap = V.heap → Got a D fV fC A o len r U V → Got a D fV fC A o len r U' V' :=
  fun r U U' V V' h1 hal h2 ⟨e0, D', X, a1, a2, a3, a4, a5, a6, a7, a8, a9, a10, a11⟩ => ⟨e0, D', X, a1.mv hal h2, a2, by rw [h1]; exact a3, a4, by rw [h1]; exact a5.mv hal h2, a6, by rw [hal.findClass]; exact a7, a8, a9, by rw [h1, h2]; exact a10, by rw [h1, h2]; exact a11⟩
namespace New4
def yN : MethodName := ⟨"java/lang/String", "<init>", "([CIILjava/lang/Void;)V"⟩
abbrev yB : ByteArray := jdk_42_method_149_code
theorem d0 : decode yB 0 = .ok (.aload_n 0, 1) := by decide +kernel
theorem d1 : decode yB 1 = .ok (.invokespecial 1, 3) := by decide +kernel
theorem d4 : decode yB 4 = .ok (.iload_n 3, 1) := by decide +kernel
theorem d5 : decode yB 5 = .ok (.ifCond (.ne) 22, 3) := by decide +kernel
theorem d27 : decode yB 27 = .ok (.getstatic 38, 3) := by decide +kernel
theorem d30 : decode yB 30 = .ok (.ifCond (.eq) 28, 3) := by decide +kernel
theorem d33 : decode yB 33 = .ok (.aload_n 1, 1) := by decide +kernel
theorem d34 : decode yB 34 = .ok (.iload_n 2, 1) := by decide +kernel
theorem d35 : decode yB 35 = .ok (.iload_n 3, 1) := by decide +kernel
theorem d36 : decode yB 36 = .ok (.invokestatic 177, 3) := by decide +kernel
theorem d39 : decode yB 39 = .ok (.astore 5, 2) := by decide +kernel
theorem d41 : decode yB 41 = .ok (.aload_n 0, 1) := by decide +kernel
theorem d42 : decode yB 42 = .ok (.aload 5, 2) := by decide +kernel
theorem d44 : decode yB 44 = .ok (.iload_n 3, 1) := by decide +kernel
theorem d45 : decode yB 45 = .ok (.invokestatic 47, 3) := by decide +kernel
theorem d48 : decode yB 48 = .ok (.putfield 15, 3) := by decide +kernel
theorem d51 : decode yB 51 = .ok (.aload_n 0, 1) := by decide +kernel
theorem d52 : decode yB 52 = .ok (.aload 5, 2) := by decide +kernel
theorem d54 : decode yB 54 = .ok (.putfield 9, 3) := by decide +kernel
theorem d57 : decode yB 57 = .ok (.return_, 1) := by decide +kernel
def site : List Cond := [.fieldLink "java/lang/String" 38 "java/lang/String" "COMPACT_STRINGS" "Z", Cmp3.tab, CodL.tab, .laysFinal "java/lang/String" "java/lang/String" "value" "[B", .fieldLink "java/lang/String" 9 "java/lang/String" "value" "[B", .laysFinal "java/lang/String" "java/lang/String" "coder" "B", .fieldLink "java/lang/String" 15 "java/lang/String" "coder" "B"] ++ objW "java/lang/String" 1 ++ staticW "java/lang/String" 177 Cmp3.yN ++ staticW "java/lang/String" 47 CodL.yN
def tab : Cond := tabOf yN yB 6 none site
def P (a : Addr) (D : Cell) (fV fC : Field) (b : Addr) (A : Cell) (z : Int32) (o len : Nat) (args : Array Value) (s : State) : Prop := args = #[.ref a, .ref b, .int (Int32.ofNat o), .int (Int32.ofNat len), .null] ∧ Blank "java/lang/String" a D s ∧ Found "java/lang/String" "value" "[B" fV s ∧ Found "java/lang/String" "coder" "B" fC s ∧ Ch b A s ∧ StaticIs s "java/lang/String" "COMPACT_STRINGS" "Z" (.int z) ∧ ¬ z = 0 ∧ 0 < len ∧ o + len ≤ A.slots.size ∧ len ≤ 536870912 ∧ ∀ i, i < len → ¬ 255 < cv A (o + i)
def E (a : Addr) (D : Cell) (fV fC : Field) (A : Cell) (o len : Nat) (r : Option Value) (s u : State) : Prop := Got a D fV fC A o len r s u
/-- len > 0, no char of the range above 255: a Latin-1 String of their low bytes -/
theorem law (l : Launch) (a : Addr) (D : Cell) (fV fC : Field) (b : Addr) (A : Cell) (z : Int32) (o len : Nat) : Law l yN 5 4 2 35 yB 6 none site (P a D fV fC b A z o len) (E a D fV fC A o len) [⟨a, fC.slot⟩, ⟨a, fV.slot⟩] 1 len := by
  refine Law.of_walk (plainFor_of_name (by decide +kernel)) (by decide +kernel) (by decide +kernel) (by decide) (fun _ _ h => by rw [h.1]; rfl) (fun _ U U' hal hh h => ⟨h.1, h.2.1.mv hal hh, h.2.2.1.al hal, h.2.2.2.1.al hal, h.2.2.2.2.1.mv hal hh, h.2.2.2.2.2.1.there hal hh, h.2.2.2.2.2.2⟩) (fun r U U' V V' h1 hal h2 h => Got.mv r U U' V V' h1 hal h2 h) ?_
  intro p e s m args below meth c s₁ X0 hexec hbytes hml hret hlk hnm hown hh0 W hP
  obtain ⟨rfl, hB, f1, f2, hA, s1, hz, l0, l1, l2, hp⟩ := hP
  have a31 := hA.1.2.2.2
  have c1 : Steps p.tables e below (s₁.setTop (entryFrame m #[.ref a, .ref b, .int (Int32.ofNat o), .int (Int32.ofNat len), .null] 6)) (s₁.setTop (mkF m 0 #[.val (.ref a), .val (.ref b), .val (.int (Int32.ofNat o)), .val (.int (Int32.ofNat len)), .val .null, .unset] [])) := entry rfl
  have c2 : Steps p.tables e below (s₁.setTop (entryFrame m #[.ref a, .ref b, .int (Int32.ofNat o), .int (Int32.ofNat len), .null] 6)) (s₁.setTop (mkF m 1 #[.val (.ref a), .val (.ref b), .val (.int (Int32.ofNat o)), .val (.int (Int32.ofNat len)), .val .null, .unset] [.ref a])) := c1.trans (by
    refine XS.aloadN X0.here hexec rfl (hb hbytes d0) rfl rfl ?_
    exact Steps.refl _)
  obtain ⟨T3, X3, q3, st3⟩ := X0.oinit hexec hown (wks W (objW "java/lang/String" 1)) (g := (mkF m 1 #[.val (.ref a), .val (.ref b), .val (.int (Int32.ofNat o)), .val (.int (Int32.ofNat len)), .val .null, .unset] [.ref a])) rfl (by rw [hml]; rfl) (rest := []) rfl (hb hbytes d1) (W := 0) (by show 2 * 0 + 0 ≤ _; decide) (Nat.le_of_ble_eq_true rfl) (Nat.le_of_ble_eq_true rfl)
  have hh3 := q3.trans hh0
  have c4 : Steps p.tables e below (s₁.setTop (entryFrame m #[.ref a, .ref b, .int (Int32.ofNat o), .int (Int32.ofNat len), .null] 6)) (T3.setTop (mkF m 27 #[.val (.ref a), .val (.ref b), .val (.int (Int32.ofNat o)), .val (.int (Int32.ofNat len)), .val .null, .unset] [])) := (c2.trans (st3 _ (Steps.refl _))).trans (by
    refine XS.iloadN X3.here hexec rfl (hb hbytes d4) rfl ?_
    refine XS.ifYes X3.here hexec rfl (pc0 := 5) rfl (hb hbytes d5) rfl (i0_ne_t (nz32 (by omega) l0)) (by decide) rfl ?_
    exact Steps.refl _)
  obtain ⟨T5, X5, q5, st5⟩ := X3.sget hexec hown (wk W (.fieldLink "java/lang/String" 38 "java/lang/String" "COMPACT_STRINGS" "Z")) s1 (fun _ _ h => by rw [hh3]; exact h) (g := (mkF m 27 #[.val (.ref a), .val (.ref b), .val (.int (Int32.ofNat o)), .val (.int (Int32.ofNat len)), .val .null, .unset] [])) rfl (hb hbytes d27)
  have hh5 := q5.trans hh3
  have c6 : Steps p.tables e below (s₁.setTop (entryFrame m #[.ref a, .ref b, .int (Int32.ofNat o), .int (Int32.ofNat len), .null] 6)) (T5.setTop (mkF m 30 #[.val (.ref a), .val (.ref b), .val (.int (Int32.ofNat o)), .val (.int (Int32.ofNat len)), .val .null, .unset] [.int z])) := c4.trans (st5 _ (Steps.refl _))
  have c7 : Steps p.tables e below (s₁.setTop (entryFrame m #[.ref a, .ref b, .int (Int32.ofNat o), .int (Int32.ofNat len), .null] 6)) (T5.setTop (mkF m 36 #[.val (.ref a), .val (.ref b), .val (.int (Int32.ofNat o)), .val (.int (Int32.ofNat len)), .val .null, .unset] [.int (Int32.ofNat len), .int (Int32.ofNat o), .ref b])) := c6.trans (by
    refine XS.ifNo X5.here hexec rfl (hb hbytes d30) rfl (i0_eq_f hz) ?_
    refine XS.aloadN X5.here hexec rfl (hb hbytes d33) rfl rfl ?_
    refine XS.iloadN X5.here hexec rfl (hb hbytes d34) rfl ?_
    refine XS.iloadN X5.here hexec rfl (hb hbytes d35) rfl ?_
    exact Steps.refl _)
  obtain ⟨v8, T8, X8, E8, g8⟩ := X5.callS hexec (Cmp3.law l b A o len) hown (wks W (staticW "java/lang/String" 177 Cmp3.yN)) (wk W Cmp3.tab) (W := 0) (Nat.le_of_ble_eq_true rfl) (Nat.le_of_ble_eq_true rfl) (Nat.le_refl _) (by show 0 + len ≤ len; omega) (g := (mkF m 36 #[.val (.ref a), .val (.ref b), .val (.int (Int32.ofNat o)), .val (.int (Int32.ofNat len)), .val .null, .unset] [.int (Int32.ofNat len), .int (Int32.ofNat o), .ref b])) rfl (by rw [hml]; rfl) c7 (argsL := [.ref b, .int (Int32.ofNat o), .int (Int32.ofNat len)]) (rest := []) rfl rfl (by show 2 * 0 + 0 ≤ _; decide) (hb hbytes d36) (⟨rfl, hA.mv X5.warmed.alike hh5, l1, l2, hp⟩)
  obtain ⟨e8, z8⟩ := E8
  obtain ⟨rfl, N, n1, n2, n3, n4, n5, n6⟩ := NewArr.mv _ T5 s _ _ hh5.symm (Vm.Alike.refl _) rfl e8
  rw [hh5] at z8
  have hB1 := hB.keep X8.warmed.alike (n6 _ _ hB.1)
  have hne : s.heap.size ≠ a := (Nat.ne_of_lt (Array.getElem?_eq_some_iff.mp hB.1).1).symm
  have c9 : Steps p.tables e below (s₁.setTop (entryFrame m #[.ref a, .ref b, .int (Int32.ofNat o), .int (Int32.ofNat len), .null] 6)) (T8.setTop (mkF m 39 #[.val (.ref a), .val (.ref b), .val (.int (Int32.ofNat o)), .val (.int (Int32.ofNat len)), .val .null, .unset] [.ref s.heap.size])) := g8
  have c10 : Steps p.tables e below (s₁.setTop (entryFrame m #[.ref a, .ref b, .int (Int32.ofNat o), .int (Int32.ofNat len), .null] 6)) (T8.setTop (mkF m 45 #[.val (.ref a), .val (.ref b), .val (.int (Int32.ofNat o)), .val (.int (Int32.ofNat len)), .val .null, .val (.ref s.heap.size)] [.int (Int32.ofNat N.slots.size), .ref s.heap.size, .ref a])) := by
    have hc : Steps p.tables e below (s₁.setTop (entryFrame m #[.ref a, .ref b, .int (Int32.ofNat o), .int (Int32.ofNat len), .null] 6)) (T8.setTop (mkF m 45 #[.val (.ref a), .val (.ref b), .val (.int (Int32.ofNat o)), .val (.int (Int32.ofNat len)), .val .null, .val (.ref s.heap.size)] [.int (Int32.ofNat len), .ref s.heap.size, .ref a])) := c9.trans (by
      refine XS.astore X8.here hexec rfl (hb hbytes d39) rfl rfl rfl ?_
      refine XS.aloadN X8.here hexec rfl (hb hbytes d41) rfl rfl ?_
      refine XS.aload X8.here hexec rfl (hb hbytes d42) rfl rfl ?_
      refine XS.iloadN X8.here hexec rfl (hb hbytes d44) rfl ?_
      exact Steps.refl _)
    rw [n4]; exact hc
  obtain ⟨v11, T11, X11, E11, g11⟩ := X8.callS hexec (CodL.law l s.heap.size N) hown (wks W (staticW "java/lang/String" 47 CodL.yN)) (wk W CodL.tab) (W := 1) (Nat.le_of_ble_eq_true rfl) (Nat.le_of_ble_eq_true rfl) (Nat.le_refl _) (by show 0 + len + 0 ≤ len; omega) (g := (mkF m 45 #[.val (.ref a), .val (.ref b), .val (.int (Int32.ofNat o)), .val (.int (Int32.ofNat len)), .val .null, .val (.ref s.heap.size)] [.int (Int32.ofNat N.slots.size), .ref s.heap.size, .ref a])) rfl (by rw [hml]; rfl) c10 (argsL := [.ref s.heap.size, .int (Int32.ofNat N.slots.size)]) (rest := [.ref a]) rfl rfl (by show 2 * 0 + (1 + 0) ≤ _; decide) (hb hbytes d45) (⟨rfl, n1⟩)
  obtain ⟨rfl, q11⟩ := E11
  have hB11 := hB1.mv (X8.warmed.alike.symm.trans X11.warmed.alike) q11
  have c12 : Steps p.tables e below (s₁.setTop (entryFrame m #[.ref a, .ref b, .int (Int32.ofNat o), .int (Int32.ofNat len), .null] 6)) (T11.setTop (mkF m 48 #[.val (.ref a), .val (.ref b), .val (.int (Int32.ofNat o)), .val (.int (Int32.ofNat len)), .val .null, .val (.ref s.heap.size)] [.int 0, .ref a])) := g11
  obtain ⟨T13, X13, p13, bl13, sl13, st13⟩ := X11.finit hexec hown (wk W (.fieldLink "java/lang/String" 15 "java/lang/String" "coder" "B")) (Or.inr ⟨_, (wk W (.laysFinal "java/lang/String" "java/lang/String" "coder" "B"))⟩) (Or.inl ⟨rfl, hnm⟩) f2 (Or.inl rfl) hB11 (t := .byte) (by decide +kernel) rfl (g := (mkF m 48 #[.val (.ref a), .val (.ref b), .val (.int (Int32.ofNat o)), .val (.int (Int32.ofNat len)), .val .null, .val (.ref s.heap.size)] [.int 0, .ref a])) rfl (rest := []) rfl (hb hbytes d48)
  have c14 : Steps p.tables e below (s₁.setTop (entryFrame m #[.ref a, .ref b, .int (Int32.ofNat o), .int (Int32.ofNat len), .null] 6)) (T13.setTop (mkF m 54 #[.val (.ref a), .val (.ref b), .val (.int (Int32.ofNat o)), .val (.int (Int32.ofNat len)), .val .null, .val (.ref s.heap.size)] [.ref s.heap.size, .ref a])) := (c12.trans (st13 _ (Steps.refl _))).trans (by
    refine XS.aloadN X13.here hexec rfl (hb hbytes d51) rfl rfl ?_
    refine XS.aload X13.here hexec rfl (hb hbytes d52) rfl rfl ?_
    exact Steps.refl _)
  obtain ⟨T15, X15, p15, bl15, sl15, st15⟩ := X13.finit hexec hown (wk W (.fieldLink "java/lang/String" 9 "java/lang/String" "value" "[B")) (Or.inr ⟨_, (wk W (.laysFinal "java/lang/String" "java/lang/String" "value" "[B"))⟩) (Or.inl ⟨rfl, hnm⟩) f1 (Or.inl rfl) bl13 (t := (.array .byte)) (by decide +kernel) rfl (g := (mkF m 54 #[.val (.ref a), .val (.ref b), .val (.int (Int32.ofNat o)), .val (.int (Int32.ofNat len)), .val .null, .val (.ref s.heap.size)] [.ref s.heap.size, .ref a])) rfl (rest := []) rfl (hb hbytes d54)
  have c16 : Steps p.tables e below (s₁.setTop (entryFrame m #[.ref a, .ref b, .int (Int32.ofNat o), .int (Int32.ofNat len), .null] 6)) (T15.setTop (mkF m 57 #[.val (.ref a), .val (.ref b), .val (.int (Int32.ofNat o)), .val (.int (Int32.ofNat len)), .val .null, .val (.ref s.heap.size)] [])) := c14.trans (st15 _ (Steps.refl _))
  have ap := apart (Or.inr ⟨_, (wk W (.laysFinal "java/lang/String" "java/lang/String" "value" "[B"))⟩) (Or.inr ⟨_, (wk W (.laysFinal "java/lang/String" "java/lang/String" "coder" "B"))⟩) f1 f2 (t₁ := .array .byte) (t₂ := .byte) (by decide +kernel) (by decide +kernel) (by decide)
  have al := X8.warmed.alike.symm.trans X15.warmed.alike
  have n7 : T11.heap[s.heap.size]? = some N := by rw [q11]; exact n1.1
  exact ⟨T15, none, _, _, _, X15, by simp, rfl, by omega, (fun _ => rfl), ⟨rfl, _, N, bl15, ((Same.refl D _).set _ (by simp)).set _ (by simp), sl15, (Cell.slots_setSlot_ne _ ap).trans sl13, n1.keep al (p15.other hne (p13.other hne n7)), n2, by rw [al.findClass]; exact n3, n4, n5, fun y c h1 h2 => p15.other h1 (p13.other h1 (by rw [q11]; exact n6 y c h2)), by rw [p15.2.2, p13.2.2, q11]; exact z8⟩, fun fs hl => c16.trans (X15.returnOut hexec hret (hb hbytes d57) hl)⟩
end New4
namespace New1
def yN : MethodName := ⟨"java/lang/String", "<init>", "([C)V"⟩
abbrev yB : ByteArray := jdk_42_method_3_code
theorem d0 : decode yB 0 = .ok (.aload_n 0, 1) := by decide +kernel
theorem d1 : decode yB 1 = .ok (.aload_n 1, 1) := by decide +kernel
theorem d2 : decode yB 2 = .ok (.iconst 0, 1) := by decide +kernel
theorem d3 : decode yB 3 = .ok (.aload_n 1, 1) := by decide +kernel
theorem d4 : decode yB 4 = .ok (.arraylength, 1) := by decide +kernel
theorem d5 : decode yB 5 = .ok (.aconst_null, 1) := by decide +kernel
theorem d6 : decode yB 6 = .ok (.invokespecial 27, 3) := by decide +kernel
theorem d9 : decode yB 9 = .ok (.return_, 1) := by decide +kernel
def site : List Cond := [New4.tab] ++ initW "java/lang/String" 27 New4.yN
def tab : Cond := tabOf yN yB 2 none site
def P (a : Addr) (D : Cell) (fV fC : Field) (b : Addr) (A : Cell) (z : Int32) (args : Array Value) (s : State) : Prop := args = #[.ref a, .ref b] ∧ Blank "java/lang/String" a D s ∧ Found "java/lang/String" "value" "[B" fV s ∧ Found "java/lang/String" "coder" "B" fC s ∧ Ch b A s ∧ StaticIs s "java/lang/String" "COMPACT_STRINGS" "Z" (.int z) ∧ ¬ z = 0 ∧ 0 < A.slots.size ∧ A.slots.size ≤ 536870912 ∧ ∀ i, i < A.slots.size → ¬ 255 < cv A i
def E (a : Addr) (D : Cell) (fV fC : Field) (A : Cell) (r : Option Value) (s u : State) : Prop := Got a D fV fC A 0 A.slots.size r s u
/-- new String(chars), not empty, no char above 255: a Latin-1 String of their low bytes -/
theorem law (l : Launch) (a : Addr) (D : Cell) (fV fC : Field) (b : Addr) (A : Cell) (z : Int32) : Law l yN 2 1 3 52 yB 2 none site (P a D fV fC b A z) (E a D fV fC A) [⟨a, fC.slot⟩, ⟨a, fV.slot⟩] 1 A.slots.size := by
  refine Law.of_walk (plainFor_of_name (by decide +kernel)) (by decide +kernel) (by decide +kernel) (by decide) (fun _ _ h => by rw [h.1]; rfl) (fun _ U U' hal hh h => ⟨h.1, h.2.1.mv hal hh, h.2.2.1.al hal, h.2.2.2.1.al hal, h.2.2.2.2.1.mv hal hh, h.2.2.2.2.2.1.there hal hh, h.2.2.2.2.2.2⟩) (fun r U U' V V' h1 hal h2 h => Got.mv r U U' V V' h1 hal h2 h) ?_
  intro p e s m args below meth c s₁ X0 hexec hbytes hml hret hlk hnm hown hh0 W hP
  obtain ⟨rfl, hB, f1, f2, hA, s1, hz, l0, l2, hp⟩ := hP
  have c1 : Steps p.tables e below (s₁.setTop (entryFrame m #[.ref a, .ref b] 2)) (s₁.setTop (mkF m 0 #[.val (.ref a), .val (.ref b)] [])) := entry rfl
  have c2 : Steps p.tables e below (s₁.setTop (entryFrame m #[.ref a, .ref b] 2)) (s₁.setTop (mkF m 6 #[.val (.ref a), .val (.ref b)] [.null, .int (Int32.ofNat A.slots.size), .int 0, .ref b, .ref a])) := c1.trans (by
    refine XS.aloadN X0.here hexec rfl (hb hbytes d0) rfl rfl ?_
    refine XS.aloadN X0.here hexec rfl (hb hbytes d1) rfl rfl ?_
    refine iconstV X0.here hexec rfl 0 (hb hbytes d2) (by decide) ?_
    refine XS.aloadN X0.here hexec rfl (hb hbytes d3) rfl rfl ?_
    refine X0.alen hexec (hA.1.mv X0.warmed.alike hh0) rfl rfl (hb hbytes d4) ?_
    refine XS.aconstNull X0.here hexec rfl (hb hbytes d5) ?_
    exact Steps.refl _)
  obtain ⟨v3, T3, X3, E3, g3⟩ := X0.callN hexec (New4.law l a D fV fC b A z 0 A.slots.size) rfl hown (wks W (initW "java/lang/String" 27 New4.yN)) (W New4.tab (by simp only [site, List.mem_cons, List.mem_append, true_or, or_true])) (W := 0) (Nat.le_of_ble_eq_true rfl) (Nat.le_of_ble_eq_true rfl) (Nat.le_refl _) (by show 0 + A.slots.size ≤ A.slots.size; omega) (g := (mkF m 6 #[.val (.ref a), .val (.ref b)] [.null, .int (Int32.ofNat A.slots.size), .int (Int32.ofNat 0), .ref b, .ref a])) rfl (by rw [hml]; rfl) c2 (argsL := [.ref b, .int (Int32.ofNat 0), .int (Int32.ofNat A.slots.size), .null]) (rest := []) rfl rfl (by show 2 * 0 + 0 ≤ _; decide) (hb hbytes d6) (⟨rfl, hB.mv X0.warmed.alike hh0, f1.al X0.warmed.alike, f2.al X0.warmed.alike, hA.mv X0.warmed.alike hh0, s1.there X0.warmed.alike hh0, hz, l0, by omega, l2, fun i hi => by rw [Nat.zero_add]; exact hp i hi⟩)
  have e0 := Got.mv _ s₁ s _ _ hh0.symm (Vm.Alike.refl _) rfl E3
  obtain rfl := e0.1
  have c4 : Steps p.tables e below (s₁.setTop (entryFrame m #[.ref a, .ref b] 2)) (T3.setTop (mkF m 9 #[.val (.ref a), .val (.ref b)] [])) := g3
  exact ⟨T3, none, _, _, _, X3, by simp, rfl, by omega, (fun _ => rfl), e0, fun fs hl => c4.trans (X3.returnOut hexec hret (hb hbytes d9) hl)⟩
theorem pays {l : Launch} {R : Room} {p : Program} {e : Env} {below : List Frame} {s : State} {sargs : Array Value} {len W : Nat} (a : Addr) (D : Cell) (fV fC : Field) (b : Addr) (A : Cell) (z : Int32) (htab : tab.before sargs s = true) (hfr : 4 ≤ R.frames) (hlo : W + 65 ≤ R.locals) :
    Back l R p e below s sargs yN len W (fun A₁ a₁ => A₁.cells + 1 ≤ R.cells ∧ A₁.slots + A.slots.size ≤ R.slots ∧ P a D fV fC b A z a₁ A₁.U) (fun A₁ _ v₁ B₁ => E a D fV fC A v₁ A₁.U B₁.U ∧ B₁.locs = A₁.locs ++ [⟨a, fC.slot⟩, ⟨a, fV.slot⟩] ∧ B₁.cells = A₁.cells + 1 ∧ B₁.slots = A₁.slots + A.slots.size) :=
  (law l a D fV fC b A z).pays htab hfr (by omega)
end New1
/-- the byte, read back as charAt reads it, is the char -/
theorem lo8_mask {x : Int32} (h0 : ¬ x < 0) (h1 : ¬ 255 < x) : lo8 x &&& 255 = x := by
  have t : ∀ k : Fin 256, lo8 (Int32.ofNat k.val) &&& 255 = Int32.ofNat k.val := by decide +kernel
  rw [Int32.lt_iff_toInt_lt] at h0 h1
  have e0 : (0 : Int32).toInt = 0 := rfl
  have e1 : (255 : Int32).toInt = 255 := rfl
  obtain ⟨k, hk⟩ : ∃ k : Nat, x.toInt = k := ⟨x.toInt.toNat, by omega⟩
  have hx : x = Int32.ofNat k := Int32.toInt_inj.mp (by rw [hk, Int32.toInt_ofNat_small (by omega)])
  rw [hx]
  exact t ⟨k, by omega⟩
end StrChars
namespace StrChars.Road
open Jvm Sem ClassFile Op Lib Jvm.Stand Jvm.Free Jvm.Free.XT
open Jvm.Lib.Cold (StaticIs)
abbrev ST : String := "java/lang/String"
/-- every table word that New1's law asks, flat -/
abbrev words : List Jvm.Cond := [.code New1.yN New1.yB 2 none, .initialized ST, .methodLink ST 27 New4.yN, .instanceMethod New4.yN,
  .code New4.yN New4.yB 6 none, .fieldLink ST 38 ST "COMPACT_STRINGS" "Z", .laysFinal ST ST "value" "[B", .fieldLink ST 9 ST "value" "[B", .laysFinal ST ST "coder" "B", .fieldLink ST 15 ST "coder" "B",
  .methodLink ST 1 Lib.objectInit, .instanceMethod Lib.objectInit, .code Lib.objectInit ⟨#[0xb1]⟩ 1 none, .methodLink ST 177 Cmp3.yN, .static Cmp3.yN, .methodLink ST 47 CodL.yN, .static CodL.yN,
  .code Cmp3.yN Cmp3.yB 6 (some (.array .byte)), .initialized U16, .arrayClass .byte, .methodLink U16 115 Cmp5.yN, .static Cmp5.yN, .code Cmp5.yN Cmp5.yB 7 (some .int), .code CodL.yN CodL.yB 2 (some .byte)]
theorem tab_of {a : Array Value} {s : State} (h : ∀ w ∈ words, w.before a s = true) : New1.tab.before a s = true := by
  have h5 : Cmp5.tab.before a s = true := unparts (wk h (.code Cmp5.yN Cmp5.yB 7 (some .int))) (wks h (.initialized Cmp5.yN.cls :: Cmp5.site))
  have hc : CodL.tab.before a s = true := unparts (wk h (.code CodL.yN CodL.yB 2 (some .byte))) (wks h (.initialized CodL.yN.cls :: CodL.site))
  have q5 : ∀ w ∈ Cmp5.tab :: words, w.before a s = true := fun w hw => (List.mem_cons.mp hw).elim (fun e => e ▸ h5) (h w)
  have h3 : Cmp3.tab.before a s = true := unparts (wk q5 (.code Cmp3.yN Cmp3.yB 6 (some (.array .byte)))) (wks q5 (.initialized Cmp3.yN.cls :: Cmp3.site))
  have q3 : ∀ w ∈ Cmp3.tab :: CodL.tab :: words, w.before a s = true := fun w hw => (List.mem_cons.mp hw).elim (fun e => e ▸ h3) fun hw => (List.mem_cons.mp hw).elim (fun e => e ▸ hc) (h w)
  have h4 : New4.tab.before a s = true := unparts (wk q3 (.code New4.yN New4.yB 6 none)) (wks q3 (.initialized New4.yN.cls :: New4.site))
  have q4 : ∀ w ∈ New4.tab :: words, w.before a s = true := fun w hw => (List.mem_cons.mp hw).elim (fun e => e ▸ h4) (h w)
  exact unparts (wk q4 (.code New1.yN New1.yB 2 none)) (wks q4 (.initialized New1.yN.cls :: New1.site))
/-- the words ride from the start Z to the walk's own state -/
theorem moved {Z s : State} {a0 args : Array Value} (hZ : Z.Warmed39 s.vm) (hw : ∀ d ∈ words, d.before a0 Z = true) : ∀ d ∈ words, d.before args s = true := fun d hd => by
  have q := hw d hd
  have t : ∀ d ∈ words, d = .arrayClass .byte ∨ (d.onTables && d.keepsFace) = true := by decide +kernel
  rcases t d hd with rfl | t
  · exact RoadKit.mvA hZ q
  · exact RoadKit.mv hZ q t
/-- WHAT COMES BACK, over the tables of the start Z: h the heap at the call, h' behind it -/
def Q (Z : State) (x : Addr) (A : Cell) (h : Heap) (v : Option Value) (h' : Heap) (L : List Loc) : Prop := v = none ∧ (∀ y ∈ L, y.base = x) ∧ RoadKit.Keep h h' [x] ∧ h'.size = h.size + 1 ∧ RoadKit.Exa Z h' x ST ∧ RoadKit.Fld Z h' x ST "value" "[B" (.ref h.size) ∧ RoadKit.Fld Z h' x ST "coder" "B" (.int 0) ∧
  (∃ V : Cell, RoadKit.Arr Z h' h.size V .byte ∧ V.vm = .none ∧ Z.vm.findClass "[B" = some V.cls ∧ V.slots.size = A.slots.size ∧ ∀ j, j < A.slots.size → V.slots[j]? = some (.int (lo8 (cv A j)))) ∧
  ∀ (O n d : String) (w : Value), RoadKit.Fld Z h x O n d w → RoadKit.slotOf Z O n d ≠ RoadKit.slotOf Z ST "value" "[B" → RoadKit.slotOf Z O n d ≠ RoadKit.slotOf Z ST "coder" "B" → RoadKit.Fld Z h' x O n d w
/-- **new String(chars) AT A CALL, IN THE ROAD'S FORM**: for specialBack behind newO: x the fresh String, b the char[] with the cell A -/
theorem back {p : Program} {l : Launch} {e : Env} {R : Room} {s : State} {args : Array Value} {below : List Frame} {len W : Nat} {Z : State} {a0 : Array Value} {h : Heap} (hZ : Z.Warmed39 s.vm) (hw : ∀ d ∈ words, d.before a0 Z = true) {kI : Nat} (wi : (Jvm.Cond.instantiable ST kI).before a0 Z = true)
    {x b : Addr} {A : Cell} {z : Int32} {v0 c0 : Value} (E : RoadKit.Exa Z h x ST) (V : RoadKit.Fld Z h x ST "value" "[B" v0) (C : RoadKit.Fld Z h x ST "coder" "B" c0) (K : RoadKit.Arr Z h b A .char) (hty : Typed .char A) (S : RoadKit.Sta Z h ST "COMPACT_STRINGS" "Z" (.int z)) (hz : ¬ z = 0)
    (l0 : 0 < A.slots.size) (l2 : A.slots.size ≤ 536870912) (hp : ∀ i, i < A.slots.size → ¬ 255 < cv A i) (hfr : 4 ≤ R.frames) (hlo : W + 65 ≤ R.locals) :
    Back l R p e below s args New1.yN len W (fun P a => a = #[.ref x, .ref b] ∧ P.U.heap = h ∧ P.cells + 1 ≤ R.cells ∧ P.slots + A.slots.size ≤ R.slots)
      (fun P _ v B => ∃ L, Q Z x A h v B.U.heap L ∧ B.locs = P.locs ++ L ∧ B.cells = P.cells + 1 ∧ B.slots = P.slots + A.slots.size) := by
  intro m meth c P g ig mk a X hg hsize hdg hW hn hp'
  obtain ⟨rfl, rfl, r1, r2⟩ := hp'
  have al : Z.vm.Alike P.U.vm := hZ.alike.trans X.warmed.alike
  obtain ⟨D, cfV, kV, iV, fV, hD, gV, stV, knV, obV, asV, slV⟩ := id V
  obtain ⟨D', cfC, kC, iC, fC, hD', gC, stC, -, -, asC, slC⟩ := id C
  cases hD.symm.trans hD'
  obtain ⟨D2, kD, e1, e2, e3, e4, e5⟩ := id E
  cases hD.symm.trans e1
  obtain ⟨c2, k2, i1, i2, i3, -⟩ := Cond.instantiable_spec wi
  cases e2.symm.trans i1
  cases e3.symm.trans i2
  obtain ⟨kU, u1, u2⟩ := al.2.2 _ _ e3
  have hB : Blank ST x D P.U := ⟨hD, ⟨knV, fun q hq => by rw [hq] at obV; cases obV⟩, by rw [al.findClass]; exact e2, kU, u1, by rw [u2]; exact i3, by rw [u2]; exact e5 i3⟩
  have F1 : Found ST "value" "[B" fV P.U := ⟨SBG.found_only al ⟨cfV, kV, iV, gV⟩, stV⟩
  have F2 : Found ST "coder" "B" fC P.U := ⟨SBG.found_only al ⟨cfC, kC, iC, gC⟩, stC⟩
  have hA : Ch b A P.U := ⟨⟨K.1, State.isArrayOf_alike al K.2.1, K.2.2, by omega⟩, hty⟩
  have hS : StaticIs P.U ST "COMPACT_STRINGS" "Z" (.int z) := by
    obtain ⟨cfS, iS, kS, fS, st, cS, t1, t2, t3, t4, t5, t6, t7⟩ := S
    exact StaticIs.there (s := { Z with heap := P.U.heap }) ⟨cfS, iS, kS, fS, st, cS, t1, t2, t3, t4, t5, (fun q => by rw [q] at t6; cases t6), t7⟩ al rfl
  obtain ⟨v, B, X', ⟨⟨hv, E', V', q1, q2, q3, q4, q5, q6, q7, q8, q9, q10, q11⟩, hl, hc, hs⟩, st⟩ := New1.pays x D fV fC b A z (tab_of (moved hZ hw)) hfr hlo m meth c P g ig mk _ X hg hsize hdg hW hn ⟨r1, r2, rfl, hB, F1, F2, hA, hS, hz, l0, l2, hp⟩
  have al' : Z.vm.Alike B.U.vm := hZ.alike.trans X'.warmed.alike
  have hsz : E'.slots.size = D.slots.size := by
    obtain ⟨-, -, -, kB, w1, w2, w3⟩ := q1
    obtain ⟨kB', y1, y2⟩ := al'.2.2 _ _ e3
    rw [q2.2.1] at w1
    cases w1.symm.trans y1
    rw [w3, e5 i3, y2]
  refine ⟨v, B, X', ⟨_, ⟨hv, ?_, ⟨by omega, fun y cy hy hn' => q10 y cy (by simpa using hn') hy, fun y cy hy => ?_⟩, q11, ⟨E', _, q1.1, by rw [q2.2.1]; exact e2, by rw [q2.2.1]; exact e3, by rw [q2.1]; exact obV, fun _ => by rw [hsz]; exact e5 i3⟩,
    ⟨E', cfV, kV, iV, fV, q1.1, gV, stV, by rw [q2.1]; exact knV, by rw [q2.1]; exact obV, by rw [q2.2.1]; exact asV, q3⟩, ⟨E', cfC, kC, iC, fC, q1.1, gC, stC, by rw [q2.1]; exact knV, by rw [q2.1]; exact obV, by rw [q2.2.1]; exact asC, q4⟩,
    ⟨V', ⟨q5.1, State.isArrayOf_alike al'.symm q5.2.1, q5.2.2.1⟩, q6, by rw [← al'.findClass]; exact q7, q8, fun j hj => by have := q9 j hj; rwa [Nat.zero_add] at this⟩, fun O n d w F n1 n2 => ?_⟩, hl, hc, hs⟩, st⟩
  · intro y hy
    simp only [List.mem_cons, List.not_mem_nil, or_false] at hy
    rcases hy with rfl | rfl <;> rfl
  · by_cases q : y = x
    · subst q
      cases hD.symm.trans hy
      exact ⟨E', q1.1, q2.2.1, q2.1, hsz⟩
    · exact ⟨cy, q10 y cy q hy, rfl, rfl, rfl⟩
  · obtain ⟨D3, cf, k, i, f, g1, g2, g3, g4, g5, g6, g7⟩ := F
    cases hD.symm.trans g1
    simp only [RoadKit.slotOf, g2, gV, gC, Option.map_some, Option.getD_some] at n1 n2
    exact ⟨E', cf, k, i, f, q1.1, g2, g3, by rw [q2.1]; exact g4, by rw [q2.1]; exact g5, by rw [q2.2.1]; exact g6, by rw [q2.2.2 f.slot (by simp [n1, n2])]; exact g7⟩
end StrChars.Road
namespace StrChars.Road
open Jvm Sem ClassFile Op Lib Jvm.Stand Jvm.Free Jvm.Free.XT
/-- WHAT COMES BACK, the byte[] as a list of values -/
def QA (Z : State) (x : Addr) (zn : Int32) (cs : List Int32) (h : Heap) (v : Option Value) (h' : Heap) (L : List Loc) : Prop := v = none ∧ (∀ y ∈ L, y.base = x) ∧ RoadKit.Keep h h' [x] ∧ h'.size = h.size + 1 ∧ RoadKit.Exa Z h' x ST ∧ RoadKit.Fld Z h' x ST "value" "[B" (.ref h.size) ∧ RoadKit.Fld Z h' x ST "coder" "B" (.int 0) ∧
  (∃ kb, Z.vm.findClass "[B" = some kb ∧ RoadKit.Arv Z h' h.size kb .byte zn (cs.map fun c => .int (lo8 c)) (.int 0)) ∧
  ∀ (O n d : String) (w : Value), RoadKit.Fld Z h x O n d w → RoadKit.slotOf Z O n d ≠ RoadKit.slotOf Z ST "value" "[B" → RoadKit.slotOf Z O n d ≠ RoadKit.slotOf Z ST "coder" "B" → RoadKit.Fld Z h' x O n d w
/-- **new String(chars) AT A CALL, THE ARRAYS AS LISTS**: the char[] at b holds cs, not empty, no char above 255 -/
theorem backArv {p : Program} {l : Launch} {e : Env} {R : Room} {s : State} {args : Array Value} {below : List Frame} {len W : Nat} {Z : State} {a0 : Array Value} {h : Heap} (hZ : Z.Warmed39 s.vm) (hw : ∀ d ∈ words, d.before a0 Z = true) {kI : Nat} (wi : (Jvm.Cond.instantiable ST kI).before a0 Z = true)
    {x b : Addr} {k : ClassId} {zn z : Int32} {cs : List Int32} {dv v0 c0 : Value} (E : RoadKit.Exa Z h x ST) (V : RoadKit.Fld Z h x ST "value" "[B" v0) (C : RoadKit.Fld Z h x ST "coder" "B" c0) (K : RoadKit.Arv Z h b k .char zn (cs.map Value.int) dv) (S : RoadKit.Sta Z h ST "COMPACT_STRINGS" "Z" (.int z)) (hz : ¬ z = 0)
    (hlen : zn.toNatClampNeg = cs.length) (h0 : 0 < cs.length) (hbig : cs.length ≤ 536870912) (hall : ∀ c ∈ cs, ¬ 255 < c) (hfr : 4 ≤ R.frames) (hlo : W + 65 ≤ R.locals) :
    Back l R p e below s args New1.yN len W (fun P a => a = #[.ref x, .ref b] ∧ P.U.heap = h ∧ P.cells + 1 ≤ R.cells ∧ P.slots + cs.length ≤ R.slots)
      (fun P _ v B => ∃ L, QA Z x zn cs h v B.U.heap L ∧ B.locs = P.locs ++ L ∧ B.cells = P.cells + 1 ∧ B.slots = P.slots + cs.length) := by
  obtain ⟨A, K1, K2, K3, K4, K5, K6⟩ := K
  have e : A.slots.size = cs.length := K3.trans hlen
  have hat : ∀ (i : Nat) (hi : i < cs.length), A.slots[i]? = some (.int cs[i]) := fun i hi => by rw [K5 i (by omega)]; simp [List.getD_eq_getElem?_getD, hi]
  have hcv : ∀ (i : Nat) (hi : i < cs.length), cv A i = cs[i] := fun i hi => by unfold cv; rw [hat i hi]
  have hty : Typed .char A := fun i v hv => by
    have hi : i < A.slots.size := (Array.getElem?_eq_some_iff.mp hv).1
    have q := K5 i hi
    rw [hv] at q
    rw [Option.some.inj q]
    exact K6 i hi
  refine Back.mono (back hZ hw wi E V C K1 hty S hz (by omega) (by omega) (fun i hi => by rw [hcv i (by omega)]; exact hall _ (List.getElem_mem _)) hfr hlo) (fun P a hp => ⟨hp.1, hp.2.1, hp.2.2.1, by rw [e]; exact hp.2.2.2⟩) (fun P a v B hp hq => ?_)
  obtain ⟨L, ⟨q1, q2, q3, q4, q5, q6, q7, ⟨V', v1, v2, v3, v4, v5⟩, q9⟩, hl, hc, hs⟩ := hq
  refine ⟨L, ⟨q1, q2, q3, q4, q5, q6, q7, ⟨V'.cls, v3, V', v1, rfl, by rw [v4, e, hlen], K4, fun i hi => ?_, fun i hi => ?_⟩, q9⟩, hl, hc, by rw [hs, e]⟩
  · have hi' : i < cs.length := by omega
    rw [v5 i (by omega), hcv i hi']; simp [List.getD_eq_getElem?_getD, hi']
  · have hi' : i < cs.length := by omega
    simp only [List.getD_eq_getElem?_getD, List.getElem?_map, List.getElem?_eq_getElem hi', Option.map_some, Option.getD_some]
    exact fits_lo8 _
end StrChars.Road
namespace StrChars.Road
open Jvm Sem ClassFile Op Lib Jvm.Stand Jvm.Free Jvm.Free.XT
/-- WHAT COMES BACK, in the writer's own shape -/
def QV (Z : State) (x : Addr) (N : Int32) (bs : List Int32) (h : Heap) (n0 : Nat) (v : Option Value) (h' : Heap) (L : List Loc) : Prop := v = none ∧ RoadKit.Fr n0 L ∧ RoadKit.Keep h h' [x] ∧ RoadKit.Exa Z h' x ST ∧ RoadKit.Fld Z h' x ST "coder" "B" (.int 0) ∧
  ∃ (t : Addr) (kb : ClassId), n0 ≤ t ∧ h.size ≤ t ∧ ¬ t = x ∧ RoadKit.Fld Z h' x ST "value" "[B" (.ref t) ∧ RoadKit.Arv Z h' t kb .byte N (bs.map Value.int) (.int 0)
/-- **new String(chars) AT A CALL, FOR THE WRITER**: a char[] of n known ints, each 0 to 255 -/
theorem backV {p : Program} {l : Launch} {e : Env} {R : Room} {s : State} {args : Array Value} {below : List Frame} {len W : Nat} {Z : State} {a0 : Array Value} {h : Heap} (hZ : Z.Warmed39 s.vm) (hw : ∀ d ∈ words, d.before a0 Z = true) {kI : Nat} (wi : (Jvm.Cond.instantiable ST kI).before a0 Z = true)
    {x b : Addr} {kC : ClassId} {cs bs : List Int32} {d v0 c0 : Value} {z N : Int32} {n n0 : Nat} (hx0 : n0 ≤ x) (hh0 : n0 ≤ h.size) (E : RoadKit.Exa Z h x ST) (V : RoadKit.Fld Z h x ST "value" "[B" v0) (C : RoadKit.Fld Z h x ST "coder" "B" c0) (K : RoadKit.Arv Z h b kC .char N (cs.map Value.int) d) (S : RoadKit.Sta Z h ST "COMPACT_STRINGS" "Z" (.int z)) (hz : ¬ z = 0)
    (hn : cs.length = n) (hN : N = Int32.ofNat n) (l0 : 0 < n) (l2 : n ≤ 4000) (hp : ∀ c ∈ cs, ¬ c < 0 ∧ ¬ (255 : Int32) < c) (hb : bs = cs.map (fun c => c.toInt8.toInt32)) (hfr : 4 ≤ R.frames) (hlo : W + 65 ≤ R.locals) :
    Back l R p e below s args (⟨"java/lang/String", "<init>", "([C)V"⟩ : MethodName) len W (fun P a => a = #[.ref x, .ref b] ∧ P.U.heap = h ∧ P.cells + 1 ≤ R.cells ∧ P.slots + n ≤ R.slots)
      (fun P _ v B => ∃ L, QV Z x N bs h n0 v B.U.heap L ∧ B.locs = P.locs ++ L ∧ B.cells = P.cells + 1 ∧ B.slots = P.slots + n) := by
  subst hn hN hb
  refine Back.mono (backArv hZ hw wi E V C K S hz (n32 (by omega)) l0 (by omega) (fun c hc => (hp c hc).2) hfr hlo) (fun P a hp => hp) (fun P a v B hp hq => ?_)
  obtain ⟨L, ⟨q1, q2, q3, q4, q5, q6, q7, ⟨kb, v1, v2⟩, q9⟩, hl, hc, hs⟩ := hq
  exact ⟨L, ⟨q1, fun y hy => by rw [q2 y hy]; exact hx0, q3, q5, q7, h.size, kb, hh0, Nat.le_refl _, Nat.ne_of_gt E.lt, q6, by rw [List.map_map]; exact v2⟩, hl, hc, hs⟩
end StrChars.Road
namespace StrChars
open Jvm Sem ClassFile Op Lib Jvm.Stand Jvm.Free.XT Jvm.Free.ALB Jvm.Free.JM Jvm.Free
open Jvm.Lib.Cold (StaticIs)
def hi8 (x : Int32) : Int32 := lo8 (x >>> ((8 : Int32) &&& 31))
/-- what StringUTF16.getChar makes of two bytes -/
def pairCh (u v : Int32) : Int32 := (((u &&& 255) <<< ((0 : Int32) &&& 31)) ||| ((v &&& 255) <<< ((8 : Int32) &&& 31))).toUInt32.toUInt16.toUInt32.toInt32
theorem lo8_and (x : Int32) : (lo8 x &&& 255).toBitVec.toNat = x.toBitVec.toNat % 256 := by
  have h : (lo8 x).toBitVec = (x.toBitVec.signExtend 8).signExtend 32 := by rw [lo8, Int8.toBitVec_toInt32, Int32.toBitVec_toInt8]
  rw [Int32.toBitVec_and, BitVec.toNat_and, h]
  have e : ((x.toBitVec.signExtend 8).signExtend 32).toNat % 256 = x.toBitVec.toNat % 256 := by
    rw [BitVec.toNat_signExtend]
    have hlt := x.toBitVec.isLt
    simp only [BitVec.toNat_setWidth, BitVec.toNat_signExtend]
    split <;> split <;> omega
  rw [← e]
  exact Nat.and_two_pow_sub_one_eq_mod _ 8
theorem pair_says {c : Int32} (h0 : ¬ c < 0) (h1 : ¬ 65535 < c) : pairCh (lo8 c) (hi8 c) = c := by
  rw [Int32.lt_iff_toInt_lt] at h0 h1
  have e0 : (0 : Int32).toInt = 0 := rfl
  have e1 : (65535 : Int32).toInt = 65535 := rfl
  have hc : c.toInt = c.toBitVec.toNat := by
    have := c.toBitVec.isLt
    have e : c.toInt = c.toBitVec.toInt := rfl
    rw [e] at h0 h1
    rw [e]
    rw [BitVec.toInt_eq_toNat_cond] at h0 h1 ⊢
    split at h0 <;> split <;> omega
  have hn : c.toBitVec.toNat < 65536 := by omega
  have a1 := lo8_and c
  have a2 : (hi8 c &&& 255).toBitVec.toNat = c.toBitVec.toNat / 256 := by
    rw [hi8, lo8_and]
    have e : ((8 : Int32) &&& 31) = 8 := by decide
    rw [e, Int32.toBitVec_shiftRight]
    have e2 : ((8 : Int32).toBitVec.smod 32) = 8#32 := by decide
    rw [e2, BitVec.sshiftRight_eq', BitVec.toNat_sshiftRight_of_msb_false (by rw [BitVec.msb_eq_false_iff_two_mul_lt]; omega)]
    show c.toBitVec.toNat >>> 8 % 256 = _
    rw [Nat.shiftRight_eq_div_pow]
    omega
  unfold pairCh
  apply Int32.toBitVec_inj.mp
  apply BitVec.eq_of_toNat_eq
  have f0 : ((0 : Int32) &&& 31) = 0 := by decide
  have f8 : ((8 : Int32) &&& 31) = 8 := by decide
  rw [f0, f8]
  have g : (((lo8 c &&& 255) <<< (0 : Int32)) ||| ((hi8 c &&& 255) <<< (8 : Int32))).toBitVec.toNat = c.toBitVec.toNat := by
    rw [Int32.toBitVec_or, Int32.toBitVec_shiftLeft, Int32.toBitVec_shiftLeft]
    have s0 : ((0 : Int32).toBitVec.smod 32) = 0#32 := by decide
    have s8 : ((8 : Int32).toBitVec.smod 32) = 8#32 := by decide
    rw [s0, s8, BitVec.toNat_or]
    simp only [BitVec.shiftLeft_eq', BitVec.toNat_shiftLeft, a1, a2]
    show (c.toBitVec.toNat % 256) <<< 0 % 2 ^ 32 ||| (c.toBitVec.toNat / 256) <<< 8 % 2 ^ 32 = _
    rw [Nat.shiftLeft_zero, Nat.mod_eq_of_lt (show c.toBitVec.toNat % 256 < 2 ^ 32 by omega), Nat.mod_eq_of_lt (show (c.toBitVec.toNat / 256) <<< 8 < 2 ^ 32 by rw [Nat.shiftLeft_eq]; omega), Nat.or_comm, ← Nat.shiftLeft_add_eq_or_of_lt (by omega), Nat.shiftLeft_eq]
    omega
  show BitVec.toNat (((((lo8 c &&& 255) <<< (0 : Int32)) ||| ((hi8 c &&& 255) <<< (8 : Int32))).toBitVec.setWidth 16).setWidth 32) = _
  rw [BitVec.toNat_setWidth, BitVec.toNat_setWidth, g]
  omega
end StrChars
namespace StrChars
open Jvm Sem ClassFile Op Lib Jvm.Stand Jvm.Free.XT Jvm.Free.ALB Jvm.Free.JM Jvm.Free
open Jvm.Lib.Cold (StaticIs)
/-- charAt's cast of a byte read back -/
def chr8 (u : Int32) : Int32 := (u &&& 255).toUInt32.toUInt16.toUInt32.toInt32
theorem chr8_lo8 {c : Int32} (h0 : ¬ c < 0) (h1 : ¬ 255 < c) : chr8 (lo8 c) = c := by
  have t : ∀ k : Fin 256, (Int32.ofNat k.val).toUInt32.toUInt16.toUInt32.toInt32 = Int32.ofNat k.val := by decide +kernel
  unfold chr8
  rw [lo8_mask h0 h1]
  rw [Int32.lt_iff_toInt_lt] at h0 h1
  have e0 : (0 : Int32).toInt = 0 := rfl
  have e1 : (255 : Int32).toInt = 255 := rfl
  obtain ⟨k, hk⟩ : ∃ k : Nat, c.toInt = k := ⟨c.toInt.toNat, by omega⟩
  have hx : c = Int32.ofNat k := Int32.toInt_inj.mp (by rw [hk, Int32.toInt_ofNat_small (by omega)])
  rw [hx]
  exact t ⟨k, by omega⟩
theorem narrow_ch {c : Int32} (h0 : ¬ c < 0) (h1 : ¬ 65535 < c) : narrow .char (.int c) = .int c := by
  have q : narrow .char (.int (pairCh (lo8 c) (hi8 c))) = .int (pairCh (lo8 c) (hi8 c)) := narrow_c _
  rwa [pair_says h0 h1] at q
/-- the array's cell V codes the n chars f 0 .. f (n - 1) by the coder cd, as the JDK does: coder 1 just where some char is above 255 -/
def Cod (cd : Int32) (n : Nat) (f : Nat → Int32) (V : Cell) : Prop := (cd = 0 ∧ V.slots.size = n ∧ ∀ j, j < n → V.slots[j]? = some (.int (lo8 (f j))) ∧ ¬ 255 < f j) ∨ (cd = 1 ∧ V.slots.size = 2 * n ∧ (∀ j, j < n → V.slots[2 * j]? = some (.int (lo8 (f j))) ∧ V.slots[2 * j + 1]? = some (.int (hi8 (f j)))) ∧ ∃ j, j < n ∧ 255 < f j)
theorem Cod.cd {cd : Int32} {n : Nat} {f : Nat → Int32} {V : Cell} (h : Cod cd n f V) : cd = 0 ∨ cd = 1 := h.imp (fun q => q.1) fun q => q.1
/-- **x is a String of the n chars f 0 .. f (n - 1)**, Latin-1 or UTF-16; its array at t has the cell V -/
def Txt (x t : Addr) (V : Cell) (cd : Int32) (n : Nat) (f : Nat → Int32) (U : State) : Prop := Exact "java/lang/String" x U ∧ Has x "java/lang/String" "value" "[B" (.ref t) U ∧ Has x "java/lang/String" "coder" "B" (.int cd) U ∧ XT.Arr .byte t V U ∧ Cod cd n f V ∧ ∀ j, j < n → ¬ f j < 0 ∧ ¬ 65535 < f j
theorem Txt.mv {x t : Addr} {V : Cell} {cd : Int32} {n : Nat} {f : Nat → Int32} {U U' : State} (h : Txt x t V cd n f U) (hal : U.vm.Alike U'.vm) (hh : U'.heap = U.heap) : Txt x t V cd n f U' := ⟨h.1.mv hal hh, h.2.1.mv hal hh, h.2.2.1.mv hal hh, h.2.2.2.1.mv hal hh, h.2.2.2.2⟩
namespace IsL
def yN : MethodName := ⟨"java/lang/String", "isLatin1", "()Z"⟩
abbrev yB : ByteArray := jdk_42_method_154_code
theorem d0 : decode yB 0 = .ok (.getstatic 38, 3) := by decide +kernel
theorem d3 : decode yB 3 = .ok (.ifCond (.eq) 14, 3) := by decide +kernel
theorem d6 : decode yB 6 = .ok (.aload_n 0, 1) := by decide +kernel
theorem d7 : decode yB 7 = .ok (.getfield 15, 3) := by decide +kernel
theorem d10 : decode yB 10 = .ok (.ifCond (.ne) 7, 3) := by decide +kernel
theorem d13 : decode yB 13 = .ok (.iconst 1, 1) := by decide +kernel
theorem d14 : decode yB 14 = .ok (.goto 4, 3) := by decide +kernel
theorem d17 : decode yB 17 = .ok (.iconst 0, 1) := by decide +kernel
theorem d18 : decode yB 18 = .ok (.ireturn, 1) := by decide +kernel
def site : List Cond := [.fieldLink "java/lang/String" 38 "java/lang/String" "COMPACT_STRINGS" "Z", .fieldLink "java/lang/String" 15 "java/lang/String" "coder" "B"]
def tab : Cond := tabOf yN yB 1 (some .boolean) site
def P (x : Addr) (cd z : Int32) (args : Array Value) (s : State) : Prop := args = #[.ref x] ∧ Has x "java/lang/String" "coder" "B" (.int cd) s ∧ (cd = 0 ∨ cd = 1) ∧ StaticIs s "java/lang/String" "COMPACT_STRINGS" "Z" (.int z) ∧ ¬ z = 0
def E (cd : Int32) (r : Option Value) (s u : State) : Prop := XT.PureE (some (.int (1 - cd))) r s u
theorem law (l : Launch) (x : Addr) (cd z : Int32) : Law l yN 1 0 0 0 yB 1 (some .boolean) site (P x cd z) (E cd) [] 0 0 := by
  refine Law.of_walk (plainFor_of_name (by decide +kernel)) (by decide +kernel) (by decide +kernel) (by decide) (fun _ _ h => by rw [h.1]; rfl) (fun _ U U' hal hh h => ⟨h.1, h.2.1.mv hal hh, h.2.2.1, h.2.2.2.1.there hal hh, h.2.2.2.2⟩) (fun r U U' V V' h1 hal h2 h => XT.PureE.mv r U U' V V' h1 hal h2 h) ?_
  intro p e s m args below meth c s₁ X0 hexec hbytes hml hret hlk hnm hown hh0 W hP
  obtain ⟨rfl, hx, hc, s1, hz⟩ := hP
  have c1 : Steps p.tables e below (s₁.setTop (entryFrame m #[.ref x] 1)) (s₁.setTop (mkF m 0 #[.val (.ref x)] [])) := entry rfl
  obtain ⟨T2, X2, q2, st2⟩ := X0.sget hexec hown (wk W (.fieldLink "java/lang/String" 38 "java/lang/String" "COMPACT_STRINGS" "Z")) s1 (fun _ _ h => by rw [hh0]; exact h) (g := (mkF m 0 #[.val (.ref x)] [])) rfl (hb hbytes d0)
  have hh2 := q2.trans hh0
  have c3 : Steps p.tables e below (s₁.setTop (entryFrame m #[.ref x] 1)) (T2.setTop (mkF m 7 #[.val (.ref x)] [.ref x])) := (c1.trans (st2 _ (Steps.refl _))).trans (by
    refine XS.ifNo X2.here hexec rfl (hb hbytes d3) rfl (i0_eq_f hz) ?_
    refine XS.aloadN X2.here hexec rfl (hb hbytes d6) rfl rfl ?_
    exact Steps.refl _)
  obtain ⟨T4, X4, q4, st4⟩ := X2.hget hexec hown (wk W (.fieldLink "java/lang/String" 15 "java/lang/String" "coder" "B")) (hx.mv X2.warmed.alike hh2) (g := (mkF m 7 #[.val (.ref x)] [.ref x])) rfl (rest := []) rfl (hb hbytes d7)
  have c5 : Steps p.tables e below (s₁.setTop (entryFrame m #[.ref x] 1)) (T4.setTop (mkF m 10 #[.val (.ref x)] [.int cd])) := c3.trans (st4 _ (Steps.refl _))
  have c6 : Steps p.tables e below (s₁.setTop (entryFrame m #[.ref x] 1)) (T4.setTop (mkF m 18 #[.val (.ref x)] [.int (1 - cd)])) := by
    rcases hc with rfl | rfl
    · exact c5.trans (by
        refine XS.ifNo X4.here hexec rfl (hb hbytes d10) rfl (i0_ne_f rfl) ?_
        refine iconstV X4.here hexec rfl 1 (hb hbytes d13) (by decide) ?_
        refine XS.goto X4.here hexec rfl (pc0 := 14) rfl (hb hbytes d14) (by decide) rfl ?_
        exact Steps.refl _)
    · exact c5.trans (by
        refine XS.ifYes X4.here hexec rfl (pc0 := 10) rfl (hb hbytes d10) rfl (i0_ne_t (by decide)) (by decide) rfl ?_
        refine iconstV X4.here hexec rfl 0 (hb hbytes d17) (by decide) ?_
        exact Steps.refl _)
  exact ⟨T4, some (.int (1 - cd)), _, _, _, X4, rfl, rfl, rfl, (fun h => by cases h), ⟨rfl, q4.trans hh2⟩, fun fs hl => c6.trans (X4.ireturnOut hexec hret (by rcases hc with rfl | rfl <;> rfl) (Or.inr (Or.inl rfl)) (hb hbytes d18) hl)⟩
end IsL
namespace LChA
def yN : MethodName := ⟨"java/lang/StringLatin1", "charAt", "([BI)C"⟩
abbrev yB : ByteArray := jdk_43_method_2_code
theorem d0 : decode yB 0 = .ok (.iload_n 1, 1) := by decide +kernel
theorem d1 : decode yB 1 = .ok (.aload_n 0, 1) := by decide +kernel
theorem d2 : decode yB 2 = .ok (.arraylength, 1) := by decide +kernel
theorem d3 : decode yB 3 = .ok (.invokestatic 9, 3) := by decide +kernel
theorem d6 : decode yB 6 = .ok (.aload_n 0, 1) := by decide +kernel
theorem d7 : decode yB 7 = .ok (.iload_n 1, 1) := by decide +kernel
theorem d8 : decode yB 8 = .ok (.baload, 1) := by decide +kernel
theorem d9 : decode yB 9 = .ok (.sipush 255, 3) := by decide +kernel
theorem d12 : decode yB 12 = .ok (.iand, 1) := by decide +kernel
theorem d13 : decode yB 13 = .ok (.i2c, 1) := by decide +kernel
theorem d14 : decode yB 14 = .ok (.ireturn, 1) := by decide +kernel
def site : List Cond := [JO.Str_checkIndex.tab] ++ staticW "java/lang/StringLatin1" 9 JO.Str_checkIndex.yN
def tab : Cond := tabOf yN yB 2 (some .char) site
def P (t : Addr) (V : Cell) (i : Nat) (u : Int32) (fm : Value) (args : Array Value) (s : State) : Prop := args = #[.ref t, .int (Int32.ofNat i)] ∧ XT.Arr .byte t V s ∧ V.slots[i]? = some (.int u) ∧ (StaticIs s "jdk/internal/util/Preconditions" "SIOOBE_FORMATTER" "Ljava/util/function/BiFunction;" fm ∧ fm.isRef = true)
def E (u : Int32) (r : Option Value) (s w : State) : Prop := XT.PureE (some (.int (chr8 u))) r s w
theorem law (l : Launch) (t : Addr) (V : Cell) (i : Nat) (u : Int32) (fm : Value) : Law l yN 2 2 2 27 yB 2 (some .char) site (P t V i u fm) (E u) [] 0 0 := by
  refine Law.of_walk (plainFor_of_name (by decide +kernel)) (by decide +kernel) (by decide +kernel) (by decide) (fun _ _ h => by rw [h.1]; rfl) (fun _ U U' hal hh h => ⟨h.1, h.2.1.mv hal hh, h.2.2.1, h.2.2.2.1.there hal hh, h.2.2.2.2⟩) (fun r U U' V V' h1 hal h2 h => XT.PureE.mv r U U' V V' h1 hal h2 h) ?_
  intro p e s m args below meth c s₁ X0 hexec hbytes hml hret hlk hnm hown hh0 W hP
  obtain ⟨rfl, hV, hu, s1, rf⟩ := hP
  have v31 := hV.2.2.2
  have hi : i < V.slots.size := (Array.getElem?_eq_some_iff.mp hu).1
  have c1 : Steps p.tables e below (s₁.setTop (entryFrame m #[.ref t, .int (Int32.ofNat i)] 2)) (s₁.setTop (mkF m 0 #[.val (.ref t), .val (.int (Int32.ofNat i))] [])) := entry rfl
  have c2 : Steps p.tables e below (s₁.setTop (entryFrame m #[.ref t, .int (Int32.ofNat i)] 2)) (s₁.setTop (mkF m 3 #[.val (.ref t), .val (.int (Int32.ofNat i))] [.int (Int32.ofNat V.slots.size), .int (Int32.ofNat i)])) := c1.trans (by
    refine XS.iloadN X0.here hexec rfl (hb hbytes d0) rfl ?_
    refine XS.aloadN X0.here hexec rfl (hb hbytes d1) rfl rfl ?_
    refine X0.alen hexec (hV.mv X0.warmed.alike hh0) rfl rfl (hb hbytes d2) ?_
    exact Steps.refl _)
  obtain ⟨v3, T3, X3, E3, g3⟩ := X0.callS hexec (JO.Str_checkIndex.law l (Int32.ofNat i) (Int32.ofNat V.slots.size) fm) hown (wks W (staticW "java/lang/StringLatin1" 9 JO.Str_checkIndex.yN)) (wk W JO.Str_checkIndex.tab) (W := 0) (Nat.le_of_ble_eq_true rfl) (Nat.le_of_ble_eq_true rfl) (Nat.le_refl _) (Nat.le_refl _) (g := (mkF m 3 #[.val (.ref t), .val (.int (Int32.ofNat i))] [.int (Int32.ofNat V.slots.size), .int (Int32.ofNat i)])) rfl (by rw [hml]; rfl) c2 (argsL := [.int (Int32.ofNat i), .int (Int32.ofNat V.slots.size)]) (rest := []) rfl rfl (by show 2 * 0 + 0 ≤ _; decide) (hb hbytes d3) (⟨rfl, rf, s1.there X0.warmed.alike hh0, Int32.ofNat_not_neg (by omega), lt32 v31 hi⟩)
  obtain ⟨rfl, q3⟩ := E3
  have hh3 := q3.trans hh0
  have c4 : Steps p.tables e below (s₁.setTop (entryFrame m #[.ref t, .int (Int32.ofNat i)] 2)) (T3.setTop (mkF m 14 #[.val (.ref t), .val (.int (Int32.ofNat i))] [.int (chr8 u)])) := Steps.trans g3 (by
    refine XS.aloadN X3.here hexec rfl (hb hbytes d6) rfl rfl ?_
    refine XS.iloadN X3.here hexec rfl (hb hbytes d7) rfl ?_
    refine X3.aget hexec (hV.mv X3.warmed.alike hh3) rfl hu rfl rfl (hb hbytes d8) ?_
    refine sipushV X3.here hexec rfl 255 (hb hbytes d9) (by decide) ?_
    refine XS.iand X3.here hexec rfl (hb hbytes d12) rfl ?_
    refine i2c X3.here hexec rfl (hb hbytes d13) rfl ?_
    exact Steps.refl _)
  exact ⟨T3, some (.int (chr8 u)), _, _, _, X3, rfl, rfl, rfl, (fun h => by cases h), ⟨rfl, hh3⟩, fun fs hl => c4.trans (X3.ireturnOut hexec hret (narrow_c _) (Or.inr (Or.inr (Or.inr (Or.inl rfl)))) (hb hbytes d14) hl)⟩
end LChA
end StrChars
namespace StrChars.Road
open Jvm Sem ClassFile Op Lib Jvm.Stand Jvm.Free Jvm.Free.XT
open Jvm.Lib.Cold (StaticIs)
theorem consq {a : Array Value} {s : State} {c : Jvm.Cond} {L : List Jvm.Cond} (h0 : c.before a s = true) (h : ∀ w ∈ L, w.before a s = true) : ∀ w ∈ c :: L, w.before a s = true := fun w hw => (List.mem_cons.mp hw).elim (fun e => e ▸ h0) (h w)
/-- the bytes of the chars cs, low before high -/
def wideBytes : List Int32 → List Value
  | [] => []
  | c :: cs => .int (lo8 c) :: .int (hi8 c) :: wideBytes cs
theorem wide_lo (d : Value) : ∀ (cs : List Int32) (j : Nat), j < cs.length → (wideBytes cs).getD (2 * j) d = .int (lo8 (cs.getD j 0))
  | [], j, h => absurd h (Nat.not_lt_zero j)
  | c :: cs, 0, _ => rfl
  | c :: cs, j + 1, h => by
    have q := wide_lo d cs j (by simpa using h)
    rw [show 2 * (j + 1) = 2 * j + 1 + 1 from by omega]
    simpa [wideBytes] using q
theorem wide_hi (d : Value) : ∀ (cs : List Int32) (j : Nat), j < cs.length → (wideBytes cs).getD (2 * j + 1) d = .int (hi8 (cs.getD j 0))
  | [], j, h => absurd h (Nat.not_lt_zero j)
  | c :: cs, 0, _ => rfl
  | c :: cs, j + 1, h => by
    have q := wide_hi d cs j (by simpa using h)
    rw [show 2 * (j + 1) + 1 = 2 * j + 1 + 1 + 1 from by omega]
    simpa [wideBytes] using q
theorem low_at (d : Value) (cs : List Int32) (j : Nat) (h : j < cs.length) : (cs.map fun c => Value.int (lo8 c)).getD j d = .int (lo8 (cs.getD j 0)) := by
  simp [List.getD_eq_getElem?_getD, h]
/-- an array of N2 bytes vs codes the chars cs by the coder cd -/
def CodA (cs : List Int32) (cd N2 : Int32) (vs : List Value) : Prop := (cd = 0 ∧ N2 = Int32.ofNat cs.length ∧ vs = (cs.map fun c => Value.int (lo8 c)) ∧ ∀ c ∈ cs, ¬ 255 < c) ∨ (cd = 1 ∧ N2 = Int32.ofNat (2 * cs.length) ∧ vs = wideBytes cs ∧ ∃ c ∈ cs, 255 < c)
theorem CodA.cod {cs : List Int32} {cd N2 : Int32} {vs : List Value} {V : Cell} (h : CodA cs cd N2 vs) (hn : 2 * cs.length < 2 ^ 31) (hs : V.slots.size = N2.toNatClampNeg) (hv : RoadKit.Has V vs (.int 0)) : Cod cd cs.length (fun j => cs.getD j 0) V := by
  rcases h with ⟨rfl, rfl, rfl, h⟩ | ⟨rfl, rfl, rfl, c, hc, hw⟩
  · rw [n32 (by omega)] at hs
    exact Or.inl ⟨rfl, hs, fun j hj => ⟨by rw [hv j (by omega), low_at _ _ _ hj], by
      have e : cs.getD j 0 = cs[j] := by simp [List.getD_eq_getElem?_getD, hj]
      show ¬ 255 < cs.getD j 0
      rw [e]; exact h _ (List.getElem_mem _)⟩⟩
  · rw [n32 (by omega)] at hs
    obtain ⟨j, hj, rfl⟩ := List.getElem_of_mem hc
    exact Or.inr ⟨rfl, hs, fun j hj => ⟨by rw [hv _ (by omega), wide_lo _ _ _ hj], by rw [hv _ (by omega), wide_hi _ _ _ hj]⟩, j, hj, by
      have e : cs.getD j 0 = cs[j] := by simp [List.getD_eq_getElem?_getD, hj]
      show 255 < cs.getD j 0
      rw [e]; exact hw⟩
/-- an object of exactly java/lang/String, its two fields found: as the laws ask it -/
theorem strObj {Z U : State} {a0 : Array Value} {kI : Nat} (wi : (Jvm.Cond.instantiable ST kI).before a0 Z = true) (al : Z.vm.Alike U.vm) {x : Addr} {v0 c0 : Value} (E : RoadKit.Exa Z U.heap x ST) (V : RoadKit.Fld Z U.heap x ST "value" "[B" v0) (C : RoadKit.Fld Z U.heap x ST "coder" "B" c0) :
    ∃ (D : Cell) (fV fC : Field), Blank ST x D U ∧ Found ST "value" "[B" fV U ∧ Found ST "coder" "B" fC U ∧ D.slots[fV.slot]? = some v0 ∧ D.slots[fC.slot]? = some c0 ∧ RoadKit.slotOf Z ST "value" "[B" = fV.slot ∧ RoadKit.slotOf Z ST "coder" "B" = fC.slot := by
  obtain ⟨D, cfV, kV, iV, fV, hD, gV, stV, knV, obV, asV, slV⟩ := V
  obtain ⟨D', cfC, kC, iC, fC, hD', gC, stC, -, -, asC, slC⟩ := C
  cases hD.symm.trans hD'
  obtain ⟨D2, kD, e1, e2, e3, e4, e5⟩ := E
  cases hD.symm.trans e1
  obtain ⟨c2, k2, i1, i2, i3, -⟩ := Cond.instantiable_spec wi
  cases e2.symm.trans i1
  cases e3.symm.trans i2
  obtain ⟨kU, u1, u2⟩ := al.2.2 _ _ e3
  exact ⟨D, fV, fC, ⟨hD, ⟨knV, fun q hq => by rw [hq] at obV; cases obV⟩, by rw [al.findClass]; exact e2, kU, u1, by rw [u2]; exact i3, by rw [u2]; exact e5 i3⟩, ⟨SBG.found_only al ⟨cfV, kV, iV, gV⟩, stV⟩, ⟨SBG.found_only al ⟨cfC, kC, iC, gC⟩, stC⟩, slV, slC, by simp [RoadKit.slotOf, gV], by simp [RoadKit.slotOf, gC]⟩
theorem sta_is {Z U : State} (al : Z.vm.Alike U.vm) {C n d : String} {v : Value} (S : RoadKit.Sta Z U.heap C n d v) : StaticIs U C n d v := by
  obtain ⟨cfS, iS, kS, fS, st, cS, t1, t2, t3, t4, t5, t6, t7⟩ := S
  exact StaticIs.there (s := { Z with heap := U.heap }) ⟨cfS, iS, kS, fS, st, cS, t1, t2, t3, t4, t5, (fun q => by rw [q] at t6; cases t6), t7⟩ al rfl
end StrChars.Road
namespace StrChars
open Jvm Sem ClassFile Op Lib Jvm.Stand Jvm.Free.XT Jvm.Free.ALB Jvm.Free.JM Jvm.Free
open Jvm.Lib.Cold (StaticIs)
/-- what place i of a byte[]'s cell holds -/
def yv (A : Cell) (i : Nat) : Int32 := match A.slots[i]? with | some (.int x) => x | _ => 0
theorem yv_get {a : Addr} {A : Cell} {U : State} (h : XT.Arr .byte a A U) (ht : Typed .byte A) {i : Nat} (hi : i < A.slots.size) : A.slots[i]? = some (.int (yv A i)) := by
  have e := Array.getElem?_eq_getElem hi
  have f := ht i _ e
  unfold yv; rw [e]
  generalize A.slots[i] = v at f
  cases v <;> simp [fits] at f ⊢
/-- the two arrays are equal, place for place -/
def EqC (A B : Cell) : Prop := A.slots.size = B.slots.size ∧ ∀ i, i < A.slots.size → yv A i = yv B i
/-- a boolean that says whether p -/
def Says01 (q : Prop) (r : Option Value) (s u : State) : Prop := ∃ v : Int32, r = some (.int v) ∧ u.heap = s.heap ∧ ((v = 1 ∧ q) ∨ (v = 0 ∧ ¬ q))
theorem Says01.mv {q : Prop} : ∀ r (U U' V V' : State), U'.heap = U.heap → V.vm.Alike V'.vm → V'.heap = V.heap → Says01 q r U V → Says01 q r U' V' :=
  fun r U U' V V' h1 _ h2 ⟨v, a, b, c⟩ => ⟨v, a, by rw [h1, h2]; exact b, c⟩
namespace LEq
def yN : MethodName := ⟨"java/lang/StringLatin1", "equals", "([B[B)Z"⟩
abbrev yB : ByteArray := jdk_43_method_13_code
theorem d0 : decode yB 0 = .ok (.aload_n 0, 1) := by decide +kernel
theorem d1 : decode yB 1 = .ok (.arraylength, 1) := by decide +kernel
theorem d2 : decode yB 2 = .ok (.aload_n 1, 1) := by decide +kernel
theorem d3 : decode yB 3 = .ok (.arraylength, 1) := by decide +kernel
theorem d4 : decode yB 4 = .ok (.if_icmp (.ne) 30, 3) := by decide +kernel
theorem d7 : decode yB 7 = .ok (.iconst 0, 1) := by decide +kernel
theorem d8 : decode yB 8 = .ok (.istore_n 2, 1) := by decide +kernel
theorem d9 : decode yB 9 = .ok (.iload_n 2, 1) := by decide +kernel
theorem d10 : decode yB 10 = .ok (.aload_n 0, 1) := by decide +kernel
theorem d11 : decode yB 11 = .ok (.arraylength, 1) := by decide +kernel
theorem d12 : decode yB 12 = .ok (.if_icmp (.ge) 20, 3) := by decide +kernel
theorem d15 : decode yB 15 = .ok (.aload_n 0, 1) := by decide +kernel
theorem d16 : decode yB 16 = .ok (.iload_n 2, 1) := by decide +kernel
theorem d17 : decode yB 17 = .ok (.baload, 1) := by decide +kernel
theorem d18 : decode yB 18 = .ok (.aload_n 1, 1) := by decide +kernel
theorem d19 : decode yB 19 = .ok (.iload_n 2, 1) := by decide +kernel
theorem d20 : decode yB 20 = .ok (.baload, 1) := by decide +kernel
theorem d21 : decode yB 21 = .ok (.if_icmp (.eq) 5, 3) := by decide +kernel
theorem d24 : decode yB 24 = .ok (.iconst 0, 1) := by decide +kernel
theorem d25 : decode yB 25 = .ok (.ireturn, 1) := by decide +kernel
theorem d26 : decode yB 26 = .ok (.iinc 2 1, 3) := by decide +kernel
theorem d29 : decode yB 29 = .ok (.goto (-20), 3) := by decide +kernel
theorem d32 : decode yB 32 = .ok (.iconst 1, 1) := by decide +kernel
theorem d33 : decode yB 33 = .ok (.ireturn, 1) := by decide +kernel
theorem d34 : decode yB 34 = .ok (.iconst 0, 1) := by decide +kernel
theorem d35 : decode yB 35 = .ok (.ireturn, 1) := by decide +kernel
def site : List Cond := []
def tab : Cond := tabOf yN yB 3 (some .boolean) site
def P (a : Addr) (A : Cell) (b : Addr) (B : Cell) (args : Array Value) (s : State) : Prop := args = #[.ref a, .ref b] ∧ XT.Arr .byte a A s ∧ Typed .byte A ∧ XT.Arr .byte b B s ∧ Typed .byte B
/-- whether two byte[] are equal, place for place -/
theorem law (l : Launch) (a : Addr) (A : Cell) (b : Addr) (B : Cell) : Law l yN 2 2 0 0 yB 3 (some .boolean) site (P a A b B) (Says01 (EqC A B)) [] 0 0 := by
  refine Law.of_walk (plainFor_of_name (by decide +kernel)) (by decide +kernel) (by decide +kernel) (by decide) (fun _ _ h => by rw [h.1]; rfl) (fun _ U U' hal hh h => ⟨h.1, h.2.1.mv hal hh, h.2.2.1, h.2.2.2.1.mv hal hh, h.2.2.2.2⟩) (fun r U U' V V' h1 hal h2 h => Says01.mv r U U' V V' h1 hal h2 h) ?_
  intro p e s m args below meth c s₁ X0 hexec hbytes hml hret hlk hnm hown hh0 W hP
  obtain ⟨rfl, hA, tA, hB, tB⟩ := hP
  have a31 := hA.2.2.2
  have b31 := hB.2.2.2
  have hA0 := hA.mv X0.warmed.alike hh0
  have hB0 := hB.mv X0.warmed.alike hh0
  have c1 : Steps p.tables e below (s₁.setTop (entryFrame m #[.ref a, .ref b] 3)) (s₁.setTop (mkF m 0 #[.val (.ref a), .val (.ref b), .unset] [])) := entry rfl
  have c2 : Steps p.tables e below (s₁.setTop (entryFrame m #[.ref a, .ref b] 3)) (s₁.setTop (mkF m 4 #[.val (.ref a), .val (.ref b), .unset] [.int (Int32.ofNat B.slots.size), .int (Int32.ofNat A.slots.size)])) := c1.trans (by
    refine XS.aloadN X0.here hexec rfl (hb hbytes d0) rfl rfl ?_
    refine X0.alen hexec hA0 rfl rfl (hb hbytes d1) ?_
    refine XS.aloadN X0.here hexec rfl (hb hbytes d2) rfl rfl ?_
    refine X0.alen hexec hB0 rfl rfl (hb hbytes d3) ?_
    exact Steps.refl _)
  by_cases hs : A.slots.size = B.slots.size
  · have c3 : Steps p.tables e below (s₁.setTop (entryFrame m #[.ref a, .ref b] 3)) (s₁.setTop (mkF m 9 #[.val (.ref a), .val (.ref b), .val (.int 0)] [])) := c2.trans (by
      refine XS.icmpNo X0.here hexec rfl (hb hbytes d4) rfl (ii_ne_f (by rw [hs])) ?_
      refine iconstV X0.here hexec rfl 0 (hb hbytes d7) (by decide) ?_
      refine XS.istoreN X0.here hexec rfl (hb hbytes d8) rfl rfl ?_
      exact Steps.refl _)
    have loop : ∀ (r i : Nat), i + r = A.slots.size → (∀ j, j < i → yv A j = yv B j) → Steps p.tables e below (s₁.setTop (entryFrame m #[.ref a, .ref b] 3)) (s₁.setTop (mkF m 9 #[.val (.ref a), .val (.ref b), .val (.int (Int32.ofNat i))] [])) → ∃ (pc : Nat) (Ls : Array Slot) (v : Int32), (pc = 25 ∨ pc = 33) ∧ ((v = 1 ∧ EqC A B) ∨ (v = 0 ∧ ¬ EqC A B)) ∧ Steps p.tables e below (s₁.setTop (entryFrame m #[.ref a, .ref b] 3)) (s₁.setTop (mkF m pc Ls [.int v])) := by
      intro r
      induction r with
      | zero =>
        intro i hi he cl
        exact ⟨33, _, 1, Or.inr rfl, Or.inl ⟨rfl, hs, fun j hj => he j (by omega)⟩, cl.trans (by
          refine XS.iloadN X0.here hexec rfl (hb hbytes d9) rfl ?_
          refine XS.aloadN X0.here hexec rfl (hb hbytes d10) rfl rfl ?_
          refine X0.alen hexec hA0 rfl rfl (hb hbytes d11) ?_
          refine XS.icmpYes X0.here hexec rfl (pc0 := 12) rfl (hb hbytes d12) rfl (ii_ge_t (nlt32 (by omega) (by omega))) (by decide) rfl ?_
          refine iconstV X0.here hexec rfl 1 (hb hbytes d32) (by decide) ?_
          exact Steps.refl _)⟩
      | succ r ih =>
        intro i hi he cl
        have c4 : Steps p.tables e below (s₁.setTop (entryFrame m #[.ref a, .ref b] 3)) (s₁.setTop (mkF m 21 #[.val (.ref a), .val (.ref b), .val (.int (Int32.ofNat i))] [.int (yv B i), .int (yv A i)])) := cl.trans (by
          refine XS.iloadN X0.here hexec rfl (hb hbytes d9) rfl ?_
          refine XS.aloadN X0.here hexec rfl (hb hbytes d10) rfl rfl ?_
          refine X0.alen hexec hA0 rfl rfl (hb hbytes d11) ?_
          refine XS.icmpNo X0.here hexec rfl (hb hbytes d12) rfl (ii_ge_f (lt32 (by omega) (by omega))) ?_
          refine XS.aloadN X0.here hexec rfl (hb hbytes d15) rfl rfl ?_
          refine XS.iloadN X0.here hexec rfl (hb hbytes d16) rfl ?_
          refine X0.aget hexec hA0 rfl (yv_get hA tA (i := i) (by omega)) rfl rfl (hb hbytes d17) ?_
          refine XS.aloadN X0.here hexec rfl (hb hbytes d18) rfl rfl ?_
          refine XS.iloadN X0.here hexec rfl (hb hbytes d19) rfl ?_
          refine X0.aget hexec hB0 rfl (yv_get hB tB (i := i) (by omega)) rfl rfl (hb hbytes d20) ?_
          exact Steps.refl _)
        by_cases hv : yv A i = yv B i
        · have c5 : Steps p.tables e below (s₁.setTop (entryFrame m #[.ref a, .ref b] 3)) (s₁.setTop (mkF m 9 #[.val (.ref a), .val (.ref b), .val (.int (Int32.ofNat i + 1))] [])) := c4.trans (by
            refine XS.icmpYes X0.here hexec rfl (pc0 := 21) rfl (hb hbytes d21) rfl (ii_eq_t hv) (by decide) rfl ?_
            refine iincV X0.here hexec rfl 1 (hb hbytes d26) (by decide) rfl rfl ?_
            refine XS.goto X0.here hexec rfl (pc0 := 29) rfl (hb hbytes d29) (by decide) rfl ?_
            exact Steps.refl _)
          rw [succ32] at c5
          exact ih (i + 1) (by omega) (fun j hj => by
            by_cases e : j = i
            · rw [e]; exact hv
            · exact he j (by omega)) c5
        · exact ⟨25, _, 0, Or.inl rfl, Or.inr ⟨rfl, fun q => hv (q.2 i (by omega))⟩, c4.trans (by
            refine XS.icmpNo X0.here hexec rfl (hb hbytes d21) rfl (ii_eq_f hv) ?_
            refine iconstV X0.here hexec rfl 0 (hb hbytes d24) (by decide) ?_
            exact Steps.refl _)⟩
    obtain ⟨pc, Ls, v, hpc, hv, cz⟩ := loop A.slots.size 0 (by omega) (fun j hj => absurd hj (Nat.not_lt_zero j)) c3
    have nv : narrow .boolean (.int v) = .int v := by rcases hv with ⟨rfl, -⟩ | ⟨rfl, -⟩ <;> rfl
    rcases hpc with rfl | rfl
    · exact ⟨s₁, some (.int v), _, _, _, X0, rfl, rfl, rfl, (fun h => by cases h), ⟨v, rfl, hh0, hv⟩, fun fs hl => cz.trans (X0.ireturnOut hexec hret nv (Or.inr (Or.inl rfl)) (hb hbytes d25) hl)⟩
    · exact ⟨s₁, some (.int v), _, _, _, X0, rfl, rfl, rfl, (fun h => by cases h), ⟨v, rfl, hh0, hv⟩, fun fs hl => cz.trans (X0.ireturnOut hexec hret nv (Or.inr (Or.inl rfl)) (hb hbytes d33) hl)⟩
  · have c3 : Steps p.tables e below (s₁.setTop (entryFrame m #[.ref a, .ref b] 3)) (s₁.setTop (mkF m 35 #[.val (.ref a), .val (.ref b), .unset] [.int 0])) := c2.trans (by
      refine XS.icmpYes X0.here hexec rfl (pc0 := 4) rfl (hb hbytes d4) rfl (ii_ne_t (ne32 a31 b31 hs)) (by decide) rfl ?_
      refine iconstV X0.here hexec rfl 0 (hb hbytes d34) (by decide) ?_
      exact Steps.refl _)
    exact ⟨s₁, some (.int 0), _, _, _, X0, rfl, rfl, rfl, (fun h => by cases h), ⟨0, rfl, hh0, Or.inr ⟨rfl, fun q => hs q.1⟩⟩, fun fs hl => c3.trans (X0.ireturnOut hexec hret rfl (Or.inr (Or.inl rfl)) (hb hbytes d35) hl)⟩
end LEq
theorem Cod.ty {cd : Int32} {n : Nat} {f : Nat → Int32} {V : Cell} (h : Cod cd n f V) : Typed .byte V := fun i v hv => by
  have hi : i < V.slots.size := (Array.getElem?_eq_some_iff.mp hv).1
  rcases h with ⟨-, k1, k2⟩ | ⟨-, k1, k2, -⟩
  · rw [(k2 i (by omega)).1] at hv; cases hv; exact fits_lo8 _
  · rcases Nat.mod_two_eq_zero_or_one i with e | e
    · obtain ⟨j, rfl⟩ : ∃ j, i = 2 * j := ⟨i / 2, by omega⟩
      rw [(k2 j (by omega)).1] at hv; cases hv; exact fits_lo8 _
    · obtain ⟨j, rfl⟩ : ∃ j, i = 2 * j + 1 := ⟨i / 2, by omega⟩
      rw [(k2 j (by omega)).2] at hv; cases hv; exact fits_lo8 _
/-- the same text -/
def SameT (n : Nat) (f : Nat → Int32) (k : Nat) (g : Nat → Int32) : Prop := n = k ∧ ∀ j, j < n → f j = g j
theorem lo8_inj {x y : Int32} (h0 : ¬ x < 0) (h1 : ¬ 255 < x) (k0 : ¬ y < 0) (k1 : ¬ 255 < y) (h : lo8 x = lo8 y) : x = y := by
  rw [← lo8_mask h0 h1, ← lo8_mask k0 k1, h]
/-- arrays coded by one coder are equal just where the texts are -/
theorem Cod.eqv {cd : Int32} {n k : Nat} {f g : Nat → Int32} {V V' : Cell} (h : Cod cd n f V) (h' : Cod cd k g V') (hf : ∀ j, j < n → ¬ f j < 0 ∧ ¬ 65535 < f j) (hg : ∀ j, j < k → ¬ g j < 0 ∧ ¬ 65535 < g j) : EqC V V' ↔ SameT n f k g := by
  have yvv : ∀ {W : Cell} {i : Nat} {x : Int32}, W.slots[i]? = some (.int x) → yv W i = x := fun q => by unfold yv; rw [q]
  rcases h with ⟨rfl, k1, k2⟩ | ⟨rfl, k1, k2, -⟩
  · rcases h' with ⟨-, m1, m2⟩ | ⟨e, -⟩
    · constructor
      · rintro ⟨e1, e2⟩
        refine ⟨by omega, fun j hj => ?_⟩
        have q := e2 j (by omega)
        rw [yvv (k2 j hj).1, yvv (m2 j (by omega)).1] at q
        exact lo8_inj (hf j hj).1 (k2 j hj).2 (hg j (by omega)).1 (m2 j (by omega)).2 q
      · rintro ⟨rfl, e2⟩
        refine ⟨by omega, fun j hj => ?_⟩
        rw [yvv (k2 j (by omega)).1, yvv (m2 j (by omega)).1, e2 j (by omega)]
    · exact absurd e (by decide)
  · rcases h' with ⟨e, -⟩ | ⟨-, m1, m2, -⟩
    · exact absurd e (by decide)
    · constructor
      · rintro ⟨e1, e2⟩
        refine ⟨by omega, fun j hj => ?_⟩
        have q1 := e2 (2 * j) (by omega)
        have q2 := e2 (2 * j + 1) (by omega)
        rw [yvv (k2 j hj).1, yvv (m2 j (by omega)).1] at q1
        rw [yvv (k2 j hj).2, yvv (m2 j (by omega)).2] at q2
        rw [← pair_says (hf j hj).1 (hf j hj).2, ← pair_says (hg j (by omega)).1 (hg j (by omega)).2, q1, q2]
      · rintro ⟨rfl, e2⟩
        refine ⟨by omega, fun i hi => ?_⟩
        rcases Nat.mod_two_eq_zero_or_one i with e | e
        · obtain ⟨j, rfl⟩ : ∃ j, i = 2 * j := ⟨i / 2, by omega⟩
          rw [yvv (k2 j (by omega)).1, yvv (m2 j (by omega)).1, e2 j (by omega)]
        · obtain ⟨j, rfl⟩ : ∃ j, i = 2 * j + 1 := ⟨i / 2, by omega⟩
          rw [yvv (k2 j (by omega)).2, yvv (m2 j (by omega)).2, e2 j (by omega)]
/-- two codings differ: so do the texts -/
theorem Cod.dif {cd cd' : Int32} {n k : Nat} {f g : Nat → Int32} {V V' : Cell} (h : Cod cd n f V) (h' : Cod cd' k g V') (hne : ¬ cd = cd') : ¬ SameT n f k g := by
  rintro ⟨rfl, e⟩
  rcases h with ⟨rfl, -, k2⟩ | ⟨rfl, -, -, j, hj, hw⟩
  · rcases h' with ⟨rfl, -⟩ | ⟨-, -, -, j, hj, hw⟩
    · exact hne rfl
    · exact (k2 j hj).2 (by rw [e j hj]; exact hw)
  · rcases h' with ⟨-, -, m2⟩ | ⟨rfl, -⟩
    · exact (m2 j hj).2 (by rw [← e j hj]; exact hw)
    · exact hne rfl
/-- an object of exactly C is an instance of C -/
theorem cinst {p : Program} {l : Launch} {e : Env} {R : Room} {s : State} {m : MethodId} {args : Array Value} {below : List Frame} {meth : Method} {c : Code} {T : State} {locs : List Loc} {cells slots : Nat} (X : Stand p l e R s m args below meth c T locs cells slots) (hexec : p.tables.exec = Jvm.exec) {own C : String} {index : Nat} (hown : s.vm.findClass own = some m.cls) (hlink : (Cond.classLink own index C).before args s = true) {a : Addr} (hE : Exact C a T)
    {g : JFrame} (hg : g.method = m) {rest : List Value} (hstack : g.stack = .ref a :: rest) (hdg : decode c.code g.pc = .ok (.instanceof index, 3)) :
    ∃ T', Stand p l e R s m args below meth c T' locs cells slots ∧ T'.heap = T.heap ∧ ∀ target, Steps p.tables e below (T'.setTop { g with pc := g.pc + 3, stack := .int 1 :: rest }) target → Steps p.tables e below (T.setTop g) target := by
  obtain ⟨cB, h1, D, h2, h3, h4⟩ := hE
  have h1' : s.vm.findClass C = some cB := by rw [← X.warmed.alike.findClass]; exact h1
  obtain ⟨vm', X', st⟩ := X.instanceofYes hexec hown hlink h2 h4 h1' (by rw [h3]; exact Jvm.Free.SB.assignable_self _ _) hg hstack hdg
  exact ⟨_, X', rfl, st⟩
theorem cself {p : Program} {l : Launch} {e : Env} {R : Room} {s : State} {m : MethodId} {args : Array Value} {below : List Frame} {meth : Method} {c : Code} {T : State} {locs : List Loc} {cells slots : Nat} (X : Stand p l e R s m args below meth c T locs cells slots) (hexec : p.tables.exec = Jvm.exec) {own C : String} {index : Nat} (hown : s.vm.findClass own = some m.cls) (hlink : (Cond.classLink own index C).before args s = true) {a : Addr} (hE : Exact C a T)
    {g : JFrame} (hg : g.method = m) {rest : List Value} (hstack : g.stack = .ref a :: rest) (hdg : decode c.code g.pc = .ok (.checkcast index, 3)) :
    ∃ T', Stand p l e R s m args below meth c T' locs cells slots ∧ T'.heap = T.heap ∧ ∀ target, Steps p.tables e below (T'.setTop { g with pc := g.pc + 3, stack := .ref a :: rest }) target → Steps p.tables e below (T.setTop g) target := by
  obtain ⟨cB, h1, D, h2, h3, h4⟩ := hE
  have h1' : s.vm.findClass C = some cB := by rw [← X.warmed.alike.findClass]; exact h1
  obtain ⟨vm', X', st⟩ := X.checkcastYes hexec hown hlink h2 h4 h1' (by rw [h3]; exact Jvm.Free.SB.assignable_self _ _) hg hstack hdg
  exact ⟨_, X', rfl, fun t h => st t (by rw [← hstack] at h; exact h)⟩
namespace SEq
def yN : MethodName := ⟨"java/lang/String", "equals", "(Ljava/lang/Object;)Z"⟩
abbrev yB : ByteArray := jdk_42_method_66_code
theorem d0 : decode yB 0 = .ok (.aload_n 0, 1) := by decide +kernel
theorem d1 : decode yB 1 = .ok (.aload_n 1, 1) := by decide +kernel
theorem d2 : decode yB 2 = .ok (.if_acmp (.ne) 5, 3) := by decide +kernel
theorem d5 : decode yB 5 = .ok (.iconst 1, 1) := by decide +kernel
theorem d6 : decode yB 6 = .ok (.ireturn, 1) := by decide +kernel
theorem d7 : decode yB 7 = .ok (.aload_n 1, 1) := by decide +kernel
theorem d8 : decode yB 8 = .ok (.instanceof 10, 3) := by decide +kernel
theorem d11 : decode yB 11 = .ok (.ifCond (.eq) 43, 3) := by decide +kernel
theorem d14 : decode yB 14 = .ok (.aload_n 1, 1) := by decide +kernel
theorem d15 : decode yB 15 = .ok (.checkcast 10, 3) := by decide +kernel
theorem d18 : decode yB 18 = .ok (.astore_n 2, 1) := by decide +kernel
theorem d19 : decode yB 19 = .ok (.getstatic 38, 3) := by decide +kernel
theorem d22 : decode yB 22 = .ok (.ifCond (.eq) 14, 3) := by decide +kernel
theorem d25 : decode yB 25 = .ok (.aload_n 0, 1) := by decide +kernel
theorem d26 : decode yB 26 = .ok (.getfield 15, 3) := by decide +kernel
theorem d29 : decode yB 29 = .ok (.aload_n 2, 1) := by decide +kernel
theorem d30 : decode yB 30 = .ok (.getfield 15, 3) := by decide +kernel
theorem d33 : decode yB 33 = .ok (.if_icmp (.ne) 21, 3) := by decide +kernel
theorem d36 : decode yB 36 = .ok (.aload_n 0, 1) := by decide +kernel
theorem d37 : decode yB 37 = .ok (.getfield 9, 3) := by decide +kernel
theorem d40 : decode yB 40 = .ok (.aload_n 2, 1) := by decide +kernel
theorem d41 : decode yB 41 = .ok (.getfield 9, 3) := by decide +kernel
theorem d44 : decode yB 44 = .ok (.invokestatic 541, 3) := by decide +kernel
theorem d47 : decode yB 47 = .ok (.ifCond (.eq) 7, 3) := by decide +kernel
theorem d50 : decode yB 50 = .ok (.iconst 1, 1) := by decide +kernel
theorem d51 : decode yB 51 = .ok (.goto 4, 3) := by decide +kernel
theorem d54 : decode yB 54 = .ok (.iconst 0, 1) := by decide +kernel
theorem d55 : decode yB 55 = .ok (.ireturn, 1) := by decide +kernel
def site : List Cond := [.classLink "java/lang/String" 10 "java/lang/String", .fieldLink "java/lang/String" 38 "java/lang/String" "COMPACT_STRINGS" "Z", .fieldLink "java/lang/String" 15 "java/lang/String" "coder" "B", .fieldLink "java/lang/String" 9 "java/lang/String" "value" "[B", LEq.tab] ++ staticW "java/lang/String" 541 LEq.yN
def tab : Cond := tabOf yN yB 3 (some .boolean) site
def P (x t : Addr) (V : Cell) (cd : Int32) (n : Nat) (f : Nat → Int32) (y t' : Addr) (V' : Cell) (cd' : Int32) (k : Nat) (g : Nat → Int32) (z : Int32) (args : Array Value) (s : State) : Prop := args = #[.ref x, .ref y] ∧ Txt x t V cd n f s ∧ Txt y t' V' cd' k g s ∧ StaticIs s "java/lang/String" "COMPACT_STRINGS" "Z" (.int z) ∧ ¬ z = 0
/-- equals(Object) of two Strings: whether the texts are the same -/
theorem law (l : Launch) (x t : Addr) (V : Cell) (cd : Int32) (n : Nat) (f : Nat → Int32) (y t' : Addr) (V' : Cell) (cd' : Int32) (k : Nat) (g : Nat → Int32) (z : Int32) : Law l yN 2 1 1 14 yB 3 (some .boolean) site (P x t V cd n f y t' V' cd' k g z) (Says01 (SameT n f k g)) [] 0 0 := by
  refine Law.of_walk (plainFor_of_name (by decide +kernel)) (by decide +kernel) (by decide +kernel) (by decide) (fun _ _ h => by rw [h.1]; rfl) (fun _ U U' hal hh h => ⟨h.1, h.2.1.mv hal hh, h.2.2.1.mv hal hh, h.2.2.2.1.there hal hh, h.2.2.2.2⟩) (fun r U U' V V' h1 hal h2 h => Says01.mv r U U' V V' h1 hal h2 h) ?_
  intro p e s m args below meth c s₁ X0 hexec hbytes hml hret hlk hnm hown hh0 W hP
  obtain ⟨rfl, hx, hy, s1, hz⟩ := hP
  have c1 : Steps p.tables e below (s₁.setTop (entryFrame m #[.ref x, .ref y] 3)) (s₁.setTop (mkF m 2 #[.val (.ref x), .val (.ref y), .unset] [.ref y, .ref x])) := Steps.trans (entry rfl) (by
    show Steps p.tables e below (s₁.setTop (mkF m 0 #[.val (.ref x), .val (.ref y), .unset] [])) _
    refine XS.aloadN X0.here hexec rfl (hb hbytes d0) rfl rfl ?_
    refine XS.aloadN X0.here hexec rfl (hb hbytes d1) rfl rfl ?_
    exact Steps.refl _)
  by_cases hxy : x = y
  · have c2 : Steps p.tables e below (s₁.setTop (entryFrame m #[.ref x, .ref y] 3)) (s₁.setTop (mkF m 6 #[.val (.ref x), .val (.ref y), .unset] [.int 1])) := c1.trans (by
      refine acmpNo X0.here hexec rfl (hb hbytes d2) rfl rfl rfl (by simp [acmp, hxy]) ?_
      refine iconstV X0.here hexec rfl 1 (hb hbytes d5) (by decide) ?_
      exact Steps.refl _)
    subst hxy
    have ec : cd = cd' := by
      obtain ⟨D, fd, a1, a2, a3⟩ := hx.2.2.1
      obtain ⟨D', fd', b1, b2, b3⟩ := hy.2.2.1
      cases a1.symm.trans b1
      obtain ⟨q1, q2, q3, q4⟩ := a2.1
      obtain ⟨r1, r2, r3, r4⟩ := b2.1
      cases q4.symm.trans r4
      cases a3.symm.trans b3; rfl
    have et : t = t' := by
      obtain ⟨D, fd, a1, a2, a3⟩ := hx.2.1
      obtain ⟨D', fd', b1, b2, b3⟩ := hy.2.1
      cases a1.symm.trans b1
      obtain ⟨q1, q2, q3, q4⟩ := a2.1
      obtain ⟨r1, r2, r3, r4⟩ := b2.1
      cases q4.symm.trans r4
      cases a3.symm.trans b3; rfl
    subst ec et
    have ev : V = V' := by cases hx.2.2.2.1.1.symm.trans hy.2.2.2.1.1; rfl
    subst ev
    have hs : SameT n f k g := (Cod.eqv hx.2.2.2.2.1 hy.2.2.2.2.1 hx.2.2.2.2.2 hy.2.2.2.2.2).mp ⟨rfl, fun _ _ => rfl⟩
    exact ⟨s₁, some (.int 1), _, _, _, X0, rfl, rfl, rfl, (fun h => by cases h), ⟨1, rfl, hh0, Or.inl ⟨rfl, hs⟩⟩, fun fs hl => c2.trans (X0.ireturnOut hexec hret rfl (Or.inr (Or.inl rfl)) (hb hbytes d6) hl)⟩
  · have c2 : Steps p.tables e below (s₁.setTop (entryFrame m #[.ref x, .ref y] 3)) (s₁.setTop (mkF m 8 #[.val (.ref x), .val (.ref y), .unset] [.ref y])) := c1.trans (by
      refine acmpYes X0.here hexec rfl (pc0 := 2) rfl (hb hbytes d2) rfl rfl rfl (by simp [acmp, hxy]) (by decide) rfl ?_
      refine XS.aloadN X0.here hexec rfl (hb hbytes d7) rfl rfl ?_
      exact Steps.refl _)
    obtain ⟨T3, X3, q3, st3⟩ := cinst X0 hexec hown (wk W (.classLink "java/lang/String" 10 "java/lang/String")) (hy.mv X0.warmed.alike hh0).1 (g := (mkF m 8 #[.val (.ref x), .val (.ref y), .unset] [.ref y])) rfl (rest := []) rfl (hb hbytes d8)
    have hh3 := q3.trans hh0
    have c4 : Steps p.tables e below (s₁.setTop (entryFrame m #[.ref x, .ref y] 3)) (T3.setTop (mkF m 15 #[.val (.ref x), .val (.ref y), .unset] [.ref y])) := (c2.trans (st3 _ (Steps.refl _))).trans (by
      refine XS.ifNo X3.here hexec rfl (hb hbytes d11) rfl (i0_eq_f (by decide)) ?_
      refine XS.aloadN X3.here hexec rfl (hb hbytes d14) rfl rfl ?_
      exact Steps.refl _)
    obtain ⟨T5, X5, q5, st5⟩ := cself X3 hexec hown (wk W (.classLink "java/lang/String" 10 "java/lang/String")) (hy.mv X3.warmed.alike hh3).1 (g := (mkF m 15 #[.val (.ref x), .val (.ref y), .unset] [.ref y])) rfl (rest := []) rfl (hb hbytes d15)
    have hh5 := q5.trans hh3
    have c6 : Steps p.tables e below (s₁.setTop (entryFrame m #[.ref x, .ref y] 3)) (T5.setTop (mkF m 19 #[.val (.ref x), .val (.ref y), .val (.ref y)] [])) := (c4.trans (st5 _ (Steps.refl _))).trans (by
      refine XS.astoreN X5.here hexec rfl (hb hbytes d18) rfl rfl rfl ?_
      exact Steps.refl _)
    obtain ⟨T7, X7, q7, st7⟩ := X5.sget hexec hown (wk W (.fieldLink "java/lang/String" 38 "java/lang/String" "COMPACT_STRINGS" "Z")) s1 (fun _ _ h => by rw [hh5]; exact h) (g := (mkF m 19 #[.val (.ref x), .val (.ref y), .val (.ref y)] [])) rfl (hb hbytes d19)
    have hh7 := q7.trans hh5
    have c8 : Steps p.tables e below (s₁.setTop (entryFrame m #[.ref x, .ref y] 3)) (T7.setTop (mkF m 26 #[.val (.ref x), .val (.ref y), .val (.ref y)] [.ref x])) := (c6.trans (st7 _ (Steps.refl _))).trans (by
      refine XS.ifNo X7.here hexec rfl (hb hbytes d22) rfl (i0_eq_f hz) ?_
      refine XS.aloadN X7.here hexec rfl (hb hbytes d25) rfl rfl ?_
      exact Steps.refl _)
    obtain ⟨T9, X9, q9, st9⟩ := X7.hget hexec hown (wk W (.fieldLink "java/lang/String" 15 "java/lang/String" "coder" "B")) (hx.mv X7.warmed.alike hh7).2.2.1 (g := (mkF m 26 #[.val (.ref x), .val (.ref y), .val (.ref y)] [.ref x])) rfl (rest := []) rfl (hb hbytes d26)
    have hh9 := q9.trans hh7
    have c10 : Steps p.tables e below (s₁.setTop (entryFrame m #[.ref x, .ref y] 3)) (T9.setTop (mkF m 30 #[.val (.ref x), .val (.ref y), .val (.ref y)] [.ref y, .int cd])) := (c8.trans (st9 _ (Steps.refl _))).trans (by
      refine XS.aloadN X9.here hexec rfl (hb hbytes d29) rfl rfl ?_
      exact Steps.refl _)
    obtain ⟨T11, X11, q11, st11⟩ := X9.hget hexec hown (wk W (.fieldLink "java/lang/String" 15 "java/lang/String" "coder" "B")) (hy.mv X9.warmed.alike hh9).2.2.1 (g := (mkF m 30 #[.val (.ref x), .val (.ref y), .val (.ref y)] [.ref y, .int cd])) rfl (rest := [.int cd]) rfl (hb hbytes d30)
    have hh11 := q11.trans hh9
    have c12 : Steps p.tables e below (s₁.setTop (entryFrame m #[.ref x, .ref y] 3)) (T11.setTop (mkF m 33 #[.val (.ref x), .val (.ref y), .val (.ref y)] [.int cd', .int cd])) := c10.trans (st11 _ (Steps.refl _))
    by_cases hcd : cd = cd'
    · subst hcd
      have c13 : Steps p.tables e below (s₁.setTop (entryFrame m #[.ref x, .ref y] 3)) (T11.setTop (mkF m 37 #[.val (.ref x), .val (.ref y), .val (.ref y)] [.ref x])) := c12.trans (by
        refine XS.icmpNo X11.here hexec rfl (hb hbytes d33) rfl (ii_ne_f rfl) ?_
        refine XS.aloadN X11.here hexec rfl (hb hbytes d36) rfl rfl ?_
        exact Steps.refl _)
      obtain ⟨T14, X14, q14, st14⟩ := X11.hget hexec hown (wk W (.fieldLink "java/lang/String" 9 "java/lang/String" "value" "[B")) (hx.mv X11.warmed.alike hh11).2.1 (g := (mkF m 37 #[.val (.ref x), .val (.ref y), .val (.ref y)] [.ref x])) rfl (rest := []) rfl (hb hbytes d37)
      have hh14 := q14.trans hh11
      have c15 : Steps p.tables e below (s₁.setTop (entryFrame m #[.ref x, .ref y] 3)) (T14.setTop (mkF m 41 #[.val (.ref x), .val (.ref y), .val (.ref y)] [.ref y, .ref t])) := (c13.trans (st14 _ (Steps.refl _))).trans (by
        refine XS.aloadN X14.here hexec rfl (hb hbytes d40) rfl rfl ?_
        exact Steps.refl _)
      obtain ⟨T16, X16, q16, st16⟩ := X14.hget hexec hown (wk W (.fieldLink "java/lang/String" 9 "java/lang/String" "value" "[B")) (hy.mv X14.warmed.alike hh14).2.1 (g := (mkF m 41 #[.val (.ref x), .val (.ref y), .val (.ref y)] [.ref y, .ref t])) rfl (rest := [.ref t]) rfl (hb hbytes d41)
      have hh16 := q16.trans hh14
      have c17 : Steps p.tables e below (s₁.setTop (entryFrame m #[.ref x, .ref y] 3)) (T16.setTop (mkF m 44 #[.val (.ref x), .val (.ref y), .val (.ref y)] [.ref t', .ref t])) := c15.trans (st16 _ (Steps.refl _))
      obtain ⟨v18, T18, X18, E18, g18⟩ := X16.callS hexec (LEq.law l t V t' V') hown (wks W (staticW "java/lang/String" 541 LEq.yN)) (wk W LEq.tab) (W := 0) (Nat.le_of_ble_eq_true rfl) (Nat.le_of_ble_eq_true rfl) (Nat.le_refl _) (Nat.le_refl _) (g := (mkF m 44 #[.val (.ref x), .val (.ref y), .val (.ref y)] [.ref t', .ref t])) rfl (by rw [hml]; rfl) c17 (argsL := [.ref t, .ref t']) (rest := []) rfl rfl (by show 2 * 0 + 0 ≤ _; decide) (hb hbytes d44) (⟨rfl, hx.2.2.2.1.mv X16.warmed.alike hh16, hx.2.2.2.2.1.ty, hy.2.2.2.1.mv X16.warmed.alike hh16, hy.2.2.2.2.1.ty⟩)
      obtain ⟨v, rfl, q18, hv⟩ := E18
      have iff := Cod.eqv hx.2.2.2.2.1 hy.2.2.2.2.1 hx.2.2.2.2.2 hy.2.2.2.2.2
      rcases hv with ⟨rfl, he⟩ | ⟨rfl, he⟩
      · have c19 : Steps p.tables e below (s₁.setTop (entryFrame m #[.ref x, .ref y] 3)) (T18.setTop (mkF m 55 #[.val (.ref x), .val (.ref y), .val (.ref y)] [.int 1])) := Steps.trans g18 (by
          refine XS.ifNo X18.here hexec rfl (hb hbytes d47) rfl (i0_eq_f (by decide)) ?_
          refine iconstV X18.here hexec rfl 1 (hb hbytes d50) (by decide) ?_
          refine XS.goto X18.here hexec rfl (pc0 := 51) rfl (hb hbytes d51) (by decide) rfl ?_
          exact Steps.refl _)
        exact ⟨T18, some (.int 1), _, _, _, X18, rfl, rfl, rfl, (fun h => by cases h), ⟨1, rfl, q18.trans hh16, Or.inl ⟨rfl, iff.mp he⟩⟩, fun fs hl => c19.trans (X18.ireturnOut hexec hret rfl (Or.inr (Or.inl rfl)) (hb hbytes d55) hl)⟩
      · have c19 : Steps p.tables e below (s₁.setTop (entryFrame m #[.ref x, .ref y] 3)) (T18.setTop (mkF m 55 #[.val (.ref x), .val (.ref y), .val (.ref y)] [.int 0])) := Steps.trans g18 (by
          refine XS.ifYes X18.here hexec rfl (pc0 := 47) rfl (hb hbytes d47) rfl (i0_eq_t rfl) (by decide) rfl ?_
          refine iconstV X18.here hexec rfl 0 (hb hbytes d54) (by decide) ?_
          exact Steps.refl _)
        exact ⟨T18, some (.int 0), _, _, _, X18, rfl, rfl, rfl, (fun h => by cases h), ⟨0, rfl, q18.trans hh16, Or.inr ⟨rfl, fun q => he (iff.mpr q)⟩⟩, fun fs hl => c19.trans (X18.ireturnOut hexec hret rfl (Or.inr (Or.inl rfl)) (hb hbytes d55) hl)⟩
    · have c13 : Steps p.tables e below (s₁.setTop (entryFrame m #[.ref x, .ref y] 3)) (T11.setTop (mkF m 55 #[.val (.ref x), .val (.ref y), .val (.ref y)] [.int 0])) := c12.trans (by
        refine XS.icmpYes X11.here hexec rfl (pc0 := 33) rfl (hb hbytes d33) rfl (ii_ne_t hcd) (by decide) rfl ?_
        refine iconstV X11.here hexec rfl 0 (hb hbytes d54) (by decide) ?_
        exact Steps.refl _)
      exact ⟨T11, some (.int 0), _, _, _, X11, rfl, rfl, rfl, (fun h => by cases h), ⟨0, rfl, hh11, Or.inr ⟨rfl, Cod.dif hx.2.2.2.2.1 hy.2.2.2.2.1 hcd⟩⟩, fun fs hl => c13.trans (X11.ireturnOut hexec hret rfl (Or.inr (Or.inl rfl)) (hb hbytes d55) hl)⟩
theorem pays {l : Launch} {R : Room} {p : Program} {e : Env} {below : List Frame} {s : State} {sargs : Array Value} {len W : Nat} (x t : Addr) (V : Cell) (cd : Int32) (n : Nat) (f : Nat → Int32) (y t' : Addr) (V' : Cell) (cd' : Int32) (k : Nat) (g : Nat → Int32) (z : Int32) (htab : tab.before sargs s = true) (hfr : 2 ≤ R.frames) (hlo : W + 28 ≤ R.locals) :
    Back l R p e below s sargs yN len W (fun A₁ a₁ => A₁.cells + 0 ≤ R.cells ∧ A₁.slots + 0 ≤ R.slots ∧ P x t V cd n f y t' V' cd' k g z a₁ A₁.U) (fun A₁ _ v₁ B₁ => Says01 (SameT n f k g) v₁ A₁.U B₁.U ∧ B₁.locs = A₁.locs ++ [] ∧ B₁.cells = A₁.cells + 0 ∧ B₁.slots = A₁.slots + 0) :=
  (law l x t V cd n f y t' V' cd' k g z).pays htab hfr (by omega)
end SEq
end StrChars
namespace StrChars.Road
open Jvm Sem ClassFile Op Lib Jvm.Stand Jvm.Free Jvm.Free.XT
open Jvm.Lib.Cold (StaticIs)
/-- the words of String.equals(Object) -/
abbrev wordsEq : List Jvm.Cond := [.code SEq.yN SEq.yB 3 (some .boolean), .initialized ST, .classLink ST 10 ST, .fieldLink ST 38 ST "COMPACT_STRINGS" "Z", .fieldLink ST 15 ST "coder" "B", .fieldLink ST 9 ST "value" "[B", .methodLink ST 541 LEq.yN, .static LEq.yN, .code LEq.yN LEq.yB 3 (some .boolean), .initialized "java/lang/StringLatin1"]
theorem tabEq_of {a : Array Value} {s : State} (h : ∀ w ∈ wordsEq, w.before a s = true) : SEq.tab.before a s = true := by
  have hl : LEq.tab.before a s = true := unparts (wk h (.code LEq.yN LEq.yB 3 (some .boolean))) (wks h (.initialized LEq.yN.cls :: LEq.site))
  have q := consq hl h
  exact unparts (wk q (.code SEq.yN SEq.yB 3 (some .boolean))) (wks q (.initialized SEq.yN.cls :: SEq.site))
theorem movedEq {Z s : State} {a0 args : Array Value} (hZ : Z.Warmed39 s.vm) (hw : ∀ d ∈ wordsEq, d.before a0 Z = true) : ∀ d ∈ wordsEq, d.before args s = true := fun d hd => by
  have t : ∀ d ∈ wordsEq, (d.onTables && d.keepsFace) = true := by decide +kernel
  exact RoadKit.mv hZ (hw d hd) (t d hd)
/-- the road's facts of a String, as the laws ask it -/
theorem txt_of {Z U : State} {a0 : Array Value} {kI : Nat} (wi : (Jvm.Cond.instantiable ST kI).before a0 Z = true) (al : Z.vm.Alike U.vm) {x t : Addr} {kb : ClassId} {cs : List Int32} {cd N2 : Int32} {vs : List Value} (E : RoadKit.Exa Z U.heap x ST) (V : RoadKit.Fld Z U.heap x ST "value" "[B" (.ref t)) (C : RoadKit.Fld Z U.heap x ST "coder" "B" (.int cd)) (K : RoadKit.Arv Z U.heap t kb .byte N2 vs (.int 0)) (hc : CodA cs cd N2 vs) (hb : ∀ c ∈ cs, ¬ c < 0 ∧ ¬ (65535 : Int32) < c) (l2 : cs.length ≤ 4000) :
    ∃ A, Txt x t A cd cs.length (fun j => cs.getD j 0) U := by
  obtain ⟨A, K1, K2, K3, K4, K5, K6⟩ := K
  have hcod := hc.cod (by omega) K3 K5
  obtain ⟨D, fV, fC, hB, F1, F2, g1, g2, -, -⟩ := strObj wi al E V C
  exact ⟨A, ⟨_, hB.2.2.1, D, hB.1, rfl, by cases q : D.vm <;> first | rfl | exact absurd q (hB.2.1.2 _)⟩, Has.of hB F1 g1, Has.of hB F2 g2, ⟨K1.1, State.isArrayOf_alike al K1.2.1, K1.2.2, by rcases hcod with ⟨-, q, -⟩ | ⟨-, q, -⟩ <;> omega⟩, hcod, fun j hj => by
    have e : cs.getD j 0 = cs[j] := by simp [List.getD_eq_getElem?_getD, hj]
    show ¬ cs.getD j 0 < 0 ∧ ¬ 65535 < cs.getD j 0
    rw [e]; exact hb _ (List.getElem_mem _)⟩
theorem same_list (cs ds : List Int32) : SameT cs.length (fun j => cs.getD j 0) ds.length (fun j => ds.getD j 0) ↔ cs = ds := by
  constructor
  · rintro ⟨e, q⟩
    refine List.ext_getElem e fun j h1 h2 => ?_
    have := q j h1
    simpa [List.getD_eq_getElem?_getD, h1, h2] using this
  · rintro rfl
    exact ⟨rfl, fun _ _ => rfl⟩
/-- **equals(Object) OF TWO SUCH STRINGS**: 1 just where the chars are the same -/
theorem eqW {p : Program} {l : Launch} {e : Env} {R : Room} {s : State} {args : Array Value} {below : List Frame} {len W : Nat} {Z : State} {a0 : Array Value} {h : Heap} (hZ : Z.Warmed39 s.vm) (hw : ∀ d ∈ wordsEq, d.before a0 Z = true) {kI : Nat} (wi : (Jvm.Cond.instantiable ST kI).before a0 Z = true)
    {x t : Addr} {kb : ClassId} {cs : List Int32} {cd N2 : Int32} {vs : List Value} (E : RoadKit.Exa Z h x ST) (V : RoadKit.Fld Z h x ST "value" "[B" (.ref t)) (C : RoadKit.Fld Z h x ST "coder" "B" (.int cd)) (K : RoadKit.Arv Z h t kb .byte N2 vs (.int 0)) (hc : CodA cs cd N2 vs) (hb : ∀ c ∈ cs, ¬ c < 0 ∧ ¬ (65535 : Int32) < c) (l2 : cs.length ≤ 4000)
    {y t' : Addr} {kb' : ClassId} {ds : List Int32} {cd' N2' : Int32} {vs' : List Value} (E' : RoadKit.Exa Z h y ST) (V' : RoadKit.Fld Z h y ST "value" "[B" (.ref t')) (C' : RoadKit.Fld Z h y ST "coder" "B" (.int cd')) (K' : RoadKit.Arv Z h t' kb' .byte N2' vs' (.int 0)) (hc' : CodA ds cd' N2' vs') (hb' : ∀ c ∈ ds, ¬ c < 0 ∧ ¬ (65535 : Int32) < c) (l2' : ds.length ≤ 4000)
    {z : Int32} (S : RoadKit.Sta Z h ST "COMPACT_STRINGS" "Z" (.int z)) (hz : ¬ z = 0) (hfr : 2 ≤ R.frames) (hlo : W + 28 ≤ R.locals) :
    Back l R p e below s args (⟨"java/lang/String", "equals", "(Ljava/lang/Object;)Z"⟩ : MethodName) len W (fun P a => a = #[.ref x, .ref y] ∧ P.U.heap = h ∧ P.cells + 0 ≤ R.cells ∧ P.slots + 0 ≤ R.slots)
      (fun P _ v B => ∃ L, (((v = some (.int 1) ∧ cs = ds) ∨ (v = some (.int 0) ∧ ¬ cs = ds)) ∧ L = [] ∧ B.U.heap = h) ∧ B.locs = P.locs ++ L ∧ B.cells = P.cells + 0 ∧ B.slots = P.slots + 0) := by
  intro m meth c P g ig mk a X hg hsize hdg hW hn hp'
  obtain ⟨rfl, rfl, r1, r2⟩ := hp'
  have al : Z.vm.Alike P.U.vm := hZ.alike.trans X.warmed.alike
  obtain ⟨A, hx⟩ := txt_of wi al E V C K hc hb l2
  obtain ⟨A', hy⟩ := txt_of wi al E' V' C' K' hc' hb' l2'
  obtain ⟨v, B, X', ⟨⟨w, hv, hh, hq⟩, hl, hk, hs⟩, st⟩ := SEq.pays x t A cd cs.length (fun j => cs.getD j 0) y t' A' cd' ds.length (fun j => ds.getD j 0) z (tabEq_of (movedEq hZ hw)) hfr hlo m meth c P g ig mk _ X hg hsize hdg hW hn ⟨r1, r2, rfl, hx, hy, sta_is al S, hz⟩
  refine ⟨v, B, X', ⟨[], ⟨?_, rfl, hh⟩, hl, hk, hs⟩, st⟩
  rcases hq with ⟨rfl, q⟩ | ⟨rfl, q⟩
  · exact Or.inl ⟨hv, (same_list cs ds).mp q⟩
  · exact Or.inr ⟨hv, fun e => q ((same_list cs ds).mpr e)⟩
end StrChars.Road
namespace StrChars
open Jvm Sem ClassFile Op Lib Jvm.Stand Jvm.Free.XT Jvm.Free.ALB Jvm.Free.JM Jvm.Free
open Jvm.Lib.Cold (StaticIs)
namespace ChN
def yN : MethodName := ⟨"java/lang/String", "charAt", "(I)C"⟩
abbrev yB : ByteArray := jdk_42_method_56_code
theorem d0 : decode yB 0 = .ok (.aload_n 0, 1) := by decide +kernel
theorem d1 : decode yB 1 = .ok (.invokevirtual 492, 3) := by decide +kernel
theorem d4 : decode yB 4 = .ok (.ifCond (.eq) 12, 3) := by decide +kernel
theorem d7 : decode yB 7 = .ok (.aload_n 0, 1) := by decide +kernel
theorem d8 : decode yB 8 = .ok (.getfield 9, 3) := by decide +kernel
theorem d11 : decode yB 11 = .ok (.iload_n 1, 1) := by decide +kernel
theorem d12 : decode yB 12 = .ok (.invokestatic 495, 3) := by decide +kernel
theorem d15 : decode yB 15 = .ok (.ireturn, 1) := by decide +kernel
def site : List Cond := [.fieldLink "java/lang/String" 9 "java/lang/String" "value" "[B", IsL.tab, LChA.tab] ++ virtW "java/lang/String" 492 "java/lang/String" IsL.yN IsL.yN ++ staticW "java/lang/String" 495 LChA.yN
def tab : Cond := tabOf yN yB 2 (some .char) site
def P (x t : Addr) (V : Cell) (n : Nat) (f : Nat → Int32) (z : Int32) (fm : Value) (i : Nat) (args : Array Value) (s : State) : Prop := args = #[.ref x, .int (Int32.ofNat i)] ∧ Txt x t V 0 n f s ∧ i < n ∧ StaticIs s "java/lang/String" "COMPACT_STRINGS" "Z" (.int z) ∧ ¬ z = 0 ∧ StaticIs s "jdk/internal/util/Preconditions" "SIOOBE_FORMATTER" "Ljava/util/function/BiFunction;" fm ∧ fm.isRef = true
def E (f : Nat → Int32) (i : Nat) (r : Option Value) (s u : State) : Prop := XT.PureE (some (.int (f i))) r s u
/-- charAt(i) of a Latin-1 String of n chars, i < n: f i -/
theorem law (l : Launch) (x t : Addr) (V : Cell) (n : Nat) (f : Nat → Int32) (z : Int32) (fm : Value) (i : Nat) : Law l yN 2 1 3 40 yB 2 (some .char) site (P x t V n f z fm i) (E f i) [] 0 0 := by
  refine Law.of_walk (plainFor_of_name (by decide +kernel)) (by decide +kernel) (by decide +kernel) (by decide) (fun _ _ h => by rw [h.1]; rfl) (fun _ U U' hal hh h => ⟨h.1, h.2.1.mv hal hh, h.2.2.1, h.2.2.2.1.there hal hh, h.2.2.2.2.1, h.2.2.2.2.2.1.there hal hh, h.2.2.2.2.2.2⟩) (fun r U U' V V' h1 hal h2 h => XT.PureE.mv r U U' V V' h1 hal h2 h) ?_
  intro p e s m args below meth c s₁ X0 hexec hbytes hml hret hlk hnm hown hh0 W hP
  obtain ⟨rfl, hx, hi, s1, hz, s3, rf⟩ := hP
  have v31 := hx.2.2.2.1.2.2.2
  have hr := hx.2.2.2.2.2 i hi
  have hx0 := hx.mv X0.warmed.alike hh0
  have c1 : Steps p.tables e below (s₁.setTop (entryFrame m #[.ref x, .int (Int32.ofNat i)] 2)) (s₁.setTop (mkF m 1 #[.val (.ref x), .val (.int (Int32.ofNat i))] [.ref x])) := Steps.trans (entry rfl) (by
    show Steps p.tables e below (s₁.setTop (mkF m 0 #[.val (.ref x), .val (.int (Int32.ofNat i))] [])) _
    refine XS.aloadN X0.here hexec rfl (hb hbytes d0) rfl rfl ?_
    exact Steps.refl _)
  obtain ⟨v2, T2, X2, E2, g2⟩ := X0.callV hexec (IsL.law l x 0 z) hown (wks W (virtW "java/lang/String" 492 "java/lang/String" IsL.yN IsL.yN)) rfl (by decide) (wk W IsL.tab) (W := 0) (Nat.le_of_ble_eq_true rfl) (Nat.le_of_ble_eq_true rfl) (Nat.le_refl _) (Nat.le_refl _) (hx0.1.fc X0.warmed.alike) hx0.1.is (g := (mkF m 1 #[.val (.ref x), .val (.int (Int32.ofNat i))] [.ref x])) rfl (by rw [hml]; rfl) c1 (argsL := []) (rest := []) rfl rfl (by show 2 * 0 + 0 ≤ _; decide) (hb hbytes d1) (⟨rfl, hx0.2.2.1, hx.2.2.2.2.1.cd, s1.there X0.warmed.alike hh0, hz⟩)
  obtain ⟨rfl, q2⟩ := E2
  have hh2 := q2.trans hh0
  have hx2 := hx.mv X2.warmed.alike hh2
  obtain ⟨-, k1, k2⟩ | ⟨k0, -⟩ := hx.2.2.2.2.1
  · have c3 : Steps p.tables e below (s₁.setTop (entryFrame m #[.ref x, .int (Int32.ofNat i)] 2)) (T2.setTop (mkF m 8 #[.val (.ref x), .val (.int (Int32.ofNat i))] [.ref x])) := Steps.trans g2 (by
      refine XS.ifNo X2.here hexec rfl (hb hbytes d4) rfl (i0_eq_f (by decide)) ?_
      refine XS.aloadN X2.here hexec rfl (hb hbytes d7) rfl rfl ?_
      exact Steps.refl _)
    obtain ⟨T4, X4, q4, st4⟩ := X2.hget hexec hown (wk W (.fieldLink "java/lang/String" 9 "java/lang/String" "value" "[B")) hx2.2.1 (g := (mkF m 8 #[.val (.ref x), .val (.int (Int32.ofNat i))] [.ref x])) rfl (rest := []) rfl (hb hbytes d8)
    have hh4 := q4.trans hh2
    have c5 : Steps p.tables e below (s₁.setTop (entryFrame m #[.ref x, .int (Int32.ofNat i)] 2)) (T4.setTop (mkF m 12 #[.val (.ref x), .val (.int (Int32.ofNat i))] [.int (Int32.ofNat i), .ref t])) := (c3.trans (st4 _ (Steps.refl _))).trans (by
      refine XS.iloadN X4.here hexec rfl (hb hbytes d11) rfl ?_
      exact Steps.refl _)
    obtain ⟨v6, T6, X6, E6, g6⟩ := X4.callS hexec (LChA.law l t V i (lo8 (f i)) fm) hown (wks W (staticW "java/lang/String" 495 LChA.yN)) (wk W LChA.tab) (W := 0) (Nat.le_of_ble_eq_true rfl) (Nat.le_of_ble_eq_true rfl) (Nat.le_refl _) (Nat.le_refl _) (g := (mkF m 12 #[.val (.ref x), .val (.int (Int32.ofNat i))] [.int (Int32.ofNat i), .ref t])) rfl (by rw [hml]; rfl) c5 (argsL := [.ref t, .int (Int32.ofNat i)]) (rest := []) rfl rfl (by show 2 * 0 + 0 ≤ _; decide) (hb hbytes d12) (⟨rfl, hx.2.2.2.1.mv X4.warmed.alike hh4, (k2 i hi).1, s3.there X4.warmed.alike hh4, rf⟩)
    obtain ⟨rfl, q6⟩ := E6
    rw [chr8_lo8 hr.1 (k2 i hi).2] at g6
    exact ⟨T6, some (.int (f i)), _, _, _, X6, rfl, rfl, rfl, (fun h => by cases h), ⟨rfl, q6.trans hh4⟩, fun fs hl => Steps.trans g6 (X6.ireturnOut hexec hret (narrow_ch hr.1 hr.2) (Or.inr (Or.inr (Or.inr (Or.inl rfl)))) (hb hbytes d15) hl)⟩
  · exact absurd k0 (by decide)
theorem pays {l : Launch} {R : Room} {p : Program} {e : Env} {below : List Frame} {s : State} {sargs : Array Value} {len W : Nat} (x t : Addr) (V : Cell) (n : Nat) (f : Nat → Int32) (z : Int32) (fm : Value) (i : Nat) (htab : tab.before sargs s = true) (hfr : 4 ≤ R.frames) (hlo : W + 53 ≤ R.locals) :
    Back l R p e below s sargs yN len W (fun A₁ a₁ => A₁.cells + 0 ≤ R.cells ∧ A₁.slots + 0 ≤ R.slots ∧ P x t V n f z fm i a₁ A₁.U) (fun A₁ _ v₁ B₁ => E f i v₁ A₁.U B₁.U ∧ B₁.locs = A₁.locs ++ [] ∧ B₁.cells = A₁.cells + 0 ∧ B₁.slots = A₁.slots + 0) :=
  (law l x t V n f z fm i).pays htab hfr (by omega)
end ChN
end StrChars
namespace StrChars.Road
open Jvm Sem ClassFile Op Lib Jvm.Stand Jvm.Free Jvm.Free.XT
open Jvm.Lib.Cold (StaticIs)
/-- the words of String.charAt(int), the Latin-1 road alone -/
abbrev wordsChN : List Jvm.Cond := [.code ChN.yN ChN.yB 2 (some .char), .initialized ST, .fieldLink ST 9 ST "value" "[B", .fieldLink ST 38 ST "COMPACT_STRINGS" "Z", .fieldLink ST 15 ST "coder" "B", .code IsL.yN IsL.yB 1 (some .boolean), .methodLink ST 492 IsL.yN, .declares IsL.yN, .selects ST IsL.yN IsL.yN, .instanceMethod IsL.yN,
  .methodLink ST 495 LChA.yN, .static LChA.yN, .code LChA.yN LChA.yB 2 (some .char), .initialized "java/lang/StringLatin1", .methodLink "java/lang/StringLatin1" 9 JO.Str_checkIndex.yN, .static JO.Str_checkIndex.yN, .code JO.Str_checkIndex.yN JO.Str_checkIndex.yB 2 none,
  .fieldLink ST 1053 "jdk/internal/util/Preconditions" "SIOOBE_FORMATTER" "Ljava/util/function/BiFunction;", .methodLink ST 1059 JC.PreCheck.yN, .static JC.PreCheck.yN, .code JC.PreCheck.yN JC.PreCheck.yB 3 (some .int), .initialized "jdk/internal/util/Preconditions"]
theorem tabChN_of {a : Array Value} {s : State} (h : ∀ w ∈ wordsChN, w.before a s = true) : ChN.tab.before a s = true := by
  have hp : JC.PreCheck.tab.before a s = true := unparts (wk h (.code JC.PreCheck.yN JC.PreCheck.yB 3 (some .int))) (wks h (.initialized JC.PreCheck.yN.cls :: JC.PreCheck.site))
  have qk := consq hp h
  have hk : JO.Str_checkIndex.tab.before a s = true := unparts (wk qk (.code JO.Str_checkIndex.yN JO.Str_checkIndex.yB 2 none)) (wks qk (.initialized JO.Str_checkIndex.yN.cls :: JO.Str_checkIndex.site))
  have ql := consq hk h
  have hl : LChA.tab.before a s = true := unparts (wk ql (.code LChA.yN LChA.yB 2 (some .char))) (wks ql (.initialized LChA.yN.cls :: LChA.site))
  have hi : IsL.tab.before a s = true := unparts (wk h (.code IsL.yN IsL.yB 1 (some .boolean))) (wks h (.initialized IsL.yN.cls :: IsL.site))
  have q := consq hi (consq hl h)
  exact unparts (wk q (.code ChN.yN ChN.yB 2 (some .char))) (wks q (.initialized ChN.yN.cls :: ChN.site))
theorem movedChN {Z s : State} {a0 args : Array Value} (hZ : Z.Warmed39 s.vm) (hw : ∀ d ∈ wordsChN, d.before a0 Z = true) : ∀ d ∈ wordsChN, d.before args s = true := fun d hd => by
  have t : ∀ d ∈ wordsChN, (d.onTables && d.keepsFace) = true := by decide +kernel
  exact RoadKit.mv hZ (hw d hd) (t d hd)
/-- **charAt(i) OF A LATIN-1 STRING**, i < n: the char -/
theorem chN {p : Program} {l : Launch} {e : Env} {R : Room} {s : State} {args : Array Value} {below : List Frame} {len W : Nat} {Z : State} {a0 : Array Value} {h : Heap} (hZ : Z.Warmed39 s.vm) (hw : ∀ d ∈ wordsChN, d.before a0 Z = true) {kI : Nat} (wi : (Jvm.Cond.instantiable ST kI).before a0 Z = true)
    {x t : Addr} {kb : ClassId} {cs : List Int32} {N2 z : Int32} {vs : List Value} {fm : Value} {i : Nat} {j : Int32} (E : RoadKit.Exa Z h x ST) (V : RoadKit.Fld Z h x ST "value" "[B" (.ref t)) (C : RoadKit.Fld Z h x ST "coder" "B" (.int 0)) (K : RoadKit.Arv Z h t kb .byte N2 vs (.int 0)) (hc : CodA cs 0 N2 vs) (hb : ∀ c ∈ cs, ¬ c < 0 ∧ ¬ (65535 : Int32) < c)
    (S : RoadKit.Sta Z h ST "COMPACT_STRINGS" "Z" (.int z)) (hz : ¬ z = 0) (F : RoadKit.Sta Z h "jdk/internal/util/Preconditions" "SIOOBE_FORMATTER" "Ljava/util/function/BiFunction;" fm) (rf : fm.isRef = true) (l2 : cs.length ≤ 4000) (hi : i < cs.length) (hj : j = Int32.ofNat i) (hfr : 4 ≤ R.frames) (hlo : W + 53 ≤ R.locals) :
    Back l R p e below s args (⟨"java/lang/String", "charAt", "(I)C"⟩ : MethodName) len W (fun P a => a = #[.ref x, .int j] ∧ P.U.heap = h ∧ P.cells + 0 ≤ R.cells ∧ P.slots + 0 ≤ R.slots)
      (fun P _ v B => ∃ L, (v = some (.int (cs.getD i 0)) ∧ L = [] ∧ B.U.heap = h) ∧ B.locs = P.locs ++ L ∧ B.cells = P.cells + 0 ∧ B.slots = P.slots + 0) := by
  subst hj
  intro m meth c P g ig mk a X hg hsize hdg hW hn hp'
  obtain ⟨rfl, rfl, r1, r2⟩ := hp'
  have al : Z.vm.Alike P.U.vm := hZ.alike.trans X.warmed.alike
  obtain ⟨A, hx⟩ := txt_of wi al E V C K hc hb l2
  obtain ⟨v, B, X', ⟨⟨hv, hh⟩, hl, hk, hs⟩, st⟩ := ChN.pays x t A cs.length (fun j => cs.getD j 0) z fm i (tabChN_of (movedChN hZ hw)) hfr hlo m meth c P g ig mk _ X hg hsize hdg hW hn ⟨r1, r2, rfl, hx, hi, sta_is al S, hz, sta_is al F, rf⟩
  exact ⟨v, B, X', ⟨[], ⟨hv, rfl, hh⟩, hl, hk, hs⟩, st⟩
/-- what backV says of its String, as the contracts of this text ask it: cs's low bytes, coder 0 -/
theorem codOf {cs : List Int32} {n : Nat} (hn : cs.length = n) (hb : ∀ c ∈ cs, ¬ 255 < c) : CodA cs 0 (Int32.ofNat n) ((cs.map lo8).map Value.int) := Or.inl ⟨rfl, by rw [hn], by simp [List.map_map, Function.comp_def], hb⟩
end StrChars.Road
end Jvm.Pilot.@@N@@
namespace Jvm.Pilot.@@N@@
open Jvm Jvm.ClassFile Sem Op Lib Jvm.Free Jvm.Stand Jvm.LawKit Jvm.RoadKit Bundle Jvm.Pilot.@@N@@.Jvm.D
section Own
variable {p : Program} {l : Launch} {e : Env} {R : Room} {s : State} {m : MethodId} {args : Array Value} {below : List Frame} {meth : Method} {c : Code} {T : State} {locs : List Loc} {cells slots : Nat} {Z : State} {a0 : Array Value} {h : Heap}
/-- from U the run comes to the method's end, and P holds there -/
def OGo (p : Program) (e : Env) (below : List Frame) (U : State) (P : State → Outcome → Prop) : Prop :=
  ∃ t o, Steps p.tables e below U t ∧ t.status = .running ∧ Ended t below o ∧ P t o
theorem OGo.step {U U' : State} {P : State → Outcome → Prop} (k : ∀ t, Steps p.tables e below U' t → Steps p.tables e below U t) (g : OGo p e below U' P) : OGo p e below U P := by
  obtain ⟨t, o, h1, h2⟩ := g
  exact ⟨t, o, k t h1, h2⟩
def OEnd (s : State) (Q : Option Value → Heap → List Loc → Prop) (kc ks : Nat) (t : State) (o : Outcome) : Prop :=
  ∃ v L, o = .returned v ∧ Q v t.heap L ∧ FrameEnd s o t L kc ks
/-- the contract of one body, at one array of arguments and one heap -/
abbrev OMet (l : Launch) (Z : State) (y : MethodName) (bytes : ByteArray) (maxL : Nat) (ret : Option FieldType) (ws : List Jvm.Cond) (rm : Room) (as' : Array Value) (h0 : Heap) (Q : Option Value → Heap → List Loc → Prop) : Prop :=
  MetFree l y (head1 (Jvm.Cond.code y bytes maxL ret :: ws) rm) (fun a U => a = as' ∧ Z.Warmed39 U.vm ∧ U.heap = h0) (fun _ _ _ _ _ => True) (fun _ U o U' => ∃ v L, o = .returned v ∧ Q v U'.heap L ∧ FrameEnd U o U' L rm.cells rm.slots)
theorem OMet.body {y : MethodName} {bytes : ByteArray} {maxL : Nat} {ret : Option FieldType} {ws : List Jvm.Cond} {rm : Room} {as' : Array Value} {h0 : Heap} {Q : Option Value → Heap → List Loc → Prop} (hpn : plainFor y = true)
    (b : ∀ (p : Program) (e : Env) (s : State) (m : MethodId) (below : List Frame) (meth : Method) (c : Code) (s₁ : State), p.tables.exec = Jvm.exec → c.code = bytes → c.maxLocals = maxL → s.vm.findClass y.cls = some m.cls → meth.name = y.name → meth.sig.returnType = ret → meth.locks = false → Z.Warmed39 s.vm →
      Stand p l e rm s m as' below meth c s₁ [] 0 0 → s₁.heap = h0 → OGo p e below (s₁.setTop (entryFrame m as' maxL)) (OEnd s Q rm.cells rm.slots)) : OMet l Z y bytes maxL ret ws rm as' h0 Q := by
  refine MetFree.of_bodySF hpn hisR ?_
  intro p e s m args below meth c s₁ Bd hml0 hP hK
  obtain ⟨rfl, hZ, hh⟩ := hP
  exact b p e s m below meth c s₁ Bd.exec Bd.bytes hml0 (findClass_of_methodNamed Bd.named) (name_of_methodNamed Bd.named Bd.method).1 Bd.returns Bd.notSynchronized hZ (Stand.of_body Bd) (by rw [← hh, Bd.state]; rfl)
theorem own_ret (X : Stand p l e R s m args below meth c T locs cells slots) (hx : p.tables.exec = Jvm.exec) (hlk : meth.locks = false) {pc : Nat} {Ls : Array Slot} {w : Value} {t : FieldType} {i : Instr} {rest : List Value} (hret : meth.sig.returnType = some t) (hn : narrow t w = w)
    (hi : (i = .ireturn ∧ (t = .int ∨ t = .boolean ∨ t = .byte ∨ t = .char ∨ t = .short) ∧ ∃ z, w = .int z) ∨ (i = .lreturn ∧ t = .long ∧ ∃ z, w = .long z) ∨ (i = .dreturn ∧ t = .double ∧ ∃ z, w = .double z) ∨ (i = .freturn ∧ t = .float ∧ ∃ z, w = .float z) ∨ (i = .areturn ∧ t.isReference = true ∧ w.isRef = true))
    (hd : decode c.code pc = .ok (i, 1)) {Q : Option Value → Heap → List Loc → Prop} {kc ks : Nat} (hQ : Q (some w) T.heap locs) (h1 : cells ≤ kc) (h2 : slots ≤ ks) : OGo p e below (T.setTop (mkF m pc Ls (w :: rest))) (OEnd s Q kc ks) := by
  obtain ⟨fs, hr, hrun, hended, hW, hsame⟩ := X.leave (v := some w) (fun h => by rw [hret] at h; cases h) hlk
  exact ⟨_, _, retOut X hx hret hn hi hd hr, hrun, hended, _, _, rfl, hQ, ⟨_, rfl⟩, hW, hsame.mono h1 h2⟩
theorem own_retN (X : Stand p l e R s m args below meth c T locs cells slots) (hx : p.tables.exec = Jvm.exec) (hlk : meth.locks = false) {pc : Nat} {Ls : Array Slot} {z : Int32} {t : FieldType} {rest : List Value} (hret : meth.sig.returnType = some t) (ht : t = .boolean ∨ t = .byte ∨ t = .char ∨ t = .short)
    (hd : decode c.code pc = .ok (.ireturn, 1)) {Q : Option Value → Heap → List Loc → Prop} {kc ks : Nat} (hQ : Q (some (.int (nar t z))) T.heap locs) (h1 : cells ≤ kc) (h2 : slots ≤ ks) : OGo p e below (T.setTop (mkF m pc Ls (.int z :: rest))) (OEnd s Q kc ks) := by
  obtain ⟨fs, hr, hrun, hended, hW, hsame⟩ := X.leave (v := some (.int (nar t z))) (fun h => by rw [hret] at h; cases h) hlk
  exact ⟨_, _, retN X hx hret ht hd hr, hrun, hended, _, _, rfl, hQ, ⟨_, rfl⟩, hW, hsame.mono h1 h2⟩
theorem own_ret0 (X : Stand p l e R s m args below meth c T locs cells slots) (hx : p.tables.exec = Jvm.exec) (hlk : meth.locks = false) {pc : Nat} {Ls : Array Slot} (hret : meth.sig.returnType = none)
    (hd : decode c.code pc = .ok (.return_, 1)) {Q : Option Value → Heap → List Loc → Prop} {kc ks : Nat} (hQ : Q none T.heap locs) (h1 : cells ≤ kc) (h2 : slots ≤ ks) : OGo p e below (T.setTop (mkF m pc Ls [])) (OEnd s Q kc ks) := by
  obtain ⟨fs, hr, hrun, hended, hW, hsame⟩ := X.leave (v := none) (fun _ => rfl) hlk
  exact ⟨_, _, X.returnOut hx hret hd hr, hrun, hended, _, _, rfl, hQ, ⟨_, rfl⟩, hW, hsame.mono h1 h2⟩
/-- who pays a call: at these arguments and this heap -/
abbrev OBack (l : Launch) (R : Room) (p : Program) (e : Env) (below : List Frame) (s : State) (args : Array Value) (y : MethodName) (len W : Nat) (as' : Array Value) (h : Heap) (kc ks : Nat) (Q : Option Value → Heap → List Loc → Prop) : Prop :=
  Back l R p e below s args y len W (fun P a => a = as' ∧ P.U.heap = h ∧ P.cells + kc ≤ R.cells ∧ P.slots + ks ≤ R.slots) (fun P _ v B => ∃ L, Q v B.U.heap L ∧ B.locs = P.locs ++ L ∧ B.cells = P.cells + kc ∧ B.slots = P.slots + ks)
/-- a static call by the callee's contract -/
theorem own_callSK (X : Stand p l e R s m args below meth c T locs cells slots) (hx : p.tables.exec = Jvm.exec) (hZ : Z.Warmed39 s.vm) {own : String} {index : Nat} {y : MethodName} {bytes : ByteArray} {maxL : Nat} {ret : Option FieldType}
    (hown : s.vm.findClass own = some m.cls) (w1 : (Jvm.Cond.methodLink own index y).before a0 Z = true) (w2 : (Jvm.Cond.static y).before a0 Z = true) (w3 : (Jvm.Cond.initialized y.cls).before a0 Z = true)
    (w4 : (Jvm.Cond.code y bytes maxL ret).before a0 Z = true) (hy : y.cls ≠ "java/lang/invoke/MethodHandle" ∧ y.cls ≠ "java/lang/invoke/VarHandle")
    {W : Nat} {kc ks : Nat} {argsL rest : List Value} {Q : Option Value → Heap → List Loc → Prop} (hK : OBack l R p e below s args y 3 W argsL.toArray h kc ks Q) (eT : T.heap = h)
    {pc : Nat} {Ls : Array Slot} (hsize : Ls.size = c.maxLocals) (hlen : ∀ sig, parseMethodDescriptor y.desc = some sig → argsL.length = sig.parameters.length) (hW : (rest.map fun v => v.category).sum = W)
    (hd : decode c.code pc = .ok (.invokestatic index, 3)) (hc : cells + kc ≤ R.cells) (hs : slots + ks ≤ R.slots) {P : State → Outcome → Prop}
    (k : ∀ (v : Option Value) (T' : State) (L : List Loc), Stand p l e R s m args below meth c T' (locs ++ L) (cells + kc) (slots + ks) → Q v T'.heap L → OGo p e below (T'.setTop (mkF m (pc + 3) Ls (v.toList ++ rest))) P) :
    OGo p e below (T.setTop (mkF m pc Ls (argsL.reverse ++ rest))) P := by
  obtain ⟨v, vm, ⟨T', L', k', n'⟩, -, X', ⟨L, hQ, l1, y1, z1⟩, st⟩ := Jvm.LawKit.callS X hx (y := y) hown (mvT hZ w1) (mvT hZ w2) (mvT hZ w3) (mvT hZ w4) hy hK (g := mkF m pc Ls (argsL.reverse ++ rest)) rfl hsize (argsL := argsL) (rest := rest) hlen rfl
    (by show 2 * 0 + _ ≤ _; rw [hW]; omega) hd (fun _ _ => ⟨rfl, eT, hc, hs⟩)
  dsimp only [Pt.U, Pt.locs, Pt.cells, Pt.slots] at X' l1 y1 z1 st hQ
  subst l1 y1 z1
  exact OGo.step st (k v T' L X' hQ)
theorem own_callS (X : Stand p l e R s m args below meth c T locs cells slots) (hx : p.tables.exec = Jvm.exec) (hZ : Z.Warmed39 s.vm) {own : String} {index : Nat} {y : MethodName} {bytes : ByteArray} {maxL : Nat} {ret : Option FieldType}
    (hown : s.vm.findClass own = some m.cls) (w1 : (Jvm.Cond.methodLink own index y).before a0 Z = true) (w2 : (Jvm.Cond.static y).before a0 Z = true) (w3 : (Jvm.Cond.initialized y.cls).before a0 Z = true)
    (w4 : (Jvm.Cond.code y bytes maxL ret).before a0 Z = true) (hy : y.cls ≠ "java/lang/invoke/MethodHandle" ∧ y.cls ≠ "java/lang/invoke/VarHandle")
    {W : Nat} {rm : Room} {argsL rest : List Value} {Q : Option Value → Heap → List Loc → Prop} (hM : OMet l Z y bytes maxL ret [] rm argsL.toArray h Q) (eT : T.heap = h)
    {pc : Nat} {Ls : Array Slot} (hsize : Ls.size = c.maxLocals) (hlen : ∀ sig, parseMethodDescriptor y.desc = some sig → argsL.length = sig.parameters.length) (hW : (rest.map fun v => v.category).sum = W)
    (hd : decode c.code pc = .ok (.invokestatic index, 3)) (hf : rm.frames + 1 ≤ R.frames) (hl : W + (maxL + 11) + rm.locals ≤ R.locals) (hc : cells + rm.cells ≤ R.cells) (hs : slots + rm.slots ≤ R.slots) {P : State → Outcome → Prop}
    (k : ∀ (v : Option Value) (T' : State) (L : List Loc), Stand p l e R s m args below meth c T' (locs ++ L) (cells + rm.cells) (slots + rm.slots) → Q v T'.heap L → OGo p e below (T'.setTop (mkF m (pc + 3) Ls (v.toList ++ rest))) P) :
    OGo p e below (T.setTop (mkF m pc Ls (argsL.reverse ++ rest))) P := 
  own_callSK X hx hZ hown w1 w2 w3 w4 hy (backOf (W := W) hM hZ w4 w3 hf hl) eT hsize hlen hW hd hc hs k
/-- a constructor by its contract -/
theorem own_specialK (X : Stand p l e R s m args below meth c T locs cells slots) (hx : p.tables.exec = Jvm.exec) (hZ : Z.Warmed39 s.vm) {own : String} {index : Nat} {y : MethodName} {bytes : ByteArray} {maxL : Nat} (hy1 : y.name = "<init>")
    (hown : s.vm.findClass own = some m.cls) (w1 : (Jvm.Cond.methodLink own index y).before a0 Z = true) (w2 : (Jvm.Cond.instanceMethod y).before a0 Z = true)
    (w4 : (Jvm.Cond.code y bytes maxL none).before a0 Z = true) (hy : y.cls ≠ "java/lang/invoke/MethodHandle" ∧ y.cls ≠ "java/lang/invoke/VarHandle") {a : Addr}
    {W : Nat} {kc ks : Nat} {argsL rest : List Value} {Q : Option Value → Heap → List Loc → Prop} (hK : OBack l R p e below s args y 3 W (.ref a :: argsL).toArray h kc ks Q) (eT : T.heap = h)
    {pc : Nat} {Ls : Array Slot} (hsize : Ls.size = c.maxLocals) (hlen : ∀ sig, parseMethodDescriptor y.desc = some sig → argsL.length = sig.parameters.length) (hW : (rest.map fun v => v.category).sum = W)
    (hd : decode c.code pc = .ok (.invokespecial index, 3)) (hc : cells + kc ≤ R.cells) (hs : slots + ks ≤ R.slots) {P : State → Outcome → Prop}
    (k : ∀ (v : Option Value) (T' : State) (L : List Loc), Stand p l e R s m args below meth c T' (locs ++ L) (cells + kc) (slots + ks) → Q v T'.heap L → OGo p e below (T'.setTop (mkF m (pc + 3) Ls (v.toList ++ rest))) P) :
    OGo p e below (T.setTop (mkF m pc Ls (argsL.reverse ++ .ref a :: rest))) P := by
  obtain ⟨v, vm, ⟨T', L', k', n'⟩, -, X', ⟨L, hQ, l1, y1, z1⟩, st⟩ := X.specialBack hx (y := y) hy1 hown (mvT hZ w1) (mvT hZ w2) (mvT hZ w4) hy hK (g := mkF m pc Ls (argsL.reverse ++ .ref a :: rest)) rfl hsize (Steps.refl _) (a := a) (argsL := argsL) (rest := rest) hlen rfl
    (by show 2 * 0 + _ ≤ _; rw [hW]; omega) hd (fun _ _ => ⟨rfl, eT, hc, hs⟩)
  dsimp only [Pt.U, Pt.locs, Pt.cells, Pt.slots] at X' l1 y1 z1 st hQ
  subst l1 y1 z1
  exact OGo.step (fun _ kk => st.trans kk) (k v T' L X' hQ)
theorem own_special (X : Stand p l e R s m args below meth c T locs cells slots) (hx : p.tables.exec = Jvm.exec) (hZ : Z.Warmed39 s.vm) {own : String} {index : Nat} {y : MethodName} {bytes : ByteArray} {maxL : Nat} (hy1 : y.name = "<init>")
    (hown : s.vm.findClass own = some m.cls) (w1 : (Jvm.Cond.methodLink own index y).before a0 Z = true) (w2 : (Jvm.Cond.instanceMethod y).before a0 Z = true)
    (w4 : (Jvm.Cond.code y bytes maxL none).before a0 Z = true) (w3 : (Jvm.Cond.initialized y.cls).before a0 Z = true) (hy : y.cls ≠ "java/lang/invoke/MethodHandle" ∧ y.cls ≠ "java/lang/invoke/VarHandle") {a : Addr}
    {W : Nat} {rm : Room} {argsL rest : List Value} {Q : Option Value → Heap → List Loc → Prop} (hM : OMet l Z y bytes maxL none [] rm (.ref a :: argsL).toArray h Q) (eT : T.heap = h)
    {pc : Nat} {Ls : Array Slot} (hsize : Ls.size = c.maxLocals) (hlen : ∀ sig, parseMethodDescriptor y.desc = some sig → argsL.length = sig.parameters.length) (hW : (rest.map fun v => v.category).sum = W)
    (hd : decode c.code pc = .ok (.invokespecial index, 3)) (hf : rm.frames + 1 ≤ R.frames) (hl : W + (maxL + 11) + rm.locals ≤ R.locals) (hc : cells + rm.cells ≤ R.cells) (hs : slots + rm.slots ≤ R.slots) {P : State → Outcome → Prop}
    (k : ∀ (v : Option Value) (T' : State) (L : List Loc), Stand p l e R s m args below meth c T' (locs ++ L) (cells + rm.cells) (slots + rm.slots) → Q v T'.heap L → OGo p e below (T'.setTop (mkF m (pc + 3) Ls (v.toList ++ rest))) P) :
    OGo p e below (T.setTop (mkF m pc Ls (argsL.reverse ++ .ref a :: rest))) P := 
  own_specialK X hx hZ hy1 hown w1 w2 w4 hy (backOf (W := W) hM hZ w4 w3 hf hl) eT hsize hlen hW hd hc hs k
/-- an instance method by its contract -/
theorem own_virtualK (X : Stand p l e R s m args below meth c T locs cells slots) (hx : p.tables.exec = Jvm.exec) (hZ : Z.Warmed39 s.vm) {own C : String} {index : Nat} {y z : MethodName}
    (hown : s.vm.findClass own = some m.cls) (w1 : (Jvm.Cond.methodLink own index y).before a0 Z = true) (w2 : (Jvm.Cond.declares y).before a0 Z = true) (hnf : NotFace s y) (w5 : (Jvm.Cond.selects C y z).before a0 Z = true) (w6 : (Jvm.Cond.instanceMethod z).before a0 Z = true)
    (hy : y.cls ≠ "java/lang/invoke/MethodHandle" ∧ y.cls ≠ "java/lang/invoke/VarHandle") {b : Addr} (hb : Exa Z h b C)
    {W : Nat} {kc ks : Nat} {argsL rest : List Value} {Q : Option Value → Heap → List Loc → Prop} (hK : OBack l R p e below s args z 3 W (.ref b :: argsL).toArray h kc ks Q) (eT : T.heap = h)
    {pc : Nat} {Ls : Array Slot} (hsize : Ls.size = c.maxLocals) (hlen : ∀ sig, parseMethodDescriptor y.desc = some sig → argsL.length = sig.parameters.length) (hW : (rest.map fun v => v.category).sum = W)
    (hd : decode c.code pc = .ok (.invokevirtual index, 3)) (hc : cells + kc ≤ R.cells) (hs : slots + ks ≤ R.slots) {P : State → Outcome → Prop}
    (k : ∀ (v : Option Value) (T' : State) (L : List Loc), Stand p l e R s m args below meth c T' (locs ++ L) (cells + kc) (slots + ks) → Q v T'.heap L → OGo p e below (T'.setTop (mkF m (pc + 3) Ls (v.toList ++ rest))) P) :
    OGo p e below (T.setTop (mkF m pc Ls (argsL.reverse ++ .ref b :: rest))) P := by
  obtain ⟨cq, kq, qa, qb, qc⟩ := isOf hZ eT hb
  obtain ⟨v, vm, ⟨T', L', k', n'⟩, -, X', ⟨L, hQ, l1, y1, z1⟩, st⟩ := X.virtualBack hx (y := y) (z := z) hown (mvT hZ w1) (mvT hZ w2) hnf (mvT hZ w5) (mvT hZ w6) hy hK qa qc (g := mkF m pc Ls (argsL.reverse ++ .ref b :: rest)) rfl hsize (Steps.refl _) (argsL := argsL) (rest := rest) hlen rfl
    (by show 2 * 0 + _ ≤ _; rw [hW]; omega) hd (fun _ _ => ⟨rfl, eT, hc, hs⟩)
  dsimp only [Pt.U, Pt.locs, Pt.cells, Pt.slots] at X' l1 y1 z1 st hQ
  subst l1 y1 z1
  exact OGo.step (fun _ kk => st.trans kk) (k v T' L X' hQ)
theorem own_virtual (X : Stand p l e R s m args below meth c T locs cells slots) (hx : p.tables.exec = Jvm.exec) (hZ : Z.Warmed39 s.vm) {own C : String} {index : Nat} {y z : MethodName} {bytes : ByteArray} {maxL : Nat} {ret : Option FieldType}
    (hown : s.vm.findClass own = some m.cls) (w1 : (Jvm.Cond.methodLink own index y).before a0 Z = true) (w2 : (Jvm.Cond.declares y).before a0 Z = true) (hnf : NotFace s y) (w5 : (Jvm.Cond.selects C y z).before a0 Z = true) (w6 : (Jvm.Cond.instanceMethod z).before a0 Z = true)
    (hy : y.cls ≠ "java/lang/invoke/MethodHandle" ∧ y.cls ≠ "java/lang/invoke/VarHandle") (w4 : (Jvm.Cond.code z bytes maxL ret).before a0 Z = true) (w3 : (Jvm.Cond.initialized z.cls).before a0 Z = true) {b : Addr} (hb : Exa Z h b C)
    {W : Nat} {rm : Room} {argsL rest : List Value} {Q : Option Value → Heap → List Loc → Prop} (hM : OMet l Z z bytes maxL ret [] rm (.ref b :: argsL).toArray h Q) (eT : T.heap = h)
    {pc : Nat} {Ls : Array Slot} (hsize : Ls.size = c.maxLocals) (hlen : ∀ sig, parseMethodDescriptor y.desc = some sig → argsL.length = sig.parameters.length) (hW : (rest.map fun v => v.category).sum = W)
    (hd : decode c.code pc = .ok (.invokevirtual index, 3)) (hf : rm.frames + 1 ≤ R.frames) (hl : W + (maxL + 11) + rm.locals ≤ R.locals) (hc : cells + rm.cells ≤ R.cells) (hs : slots + rm.slots ≤ R.slots) {P : State → Outcome → Prop}
    (k : ∀ (v : Option Value) (T' : State) (L : List Loc), Stand p l e R s m args below meth c T' (locs ++ L) (cells + rm.cells) (slots + rm.slots) → Q v T'.heap L → OGo p e below (T'.setTop (mkF m (pc + 3) Ls (v.toList ++ rest))) P) :
    OGo p e below (T.setTop (mkF m pc Ls (argsL.reverse ++ .ref b :: rest))) P := 
  own_virtualK X hx hZ hown w1 w2 hnf w5 w6 hy hb (backOf (W := W) hM hZ w4 w3 hf hl) eT hsize hlen hW hd hc hs k
/-- an instance method that an ancestor declares, by its contract -/
theorem own_virtualUpK (X : Stand p l e R s m args below meth c T locs cells slots) (hx : p.tables.exec = Jvm.exec) (hZ : Z.Warmed39 s.vm) {own C owner : String} {index : Nat} {y z : MethodName}
    (hown : s.vm.findClass own = some m.cls) (w1 : (Jvm.Cond.methodLink own index y).before a0 Z = true) (w7 : (Jvm.Cond.sameMethod y.cls owner y.name y.desc).before a0 Z = true) (w2 : (Jvm.Cond.declares ⟨owner, y.name, y.desc⟩).before a0 Z = true) (w5 : (Jvm.Cond.selects C y z).before a0 Z = true) (w6 : (Jvm.Cond.instanceMethod z).before a0 Z = true)
    (hy : owner ≠ "java/lang/invoke/MethodHandle" ∧ owner ≠ "java/lang/invoke/VarHandle") {b : Addr} (hb : Exa Z h b C)
    {W : Nat} {kc ks : Nat} {argsL rest : List Value} {Q : Option Value → Heap → List Loc → Prop} (hK : OBack l R p e below s args z 3 W (.ref b :: argsL).toArray h kc ks Q) (eT : T.heap = h)
    {pc : Nat} {Ls : Array Slot} (hsize : Ls.size = c.maxLocals) (hlen : ∀ sig, parseMethodDescriptor y.desc = some sig → argsL.length = sig.parameters.length) (hW : (rest.map fun v => v.category).sum = W)
    (hd : decode c.code pc = .ok (.invokevirtual index, 3)) (hc : cells + kc ≤ R.cells) (hs : slots + ks ≤ R.slots) {P : State → Outcome → Prop}
    (k : ∀ (v : Option Value) (T' : State) (L : List Loc), Stand p l e R s m args below meth c T' (locs ++ L) (cells + kc) (slots + ks) → Q v T'.heap L → OGo p e below (T'.setTop (mkF m (pc + 3) Ls (v.toList ++ rest))) P) :
    OGo p e below (T.setTop (mkF m pc Ls (argsL.reverse ++ .ref b :: rest))) P := by
  obtain ⟨cq, kq, qa, qb, qc⟩ := isOf hZ eT hb
  obtain ⟨v, vm, ⟨T', L', k', n'⟩, -, X', ⟨L, hQ, l1, y1, z1⟩, st⟩ := X.virtualBackUp hx (x := y) (y := z) hown (mvT hZ w1) (mvT hZ w7) (mvT hZ w2) hy (mvT hZ w5) (mvT hZ w6) hK qa qc (g := mkF m pc Ls (argsL.reverse ++ .ref b :: rest)) rfl hsize (Steps.refl _) (argsL := argsL) (rest := rest) hlen rfl
    (by show 2 * 0 + _ ≤ _; rw [hW]; omega) hd (fun _ _ => ⟨rfl, eT, hc, hs⟩)
  dsimp only [Pt.U, Pt.locs, Pt.cells, Pt.slots] at X' l1 y1 z1 st hQ
  subst l1 y1 z1
  exact OGo.step (fun _ kk => st.trans kk) (k v T' L X' hQ)
theorem own_virtualUp (X : Stand p l e R s m args below meth c T locs cells slots) (hx : p.tables.exec = Jvm.exec) (hZ : Z.Warmed39 s.vm) {own C owner : String} {index : Nat} {y z : MethodName} {bytes : ByteArray} {maxL : Nat} {ret : Option FieldType}
    (hown : s.vm.findClass own = some m.cls) (w1 : (Jvm.Cond.methodLink own index y).before a0 Z = true) (w7 : (Jvm.Cond.sameMethod y.cls owner y.name y.desc).before a0 Z = true) (w2 : (Jvm.Cond.declares ⟨owner, y.name, y.desc⟩).before a0 Z = true) (w5 : (Jvm.Cond.selects C y z).before a0 Z = true) (w6 : (Jvm.Cond.instanceMethod z).before a0 Z = true)
    (hy : owner ≠ "java/lang/invoke/MethodHandle" ∧ owner ≠ "java/lang/invoke/VarHandle") (w4 : (Jvm.Cond.code z bytes maxL ret).before a0 Z = true) (w3 : (Jvm.Cond.initialized z.cls).before a0 Z = true) {b : Addr} (hb : Exa Z h b C)
    {W : Nat} {rm : Room} {argsL rest : List Value} {Q : Option Value → Heap → List Loc → Prop} (hM : OMet l Z z bytes maxL ret [] rm (.ref b :: argsL).toArray h Q) (eT : T.heap = h)
    {pc : Nat} {Ls : Array Slot} (hsize : Ls.size = c.maxLocals) (hlen : ∀ sig, parseMethodDescriptor y.desc = some sig → argsL.length = sig.parameters.length) (hW : (rest.map fun v => v.category).sum = W)
    (hd : decode c.code pc = .ok (.invokevirtual index, 3)) (hf : rm.frames + 1 ≤ R.frames) (hl : W + (maxL + 11) + rm.locals ≤ R.locals) (hc : cells + rm.cells ≤ R.cells) (hs : slots + rm.slots ≤ R.slots) {P : State → Outcome → Prop}
    (k : ∀ (v : Option Value) (T' : State) (L : List Loc), Stand p l e R s m args below meth c T' (locs ++ L) (cells + rm.cells) (slots + rm.slots) → Q v T'.heap L → OGo p e below (T'.setTop (mkF m (pc + 3) Ls (v.toList ++ rest))) P) :
    OGo p e below (T.setTop (mkF m pc Ls (argsL.reverse ++ .ref b :: rest))) P := 
  own_virtualUpK X hx hZ hown w1 w7 w2 w5 w6 hy hb (backOf (W := W) hM hZ w4 w3 hf hl) eT hsize hlen hW hd hc hs k
theorem own_cat {v : Value} (q : v.isRef = true) : v.category = 1 := by cases v <;> first | rfl | (simp [Value.isRef] at q)
theorem own_narR {v : Value} {t : FieldType} (q : v.isRef = true) (ht : t.isReference = true := by rfl) : narrow t v = v := by cases v <;> first | (simp [Value.isRef] at q; done) | (cases t <;> first | rfl | (cases ht))
theorem own_fitR {v : Value} {t : FieldType} (q : v.isRef = true) (ht : t.isReference = true := by rfl) : fits t v = true := by cases v <;> first | (simp [Value.isRef] at q; done) | (cases t <;> first | rfl | (cases ht))
theorem own_store1 {l l' : Array Slot} {i : Nat} {v : Value} {o : Slot} (hold : l[i]? = some o) (ho : o = .unset ∨ ∃ w, o = .val w ∧ w.category = 1) (hv : v.category = 1) (hl' : l.setIfInBounds i (.val v) = l' := by rfl) : storeLocals l i v = some l' := by
  rw [XS.store1 hold ho hv, hl']
end Own
theorem own_eqv {args : Array Value} {s : State} {a b : Term} {y : Value} (h : (Jvm.Cond.eq a b).value args s none s [] = some true) (hb : b.eval args s none [] s = some y) : a.eval args s none [] s = some y := by
  cases ha : a.eval args s none [] s with
  | none => simp [Cond.value, ha] at h
  | some x => cases x <;> cases y <;> simp_all [Cond.value]
theorem own_len {args : Array Value} {s : State} {t : Term} {a : Addr} {cl : Cell} {ty : FieldType} {n : Int32} (ev : t.eval args s none [] s = some (.ref a)) (A : Arr s s.heap a cl ty) (h : (Term.length t).eval args s none [] s = some (.int n)) : cl.slots.size < 2 ^ 31 ∧ cl.slots.size.toInt32 = n := by
  have ha : s.arrayAt? a = some cl := Arr.fin (State.WarmedH.refl s).alike A
  by_cases q : cl.slots.size < 2 ^ 31
  · rw [len_f ev ha q] at h
    exact ⟨q, Value.int.inj (Option.some.inj h)⟩
  · simp [Term.eval, ev, ha] at h
    omega
theorem own_elem {args : Array Value} {s : State} {t : Term} {a : Addr} {cl : Cell} {ty : FieldType} {j : Int32} {v : Value} (ev : t.eval args s none [] s = some (.ref a)) (A : Arr s s.heap a cl ty) (h : (Term.elem t (Term.int j)).eval args s none [] s = some v) (hn : ¬ j < 0 := by decide) : cl.slots[j.toNatClampNeg]? = some v := by
  have ha : s.arrayAt? a = some cl := Arr.fin (State.WarmedH.refl s).alike A
  rw [← elem_f ev (Term.int_eval j) ha hn]; exact h
section OwnW
variable {p : Program} {l : Launch} {e : Env} {R : Room} {s : State} {m : MethodId} {args : Array Value} {below : List Frame} {meth : Method} {c : Code} {T : State} {locs : List Loc} {cells slots : Nat} {Z : State} {a0 : Array Value} {h h' : Heap} {EL : List (String × Nat)} {vm0 : Vm}
/-- the contract of one body that may load String constants -/
abbrev OMetW (l : Launch) (Z : State) (EL : List (String × Nat)) (y : MethodName) (bytes : ByteArray) (maxL : Nat) (ret : Option FieldType) (ws : List Jvm.Cond) (rm : Room) (as' : Array Value) (h0 : Heap) (Q : Option Value → Heap → List Loc → Prop) : Prop :=
  MetFree l y (head1 (Jvm.Cond.code y bytes maxL ret :: ws) rm) (fun a U => a = as' ∧ Z.Warmed39 U.vm ∧ U.heap = h0 ∧ CHv Z EL U.vm h0) (fun _ _ _ _ _ => True) (fun _ U o U' => ∃ v L, o = .returned v ∧ Q v U'.heap L ∧ CHr Z EL U.vm U.heap U'.vm U'.heap ∧ ReturnedEndW U o U' L rm.cells rm.slots)
def OEndW (s Z : State) (EL : List (String × Nat)) (Q : Option Value → Heap → List Loc → Prop) (kc ks : Nat) (t : State) (o : Outcome) : Prop :=
  ∃ v L, o = .returned v ∧ Q v t.heap L ∧ CHr Z EL s.vm s.heap t.vm t.heap ∧ ReturnedEndW s o t L kc ks
/-- what a walk that may have interned keeps: the tables at hand, and that what they book stands in the heap at hand -/
def OW (Z s : State) (EL : List (String × Nat)) (vm0 : Vm) (h : Heap) : Prop := (∃ k, s.Since vm0 k ∧ k ≤ h.size) ∧ Z.Warmed39 vm0 ∧ CHr Z EL s.vm s.heap vm0 h
theorem OW.chv (O : OW Z s EL vm0 h) : CHv Z EL vm0 h := O.2.2.1
theorem OW.trans {vm1 : Vm} (O : OW Z s EL vm0 h) (hZ : Z.Warmed39 vm1) {k : Nat} (hS : s.Since vm1 k) (hk : k ≤ h'.size) (C : CHr Z EL vm0 h vm1 h') : OW Z s EL vm1 h' := ⟨⟨k, hS, hk⟩, hZ, O.2.2.trans C⟩
theorem OW.ext (O : OW Z s EL vm0 h) (E : Ext h h') : OW Z s EL vm0 h' := by
  obtain ⟨⟨k, a, b⟩, c, d⟩ := O
  exact ⟨⟨k, a, Nat.le_trans b E.1⟩, c, d.trans (CHr.ext E d.1)⟩
theorem OW.wr {a : Addr} {sl : Nat} {v : Value} (O : OW Z s EL vm0 h) (W : Wr h h' a sl v) (S : Safe Z EL vm0 h a) : OW Z s EL vm0 h' := by
  obtain ⟨⟨k, x, b⟩, c, d⟩ := O
  exact ⟨⟨k, x, by rw [W.size]; exact b⟩, c, d.trans (CHr.wr W S d.1)⟩
theorem OW.keep {ws : List Addr} (O : OW Z s EL vm0 h) (K : Keep h h' ws) (hs : ∀ x ∈ ws, Safe Z EL vm0 h x) : OW Z s EL vm0 h' := by
  obtain ⟨⟨k, x, b⟩, c, d⟩ := O
  exact ⟨⟨k, x, Nat.le_trans b K.1⟩, c, d.trans (CHr.keep K hs d.1)⟩
theorem OW.eq (O : OW Z s EL vm0 h) (q : h' = h) : OW Z s EL vm0 h' := q ▸ O
theorem OMetW.body {y : MethodName} {bytes : ByteArray} {maxL : Nat} {ret : Option FieldType} {ws : List Jvm.Cond} {rm : Room} {as' : Array Value} {h0 : Heap} {Q : Option Value → Heap → List Loc → Prop} (hpn : plainFor y = true)
    (b : ∀ (p : Program) (e : Env) (s : State) (m : MethodId) (below : List Frame) (meth : Method) (c : Code) (s₁ : State), p.tables.exec = Jvm.exec → c.code = bytes → c.maxLocals = maxL → (s.setVm s.vm).vm.findClass y.cls = some m.cls → meth.name = y.name → meth.sig.returnType = ret → meth.locks = false → Z.Warmed39 (s.setVm s.vm).vm →
      Stand p l e rm (s.setVm s.vm) m as' below meth c s₁ [] 0 0 → s₁.heap = h0 → OW Z s EL s.vm h0 → OGo p e below (s₁.setTop (entryFrame m as' maxL)) (OEndW s Z EL Q rm.cells rm.slots)) : OMetW l Z EL y bytes maxL ret ws rm as' h0 Q := by
  refine MetFree.of_bodySF hpn hisR ?_
  intro p e s m args below meth c s₁ Bd hml0 hP hK
  obtain ⟨rfl, hZ, hh, hC⟩ := hP
  exact b p e s m below meth c s₁ Bd.exec Bd.bytes hml0 (findClass_of_methodNamed Bd.named) (name_of_methodNamed Bd.named Bd.method).1 Bd.returns Bd.notSynchronized hZ (Stand.of_body Bd) (by rw [← hh, Bd.state]; rfl)
    ⟨⟨0, (State.WarmedH.refl s).since 0, Nat.zero_le _⟩, hZ, by rw [hh]; exact CHr.refl hC⟩
theorem own_endW (X : Stand p l e R (s.setVm vm0) m args below meth c T locs cells slots) (hlk : meth.locks = false) (hEL : EW Z a0 EL) (O : OW Z s EL vm0 h) (eT : T.heap = h) {v : Option Value} (hv : meth.sig.returnType = none → v = none) {Q : Option Value → Heap → List Loc → Prop} {kc ks : Nat} (hQ : Q v T.heap locs) (h1 : cells ≤ kc) (h2 : slots ≤ ks) :
    ∃ fs, (∀ (f : JFrame) (acts : List Action), f.method = m → f.locked = none → f.entered = [] → (doReturn e (T.setTop f) acts v).1 = T.setFrames fs) ∧ (T.setFrames fs).status = .running ∧ Ended (T.setFrames fs) below (.returned v) ∧ OEndW s Z EL Q kc ks (T.setFrames fs) (.returned v) := by
  obtain ⟨⟨k, hS, hk⟩, hZ, hC⟩ := O
  obtain ⟨fs, q1, q2, q3, q4, q5, q6, q7⟩ := X.leaveW hS (by rw [eT]; exact hk) (v := v) hv hlk
  refine ⟨fs, q1, q2, q3, v, locs, rfl, hQ, ?_, q4, q5, q6, q7.mono h1 h2⟩
  have C := hC.trans (CHv.at X hZ hEL hC.1)
  rw [← eT] at C
  exact C
theorem own_retW (X : Stand p l e R (s.setVm vm0) m args below meth c T locs cells slots) (hx : p.tables.exec = Jvm.exec) (hlk : meth.locks = false) (hEL : EW Z a0 EL) (O : OW Z s EL vm0 h) (eT : T.heap = h) {pc : Nat} {Ls : Array Slot} {w : Value} {t : FieldType} {i : Instr} {rest : List Value} (hret : meth.sig.returnType = some t) (hn : narrow t w = w)
    (hi : (i = .ireturn ∧ (t = .int ∨ t = .boolean ∨ t = .byte ∨ t = .char ∨ t = .short) ∧ ∃ z, w = .int z) ∨ (i = .lreturn ∧ t = .long ∧ ∃ z, w = .long z) ∨ (i = .dreturn ∧ t = .double ∧ ∃ z, w = .double z) ∨ (i = .freturn ∧ t = .float ∧ ∃ z, w = .float z) ∨ (i = .areturn ∧ t.isReference = true ∧ w.isRef = true))
    (hd : decode c.code pc = .ok (i, 1)) {Q : Option Value → Heap → List Loc → Prop} {kc ks : Nat} (hQ : Q (some w) T.heap locs) (h1 : cells ≤ kc) (h2 : slots ≤ ks) : OGo p e below (T.setTop (mkF m pc Ls (w :: rest))) (OEndW s Z EL Q kc ks) := by
  obtain ⟨fs, hr, q2, q3, q4⟩ := own_endW X hlk hEL O eT (v := some w) (fun h => by rw [hret] at h; cases h) hQ h1 h2
  exact ⟨_, _, retOut X hx hret hn hi hd hr, q2, q3, q4⟩
theorem own_retNW (X : Stand p l e R (s.setVm vm0) m args below meth c T locs cells slots) (hx : p.tables.exec = Jvm.exec) (hlk : meth.locks = false) (hEL : EW Z a0 EL) (O : OW Z s EL vm0 h) (eT : T.heap = h) {pc : Nat} {Ls : Array Slot} {z : Int32} {t : FieldType} {rest : List Value} (hret : meth.sig.returnType = some t) (ht : t = .boolean ∨ t = .byte ∨ t = .char ∨ t = .short)
    (hd : decode c.code pc = .ok (.ireturn, 1)) {Q : Option Value → Heap → List Loc → Prop} {kc ks : Nat} (hQ : Q (some (.int (nar t z))) T.heap locs) (h1 : cells ≤ kc) (h2 : slots ≤ ks) : OGo p e below (T.setTop (mkF m pc Ls (.int z :: rest))) (OEndW s Z EL Q kc ks) := by
  obtain ⟨fs, hr, q2, q3, q4⟩ := own_endW X hlk hEL O eT (v := some (.int (nar t z))) (fun h => by rw [hret] at h; cases h) hQ h1 h2
  exact ⟨_, _, retN X hx hret ht hd hr, q2, q3, q4⟩
theorem own_ret0W (X : Stand p l e R (s.setVm vm0) m args below meth c T locs cells slots) (hx : p.tables.exec = Jvm.exec) (hlk : meth.locks = false) (hEL : EW Z a0 EL) (O : OW Z s EL vm0 h) (eT : T.heap = h) {pc : Nat} {Ls : Array Slot} (hret : meth.sig.returnType = none)
    (hd : decode c.code pc = .ok (.return_, 1)) {Q : Option Value → Heap → List Loc → Prop} {kc ks : Nat} (hQ : Q none T.heap locs) (h1 : cells ≤ kc) (h2 : slots ≤ ks) : OGo p e below (T.setTop (mkF m pc Ls [])) (OEndW s Z EL Q kc ks) := by
  obtain ⟨fs, hr, q2, q3, q4⟩ := own_endW X hlk hEL O eT (v := none) (fun _ => rfl) hQ h1 h2
  exact ⟨_, _, X.returnOut hx hret hd hr, q2, q3, q4⟩
/-- behind a callee that may have interned -/
theorem own_behind {T' : State} {own : String} {L : List Loc} {kc ks : Nat} {Q : Option Value → Heap → List Loc → Prop} {v : Option Value} (O : OW Z s EL vm0 h) (eT : T.heap = h) (hown : (s.setVm vm0).vm.findClass own = some m.cls)
    (hS2 : (s.setVm vm0).Since T'.vm T'.heap.size) (hg : T.heap.size ≤ T'.heap.size) (C : CHr Z EL vm0 h T'.vm T'.heap) : OW Z s EL T'.vm T'.heap ∧ Z.Warmed39 (s.setVm T'.vm).vm ∧ (s.setVm T'.vm).vm.findClass own = some m.cls := by
  obtain ⟨⟨k, hS, hk⟩, hZ, hC⟩ := O
  have hW : Z.Warmed39 T'.vm := State.Warmed39.trans (t := s.setVm vm0) hZ hS2.1
  exact ⟨⟨⟨_, hS.trans hS2 (Nat.le_trans hk (by rw [← eT]; exact hg)), Nat.le_refl _⟩, hW, hC.trans C⟩, hW, (hS2.1.alike.findClass _ _).trans hown⟩
theorem own_callSW (X : Stand p l e R (s.setVm vm0) m args below meth c T locs cells slots) (hx : p.tables.exec = Jvm.exec) (hZ : Z.Warmed39 (s.setVm vm0).vm) {own : String} {index : Nat} {y : MethodName} {bytes : ByteArray} {maxL : Nat} {ret : Option FieldType}
    (hown : (s.setVm vm0).vm.findClass own = some m.cls) (w1 : (Jvm.Cond.methodLink own index y).before a0 Z = true) (w2 : (Jvm.Cond.static y).before a0 Z = true) (w3 : (Jvm.Cond.initialized y.cls).before a0 Z = true)
    (w4 : (Jvm.Cond.code y bytes maxL ret).before a0 Z = true) (hy : y.cls ≠ "java/lang/invoke/MethodHandle" ∧ y.cls ≠ "java/lang/invoke/VarHandle") (hEL : EW Z a0 EL) (O : OW Z s EL vm0 h)
    {W : Nat} {rm : Room} {argsL rest : List Value} {Q : Option Value → Heap → List Loc → Prop} (hM : OMetW l Z EL y bytes maxL ret [] rm argsL.toArray h Q) (eT : T.heap = h)
    {pc : Nat} {Ls : Array Slot} (hsize : Ls.size = c.maxLocals) (hlen : ∀ sig, parseMethodDescriptor y.desc = some sig → argsL.length = sig.parameters.length) (hW : (rest.map fun v => v.category).sum = W)
    (hd : decode c.code pc = .ok (.invokestatic index, 3)) (hf : rm.frames + 1 ≤ R.frames) (hl : W + (maxL + 11) + rm.locals ≤ R.locals) (hc : cells + rm.cells ≤ R.cells) (hs : slots + rm.slots ≤ R.slots) {P : State → Outcome → Prop}
    (k : ∀ (v : Option Value) (T' : State) (L : List Loc), Stand p l e R (s.setVm T'.vm) m args below meth c T' (locs ++ L) (cells + rm.cells) (slots + rm.slots) → Q v T'.heap L → OW Z s EL T'.vm T'.heap → Z.Warmed39 (s.setVm T'.vm).vm → (s.setVm T'.vm).vm.findClass own = some m.cls → CHr Z EL vm0 h T'.vm T'.heap → OGo p e below (T'.setTop (mkF m (pc + 3) Ls (v.toList ++ rest))) P) :
    OGo p e below (T.setTop (mkF m pc Ls (argsL.reverse ++ rest))) P := by
  obtain ⟨v, vm, ⟨T', L', k', n'⟩, -, X', hS2, hg, ⟨L, hQ, l1, y1, z1, C⟩, st⟩ := callSS X hx (y := y) hown (mvT hZ w1) (mvT hZ w2) (mvT hZ w3) (mvT hZ w4) hy (backOfSH (W := W) hM hZ w4 w3 hf hl hEL O.chv) (g := mkF m pc Ls (argsL.reverse ++ rest)) rfl hsize (argsL := argsL) (rest := rest) hlen rfl
    (by show 2 * 0 + _ ≤ _; rw [hW]; omega) hd (fun _ _ => ⟨rfl, eT, hc, hs⟩)
  dsimp only [Pt.U, Pt.locs, Pt.cells, Pt.slots] at X' l1 y1 z1 st hQ hS2 hg C
  subst l1 y1 z1
  obtain ⟨r1, r2, r3⟩ := own_behind (L := L) (kc := 0) (ks := 0) (Q := Q) (v := v) O eT hown hS2 hg C
  exact OGo.step (fun _ kk => st.trans kk) (k v T' L X' hQ r1 r2 r3 C)
theorem own_specialW (X : Stand p l e R (s.setVm vm0) m args below meth c T locs cells slots) (hx : p.tables.exec = Jvm.exec) (hZ : Z.Warmed39 (s.setVm vm0).vm) {own : String} {index : Nat} {y : MethodName} {bytes : ByteArray} {maxL : Nat} (hy1 : y.name = "<init>")
    (hown : (s.setVm vm0).vm.findClass own = some m.cls) (w1 : (Jvm.Cond.methodLink own index y).before a0 Z = true) (w2 : (Jvm.Cond.instanceMethod y).before a0 Z = true)
    (w4 : (Jvm.Cond.code y bytes maxL none).before a0 Z = true) (w3 : (Jvm.Cond.initialized y.cls).before a0 Z = true) (hy : y.cls ≠ "java/lang/invoke/MethodHandle" ∧ y.cls ≠ "java/lang/invoke/VarHandle") (hEL : EW Z a0 EL) (O : OW Z s EL vm0 h) {a : Addr}
    {W : Nat} {rm : Room} {argsL rest : List Value} {Q : Option Value → Heap → List Loc → Prop} (hM : OMetW l Z EL y bytes maxL none [] rm (.ref a :: argsL).toArray h Q) (eT : T.heap = h)
    {pc : Nat} {Ls : Array Slot} (hsize : Ls.size = c.maxLocals) (hlen : ∀ sig, parseMethodDescriptor y.desc = some sig → argsL.length = sig.parameters.length) (hW : (rest.map fun v => v.category).sum = W)
    (hd : decode c.code pc = .ok (.invokespecial index, 3)) (hf : rm.frames + 1 ≤ R.frames) (hl : W + (maxL + 11) + rm.locals ≤ R.locals) (hc : cells + rm.cells ≤ R.cells) (hs : slots + rm.slots ≤ R.slots) {P : State → Outcome → Prop}
    (k : ∀ (v : Option Value) (T' : State) (L : List Loc), Stand p l e R (s.setVm T'.vm) m args below meth c T' (locs ++ L) (cells + rm.cells) (slots + rm.slots) → Q v T'.heap L → OW Z s EL T'.vm T'.heap → Z.Warmed39 (s.setVm T'.vm).vm → (s.setVm T'.vm).vm.findClass own = some m.cls → CHr Z EL vm0 h T'.vm T'.heap → OGo p e below (T'.setTop (mkF m (pc + 3) Ls (v.toList ++ rest))) P) :
    OGo p e below (T.setTop (mkF m pc Ls (argsL.reverse ++ .ref a :: rest))) P := by
  obtain ⟨v, vm, ⟨T', L', k', n'⟩, -, X', hS2, hg, ⟨L, hQ, l1, y1, z1, C⟩, st⟩ := X.specialBackS hx (y := y) hy1 hown (mvT hZ w1) (mvT hZ w2) (mvT hZ w4) hy (backOfSH (W := W) hM hZ w4 w3 hf hl hEL O.chv) (g := mkF m pc Ls (argsL.reverse ++ .ref a :: rest)) rfl hsize (Steps.refl _) (a := a) (argsL := argsL) (rest := rest) hlen rfl
    (by show 2 * 0 + _ ≤ _; rw [hW]; omega) hd (fun _ _ => ⟨rfl, eT, hc, hs⟩)
  dsimp only [Pt.U, Pt.locs, Pt.cells, Pt.slots] at X' l1 y1 z1 st hQ hS2 hg C
  subst l1 y1 z1
  obtain ⟨r1, r2, r3⟩ := own_behind (L := L) (kc := 0) (ks := 0) (Q := Q) (v := v) O eT hown hS2 hg C
  exact OGo.step (fun _ kk => st.trans kk) (k v T' L X' hQ r1 r2 r3 C)
theorem own_virtualW (X : Stand p l e R (s.setVm vm0) m args below meth c T locs cells slots) (hx : p.tables.exec = Jvm.exec) (hZ : Z.Warmed39 (s.setVm vm0).vm) {own C : String} {index : Nat} {y z : MethodName} {bytes : ByteArray} {maxL : Nat} {ret : Option FieldType}
    (hown : (s.setVm vm0).vm.findClass own = some m.cls) (w1 : (Jvm.Cond.methodLink own index y).before a0 Z = true) (w2 : (Jvm.Cond.declares y).before a0 Z = true) (hnf : NotFace (s.setVm vm0) y) (w5 : (Jvm.Cond.selects C y z).before a0 Z = true) (w6 : (Jvm.Cond.instanceMethod z).before a0 Z = true)
    (hy : y.cls ≠ "java/lang/invoke/MethodHandle" ∧ y.cls ≠ "java/lang/invoke/VarHandle") (w4 : (Jvm.Cond.code z bytes maxL ret).before a0 Z = true) (w3 : (Jvm.Cond.initialized z.cls).before a0 Z = true) (hEL : EW Z a0 EL) (O : OW Z s EL vm0 h) {b : Addr} (hb : Exa Z h b C)
    {W : Nat} {rm : Room} {argsL rest : List Value} {Q : Option Value → Heap → List Loc → Prop} (hM : OMetW l Z EL z bytes maxL ret [] rm (.ref b :: argsL).toArray h Q) (eT : T.heap = h)
    {pc : Nat} {Ls : Array Slot} (hsize : Ls.size = c.maxLocals) (hlen : ∀ sig, parseMethodDescriptor y.desc = some sig → argsL.length = sig.parameters.length) (hW : (rest.map fun v => v.category).sum = W)
    (hd : decode c.code pc = .ok (.invokevirtual index, 3)) (hf : rm.frames + 1 ≤ R.frames) (hl : W + (maxL + 11) + rm.locals ≤ R.locals) (hc : cells + rm.cells ≤ R.cells) (hs : slots + rm.slots ≤ R.slots) {P : State → Outcome → Prop}
    (k : ∀ (v : Option Value) (T' : State) (L : List Loc), Stand p l e R (s.setVm T'.vm) m args below meth c T' (locs ++ L) (cells + rm.cells) (slots + rm.slots) → Q v T'.heap L → OW Z s EL T'.vm T'.heap → Z.Warmed39 (s.setVm T'.vm).vm → (s.setVm T'.vm).vm.findClass own = some m.cls → CHr Z EL vm0 h T'.vm T'.heap → OGo p e below (T'.setTop (mkF m (pc + 3) Ls (v.toList ++ rest))) P) :
    OGo p e below (T.setTop (mkF m pc Ls (argsL.reverse ++ .ref b :: rest))) P := by
  obtain ⟨cq, kq, qa, qb, qc⟩ := isOf hZ eT hb
  obtain ⟨v, vm, ⟨T', L', k', n'⟩, -, X', hS2, hg, ⟨L, hQ, l1, y1, z1, C⟩, st⟩ := X.virtualBackS hx (y := y) (z := z) hown (mvT hZ w1) (mvT hZ w2) hnf (mvT hZ w5) (mvT hZ w6) hy (backOfSH (W := W) hM hZ w4 w3 hf hl hEL O.chv) qa qc (g := mkF m pc Ls (argsL.reverse ++ .ref b :: rest)) rfl hsize (Steps.refl _) (argsL := argsL) (rest := rest) hlen rfl
    (by show 2 * 0 + _ ≤ _; rw [hW]; omega) hd (fun _ _ => ⟨rfl, eT, hc, hs⟩)
  dsimp only [Pt.U, Pt.locs, Pt.cells, Pt.slots] at X' l1 y1 z1 st hQ hS2 hg C
  subst l1 y1 z1
  obtain ⟨r1, r2, r3⟩ := own_behind (L := L) (kc := 0) (ks := 0) (Q := Q) (v := v) O eT hown hS2 hg C
  exact OGo.step (fun _ kk => st.trans kk) (k v T' L X' hQ r1 r2 r3 C)
/-- 'ldc' of a String constant of EL -/
theorem own_ldcW (X : Stand p l e R (s.setVm vm0) m args below meth c T locs cells slots) (hx : p.tables.exec = Jvm.exec) {own text : String} {index : Nat} (hown : (s.setVm vm0).vm.findClass own = some m.cls) (w : (Jvm.Cond.stringLink own index text).before a0 Z = true) (wS : ∀ a ∈ Bundle.stringAtoms, a.before a0 Z = true)
    (hEL : EW Z a0 EL) (O : OW Z s EL vm0 h) (eT : T.heap = h) (hmem : (own, index) ∈ EL) {vs : List Value} {z : Int32} (ht : (∀ c ∈ text.toList, c.toNat < 256) ∧ text.toList.map (fun c => Value.int (Jvm.Lit.byteI c.toNat.toUInt16)) = vs) (hz : ¬ z < 0) (hl : z.toNatClampNeg = vs.length)
    {pc : Nat} {Ls : Array Slot} {st : List Value} (hd : decode c.code pc = .ok (.ldc index, 2)) {n : Nat} (hn : 4 * text.toList.length ≤ n) (hbig : n ≤ 536870912) (hc : cells + 2 ≤ R.cells) (hl' : slots + (n + 4) ≤ R.slots) {P : State → Outcome → Prop}
    (k : ∀ (a b : Addr) (kb : ClassId) (T' : State), Stand p l e R (s.setVm T'.vm) m args below meth c T' locs (cells + 2) (slots + (n + 4)) → Ext h T'.heap → OW Z s EL T'.vm T'.heap → Z.Warmed39 (s.setVm T'.vm).vm → (s.setVm T'.vm).vm.findClass own = some m.cls → CHr Z EL vm0 h T'.vm T'.heap →
      Exa Z T'.heap a "java/lang/String" → Fld Z T'.heap a "java/lang/String" "coder" "B" (.int 0) → Fld Z T'.heap a "java/lang/String" "value" "[B" (.ref b) → Arv Z T'.heap b kb .byte z vs (.int 0) → (∀ x, Safe Z EL T'.vm T'.heap x → x ≠ a ∧ x ≠ b) → OGo p e below (T'.setTop (mkF m (pc + 2) Ls (.ref a :: st))) P) :
    OGo p e below (T.setTop (mkF m pc Ls st)) P := by
  obtain ⟨⟨k0, hS, hk⟩, hZ, hC⟩ := O
  obtain ⟨a, T', h', k1, b, kb, X', rfl, E, hS2, hk2, hW, hf, hE, hF1, hF2, hA, -, -, C, -, hsf, stp⟩ := ldcCH X hx hZ hown w wS eT hS hk hEL hmem hC.1 ht hz hl (g := mkF m pc Ls st) rfl hd hn hbig hc hl'
  exact OGo.step stp (k a b kb T' X' E ⟨⟨k1, hS2, hk2⟩, hW, hC.trans C⟩ hW hf C hE hF1 hF2 hA hsf)
end OwnW
theorem own_pd0 : parseMethodDescriptor "(I)C" = some ⟨[.int], some .char⟩ := by decide +kernel
theorem own_pd1 : parseMethodDescriptor "([C)V" = some ⟨[(.array .char)], none⟩ := by decide +kernel
theorem own_pd2 : parseMethodDescriptor "(C)Ljava/lang/String;" = some ⟨[.char], some (.object "java/lang/String")⟩ := by decide +kernel
theorem own_pd3 : parseMethodDescriptor "()[Lcom/example/tenantd/tenantd/Permission;" = some ⟨[], some (.array (.object "com/example/tenantd/tenantd/Permission"))⟩ := by decide +kernel
theorem own_pd4 : parseMethodDescriptor "(Ljava/lang/Object;)Z" = some ⟨[(.object "java/lang/Object")], some .boolean⟩ := by decide +kernel
theorem own_pd5 : parseMethodDescriptor "()Ljava/util/Optional;" = some ⟨[], some (.object "java/util/Optional")⟩ := by decide +kernel
theorem own_pd6 : parseMethodDescriptor "(Ljava/lang/Object;)Ljava/util/Optional;" = some ⟨[(.object "java/lang/Object")], some (.object "java/util/Optional")⟩ := by decide +kernel
theorem own_pd7 : parseMethodDescriptor "(IIIJ)C" = some ⟨[.int, .int, .int, .long], some .char⟩ := by decide +kernel
theorem own_pd8 : parseMethodDescriptor "(Ljava/lang/String;)Ljava/util/Optional;" = some ⟨[(.object "java/lang/String")], some (.object "java/util/Optional")⟩ := by decide +kernel
theorem own_pd9 : parseMethodDescriptor "(Ljava/lang/Object;)Ljava/lang/Object;" = some ⟨[(.object "java/lang/Object")], some (.object "java/lang/Object")⟩ := by decide +kernel
theorem own_pd10 : parseMethodDescriptor "(ICCCCCCC)Ljava/lang/String;" = some ⟨[.int, .char, .char, .char, .char, .char, .char, .char], some (.object "java/lang/String")⟩ := by decide +kernel
theorem own_pd11 : parseMethodDescriptor "([CIILjava/lang/Void;)V" = some ⟨[(.array .char), .int, .int, (.object "java/lang/Void")], none⟩ := by decide +kernel
theorem own_pd12 : parseMethodDescriptor "(C)Z" = some ⟨[.char], some .boolean⟩ := by decide +kernel
theorem own_pd13 : parseMethodDescriptor "(C)[B" = some ⟨[.char], some (.array .byte)⟩ := by decide +kernel
theorem own_pd14 : parseMethodDescriptor "([BB)V" = some ⟨[(.array .byte), .byte], none⟩ := by decide +kernel
theorem own_pd15 : parseMethodDescriptor "(Ljava/lang/Object;)V" = some ⟨[(.object "java/lang/Object")], none⟩ := by decide +kernel
theorem own_pn0 : plainName "com/example/tenantd/tenantd/PermissionOfTextPinLaw" = true := by first | (simp [plainName, overriddenIn]; done) | decide +kernel
theorem own_pn1 : plainName "com/example/tenantd/tenantd/Permission" = true := by first | (simp [plainName, overriddenIn]; done) | decide +kernel
theorem own_pn2 : plainName "java/lang/String" = true := by first | (simp [plainName, overriddenIn]; done) | decide +kernel
theorem own_pn3 : plainName "java/lang/StringLatin1" = true := by first | (simp [plainName, overriddenIn]; done) | decide +kernel
theorem own_pn4 : plainName "java/util/Optional" = true := by first | (simp [plainName, overriddenIn]; done) | decide +kernel
theorem own_pn5 : plainName "java/util/Objects" = true := by first | (simp [plainName, overriddenIn]; done) | decide +kernel
theorem own_d_method_2_code_0 : decode method_2_code 0 = .ok (.lload_n 3, 1) := by decide +kernel
theorem own_d_method_2_code_1 : decode method_2_code 1 = .ok (.bipush 8, 2) := by decide +kernel
theorem own_d_method_2_code_3 : decode method_2_code 3 = .ok (.iload_n 1, 1) := by decide +kernel
theorem own_d_method_2_code_4 : decode method_2_code 4 = .ok (.imul, 1) := by decide +kernel
theorem own_d_method_2_code_5 : decode method_2_code 5 = .ok (.lushr, 1) := by decide +kernel
theorem own_d_method_2_code_6 : decode method_2_code 6 = .ok (.ldc2_w 7, 3) := by decide +kernel
theorem own_d_method_2_code_9 : decode method_2_code 9 = .ok (.land, 1) := by decide +kernel
theorem own_d_method_2_code_10 : decode method_2_code 10 = .ok (.l2i, 1) := by decide +kernel
theorem own_d_method_2_code_11 : decode method_2_code 11 = .ok (.i2c, 1) := by decide +kernel
theorem own_d_method_2_code_12 : decode method_2_code 12 = .ok (.istore 5, 2) := by decide +kernel
theorem own_d_method_2_code_14 : decode method_2_code 14 = .ok (.iload_n 2, 1) := by decide +kernel
theorem own_d_method_2_code_15 : decode method_2_code 15 = .ok (.iload_n 1, 1) := by decide +kernel
theorem own_d_method_2_code_16 : decode method_2_code 16 = .ok (.iushr, 1) := by decide +kernel
theorem own_d_method_2_code_17 : decode method_2_code 17 = .ok (.iconst 1, 1) := by decide +kernel
theorem own_d_method_2_code_18 : decode method_2_code 18 = .ok (.iand, 1) := by decide +kernel
theorem own_d_method_2_code_19 : decode method_2_code 19 = .ok (.ifCond .eq 6, 3) := by decide +kernel
theorem own_d_method_2_code_25 : decode method_2_code 25 = .ok (.iload_n 0, 1) := by decide +kernel
theorem own_d_method_2_code_26 : decode method_2_code 26 = .ok (.ifCond .ne 15, 3) := by decide +kernel
theorem own_d_method_2_code_29 : decode method_2_code 29 = .ok (.iload_n 1, 1) := by decide +kernel
theorem own_d_method_2_code_30 : decode method_2_code 30 = .ok (.iconst 5, 1) := by decide +kernel
theorem own_d_method_2_code_31 : decode method_2_code 31 = .ok (.if_icmp .ge 10, 3) := by decide +kernel
theorem own_d_method_2_code_34 : decode method_2_code 34 = .ok (.ldc 9, 2) := by decide +kernel
theorem own_d_method_2_code_36 : decode method_2_code 36 = .ok (.iload_n 1, 1) := by decide +kernel
theorem own_d_method_2_code_37 : decode method_2_code 37 = .ok (.invokevirtual 11, 3) := by decide +kernel
theorem own_d_method_2_code_40 : decode method_2_code 40 = .ok (.ireturn, 1) := by decide +kernel
theorem own_d_method_2_code_41 : decode method_2_code 41 = .ok (.iload_n 0, 1) := by decide +kernel
theorem own_d_method_2_code_42 : decode method_2_code 42 = .ok (.iconst 1, 1) := by decide +kernel
theorem own_d_method_2_code_43 : decode method_2_code 43 = .ok (.if_icmp .ne 15, 3) := by decide +kernel
theorem own_d_method_2_code_46 : decode method_2_code 46 = .ok (.iload_n 1, 1) := by decide +kernel
theorem own_d_method_2_code_47 : decode method_2_code 47 = .ok (.iconst 4, 1) := by decide +kernel
theorem own_d_method_2_code_48 : decode method_2_code 48 = .ok (.if_icmp .ge 10, 3) := by decide +kernel
theorem own_d_method_2_code_51 : decode method_2_code 51 = .ok (.ldc 17, 2) := by decide +kernel
theorem own_d_method_2_code_53 : decode method_2_code 53 = .ok (.iload_n 1, 1) := by decide +kernel
theorem own_d_method_2_code_54 : decode method_2_code 54 = .ok (.invokevirtual 11, 3) := by decide +kernel
theorem own_d_method_2_code_57 : decode method_2_code 57 = .ok (.ireturn, 1) := by decide +kernel
theorem own_d_method_2_code_58 : decode method_2_code 58 = .ok (.iload 5, 2) := by decide +kernel
theorem own_d_method_2_code_60 : decode method_2_code 60 = .ok (.ireturn, 1) := by decide +kernel
theorem own_d_method_2_code_22 : decode method_2_code 22 = .ok (.iload 5, 2) := by decide +kernel
theorem own_d_method_2_code_24 : decode method_2_code 24 = .ok (.ireturn, 1) := by decide +kernel
theorem own_d_method_3_code_0 : decode method_3_code 0 = .ok (.iload_n 0, 1) := by decide +kernel
theorem own_d_method_3_code_1 : decode method_3_code 1 = .ok (.ifCond .ne 14, 3) := by decide +kernel
theorem own_d_method_3_code_4 : decode method_3_code 4 = .ok (.new 12, 3) := by decide +kernel
theorem own_d_method_3_code_7 : decode method_3_code 7 = .ok (.dup, 1) := by decide +kernel
theorem own_d_method_3_code_8 : decode method_3_code 8 = .ok (.iconst 0, 1) := by decide +kernel
theorem own_d_method_3_code_9 : decode method_3_code 9 = .ok (.newarray .char, 2) := by decide +kernel
theorem own_d_method_3_code_11 : decode method_3_code 11 = .ok (.invokespecial 19, 3) := by decide +kernel
theorem own_d_method_3_code_14 : decode method_3_code 14 = .ok (.areturn, 1) := by decide +kernel
theorem own_d_method_3_code_15 : decode method_3_code 15 = .ok (.iload_n 0, 1) := by decide +kernel
theorem own_d_method_3_code_16 : decode method_3_code 16 = .ok (.iconst 1, 1) := by decide +kernel
theorem own_d_method_3_code_17 : decode method_3_code 17 = .ok (.if_icmp .ne 8, 3) := by decide +kernel
theorem own_d_method_3_code_20 : decode method_3_code 20 = .ok (.iload_n 1, 1) := by decide +kernel
theorem own_d_method_3_code_21 : decode method_3_code 21 = .ok (.invokestatic 22, 3) := by decide +kernel
theorem own_d_method_3_code_24 : decode method_3_code 24 = .ok (.areturn, 1) := by decide +kernel
theorem own_d_method_3_code_25 : decode method_3_code 25 = .ok (.iload_n 0, 1) := by decide +kernel
theorem own_d_method_3_code_26 : decode method_3_code 26 = .ok (.iconst 2, 1) := by decide +kernel
theorem own_d_method_3_code_27 : decode method_3_code 27 = .ok (.if_icmp .ne 22, 3) := by decide +kernel
theorem own_d_method_3_code_30 : decode method_3_code 30 = .ok (.new 12, 3) := by decide +kernel
theorem own_d_method_3_code_33 : decode method_3_code 33 = .ok (.dup, 1) := by decide +kernel
theorem own_d_method_3_code_34 : decode method_3_code 34 = .ok (.iconst 2, 1) := by decide +kernel
theorem own_d_method_3_code_35 : decode method_3_code 35 = .ok (.newarray .char, 2) := by decide +kernel
theorem own_d_method_3_code_37 : decode method_3_code 37 = .ok (.dup, 1) := by decide +kernel
theorem own_d_method_3_code_38 : decode method_3_code 38 = .ok (.iconst 0, 1) := by decide +kernel
theorem own_d_method_3_code_39 : decode method_3_code 39 = .ok (.iload_n 1, 1) := by decide +kernel
theorem own_d_method_3_code_40 : decode method_3_code 40 = .ok (.castore, 1) := by decide +kernel
theorem own_d_method_3_code_41 : decode method_3_code 41 = .ok (.dup, 1) := by decide +kernel
theorem own_d_method_3_code_42 : decode method_3_code 42 = .ok (.iconst 1, 1) := by decide +kernel
theorem own_d_method_3_code_43 : decode method_3_code 43 = .ok (.iload_n 2, 1) := by decide +kernel
theorem own_d_method_3_code_44 : decode method_3_code 44 = .ok (.castore, 1) := by decide +kernel
theorem own_d_method_3_code_45 : decode method_3_code 45 = .ok (.invokespecial 19, 3) := by decide +kernel
theorem own_d_method_3_code_48 : decode method_3_code 48 = .ok (.areturn, 1) := by decide +kernel
theorem own_d_method_3_code_49 : decode method_3_code 49 = .ok (.iload_n 0, 1) := by decide +kernel
theorem own_d_method_3_code_50 : decode method_3_code 50 = .ok (.iconst 3, 1) := by decide +kernel
theorem own_d_method_3_code_51 : decode method_3_code 51 = .ok (.if_icmp .ne 26, 3) := by decide +kernel
theorem own_d_method_3_code_54 : decode method_3_code 54 = .ok (.new 12, 3) := by decide +kernel
theorem own_d_method_3_code_57 : decode method_3_code 57 = .ok (.dup, 1) := by decide +kernel
theorem own_d_method_3_code_58 : decode method_3_code 58 = .ok (.iconst 3, 1) := by decide +kernel
theorem own_d_method_3_code_59 : decode method_3_code 59 = .ok (.newarray .char, 2) := by decide +kernel
theorem own_d_method_3_code_61 : decode method_3_code 61 = .ok (.dup, 1) := by decide +kernel
theorem own_d_method_3_code_62 : decode method_3_code 62 = .ok (.iconst 0, 1) := by decide +kernel
theorem own_d_method_3_code_63 : decode method_3_code 63 = .ok (.iload_n 1, 1) := by decide +kernel
theorem own_d_method_3_code_64 : decode method_3_code 64 = .ok (.castore, 1) := by decide +kernel
theorem own_d_method_3_code_65 : decode method_3_code 65 = .ok (.dup, 1) := by decide +kernel
theorem own_d_method_3_code_66 : decode method_3_code 66 = .ok (.iconst 1, 1) := by decide +kernel
theorem own_d_method_3_code_67 : decode method_3_code 67 = .ok (.iload_n 2, 1) := by decide +kernel
theorem own_d_method_3_code_68 : decode method_3_code 68 = .ok (.castore, 1) := by decide +kernel
theorem own_d_method_3_code_69 : decode method_3_code 69 = .ok (.dup, 1) := by decide +kernel
theorem own_d_method_3_code_70 : decode method_3_code 70 = .ok (.iconst 2, 1) := by decide +kernel
theorem own_d_method_3_code_71 : decode method_3_code 71 = .ok (.iload_n 3, 1) := by decide +kernel
theorem own_d_method_3_code_72 : decode method_3_code 72 = .ok (.castore, 1) := by decide +kernel
theorem own_d_method_3_code_73 : decode method_3_code 73 = .ok (.invokespecial 19, 3) := by decide +kernel
theorem own_d_method_3_code_76 : decode method_3_code 76 = .ok (.areturn, 1) := by decide +kernel
theorem own_d_method_3_code_77 : decode method_3_code 77 = .ok (.iload_n 0, 1) := by decide +kernel
theorem own_d_method_3_code_78 : decode method_3_code 78 = .ok (.iconst 4, 1) := by decide +kernel
theorem own_d_method_3_code_79 : decode method_3_code 79 = .ok (.if_icmp .ne 31, 3) := by decide +kernel
theorem own_d_method_3_code_82 : decode method_3_code 82 = .ok (.new 12, 3) := by decide +kernel
theorem own_d_method_3_code_85 : decode method_3_code 85 = .ok (.dup, 1) := by decide +kernel
theorem own_d_method_3_code_86 : decode method_3_code 86 = .ok (.iconst 4, 1) := by decide +kernel
theorem own_d_method_3_code_87 : decode method_3_code 87 = .ok (.newarray .char, 2) := by decide +kernel
theorem own_d_method_3_code_89 : decode method_3_code 89 = .ok (.dup, 1) := by decide +kernel
theorem own_d_method_3_code_90 : decode method_3_code 90 = .ok (.iconst 0, 1) := by decide +kernel
theorem own_d_method_3_code_91 : decode method_3_code 91 = .ok (.iload_n 1, 1) := by decide +kernel
theorem own_d_method_3_code_92 : decode method_3_code 92 = .ok (.castore, 1) := by decide +kernel
theorem own_d_method_3_code_93 : decode method_3_code 93 = .ok (.dup, 1) := by decide +kernel
theorem own_d_method_3_code_94 : decode method_3_code 94 = .ok (.iconst 1, 1) := by decide +kernel
theorem own_d_method_3_code_95 : decode method_3_code 95 = .ok (.iload_n 2, 1) := by decide +kernel
theorem own_d_method_3_code_96 : decode method_3_code 96 = .ok (.castore, 1) := by decide +kernel
theorem own_d_method_3_code_97 : decode method_3_code 97 = .ok (.dup, 1) := by decide +kernel
theorem own_d_method_3_code_98 : decode method_3_code 98 = .ok (.iconst 2, 1) := by decide +kernel
theorem own_d_method_3_code_99 : decode method_3_code 99 = .ok (.iload_n 3, 1) := by decide +kernel
theorem own_d_method_3_code_100 : decode method_3_code 100 = .ok (.castore, 1) := by decide +kernel
theorem own_d_method_3_code_101 : decode method_3_code 101 = .ok (.dup, 1) := by decide +kernel
theorem own_d_method_3_code_102 : decode method_3_code 102 = .ok (.iconst 3, 1) := by decide +kernel
theorem own_d_method_3_code_103 : decode method_3_code 103 = .ok (.iload 4, 2) := by decide +kernel
theorem own_d_method_3_code_105 : decode method_3_code 105 = .ok (.castore, 1) := by decide +kernel
theorem own_d_method_3_code_106 : decode method_3_code 106 = .ok (.invokespecial 19, 3) := by decide +kernel
theorem own_d_method_3_code_109 : decode method_3_code 109 = .ok (.areturn, 1) := by decide +kernel
theorem own_d_method_3_code_110 : decode method_3_code 110 = .ok (.iload_n 0, 1) := by decide +kernel
theorem own_d_method_3_code_111 : decode method_3_code 111 = .ok (.iconst 5, 1) := by decide +kernel
theorem own_d_method_3_code_112 : decode method_3_code 112 = .ok (.if_icmp .ne 36, 3) := by decide +kernel
theorem own_d_method_3_code_115 : decode method_3_code 115 = .ok (.new 12, 3) := by decide +kernel
theorem own_d_method_3_code_118 : decode method_3_code 118 = .ok (.dup, 1) := by decide +kernel
theorem own_d_method_3_code_119 : decode method_3_code 119 = .ok (.iconst 5, 1) := by decide +kernel
theorem own_d_method_3_code_120 : decode method_3_code 120 = .ok (.newarray .char, 2) := by decide +kernel
theorem own_d_method_3_code_122 : decode method_3_code 122 = .ok (.dup, 1) := by decide +kernel
theorem own_d_method_3_code_123 : decode method_3_code 123 = .ok (.iconst 0, 1) := by decide +kernel
theorem own_d_method_3_code_124 : decode method_3_code 124 = .ok (.iload_n 1, 1) := by decide +kernel
theorem own_d_method_3_code_125 : decode method_3_code 125 = .ok (.castore, 1) := by decide +kernel
theorem own_d_method_3_code_126 : decode method_3_code 126 = .ok (.dup, 1) := by decide +kernel
theorem own_d_method_3_code_127 : decode method_3_code 127 = .ok (.iconst 1, 1) := by decide +kernel
theorem own_d_method_3_code_128 : decode method_3_code 128 = .ok (.iload_n 2, 1) := by decide +kernel
theorem own_d_method_3_code_129 : decode method_3_code 129 = .ok (.castore, 1) := by decide +kernel
theorem own_d_method_3_code_130 : decode method_3_code 130 = .ok (.dup, 1) := by decide +kernel
theorem own_d_method_3_code_131 : decode method_3_code 131 = .ok (.iconst 2, 1) := by decide +kernel
theorem own_d_method_3_code_132 : decode method_3_code 132 = .ok (.iload_n 3, 1) := by decide +kernel
theorem own_d_method_3_code_133 : decode method_3_code 133 = .ok (.castore, 1) := by decide +kernel
theorem own_d_method_3_code_134 : decode method_3_code 134 = .ok (.dup, 1) := by decide +kernel
theorem own_d_method_3_code_135 : decode method_3_code 135 = .ok (.iconst 3, 1) := by decide +kernel
theorem own_d_method_3_code_136 : decode method_3_code 136 = .ok (.iload 4, 2) := by decide +kernel
theorem own_d_method_3_code_138 : decode method_3_code 138 = .ok (.castore, 1) := by decide +kernel
theorem own_d_method_3_code_139 : decode method_3_code 139 = .ok (.dup, 1) := by decide +kernel
theorem own_d_method_3_code_140 : decode method_3_code 140 = .ok (.iconst 4, 1) := by decide +kernel
theorem own_d_method_3_code_141 : decode method_3_code 141 = .ok (.iload 5, 2) := by decide +kernel
theorem own_d_method_3_code_143 : decode method_3_code 143 = .ok (.castore, 1) := by decide +kernel
theorem own_d_method_3_code_144 : decode method_3_code 144 = .ok (.invokespecial 19, 3) := by decide +kernel
theorem own_d_method_3_code_147 : decode method_3_code 147 = .ok (.areturn, 1) := by decide +kernel
theorem own_d_method_3_code_148 : decode method_3_code 148 = .ok (.iload_n 0, 1) := by decide +kernel
theorem own_d_method_3_code_149 : decode method_3_code 149 = .ok (.bipush 6, 2) := by decide +kernel
theorem own_d_method_3_code_151 : decode method_3_code 151 = .ok (.if_icmp .ne 42, 3) := by decide +kernel
theorem own_d_method_3_code_154 : decode method_3_code 154 = .ok (.new 12, 3) := by decide +kernel
theorem own_d_method_3_code_157 : decode method_3_code 157 = .ok (.dup, 1) := by decide +kernel
theorem own_d_method_3_code_158 : decode method_3_code 158 = .ok (.bipush 6, 2) := by decide +kernel
theorem own_d_method_3_code_160 : decode method_3_code 160 = .ok (.newarray .char, 2) := by decide +kernel
theorem own_d_method_3_code_162 : decode method_3_code 162 = .ok (.dup, 1) := by decide +kernel
theorem own_d_method_3_code_163 : decode method_3_code 163 = .ok (.iconst 0, 1) := by decide +kernel
theorem own_d_method_3_code_164 : decode method_3_code 164 = .ok (.iload_n 1, 1) := by decide +kernel
theorem own_d_method_3_code_165 : decode method_3_code 165 = .ok (.castore, 1) := by decide +kernel
theorem own_d_method_3_code_166 : decode method_3_code 166 = .ok (.dup, 1) := by decide +kernel
theorem own_d_method_3_code_167 : decode method_3_code 167 = .ok (.iconst 1, 1) := by decide +kernel
theorem own_d_method_3_code_168 : decode method_3_code 168 = .ok (.iload_n 2, 1) := by decide +kernel
theorem own_d_method_3_code_169 : decode method_3_code 169 = .ok (.castore, 1) := by decide +kernel
theorem own_d_method_3_code_170 : decode method_3_code 170 = .ok (.dup, 1) := by decide +kernel
theorem own_d_method_3_code_171 : decode method_3_code 171 = .ok (.iconst 2, 1) := by decide +kernel
theorem own_d_method_3_code_172 : decode method_3_code 172 = .ok (.iload_n 3, 1) := by decide +kernel
theorem own_d_method_3_code_173 : decode method_3_code 173 = .ok (.castore, 1) := by decide +kernel
theorem own_d_method_3_code_174 : decode method_3_code 174 = .ok (.dup, 1) := by decide +kernel
theorem own_d_method_3_code_175 : decode method_3_code 175 = .ok (.iconst 3, 1) := by decide +kernel
theorem own_d_method_3_code_176 : decode method_3_code 176 = .ok (.iload 4, 2) := by decide +kernel
theorem own_d_method_3_code_178 : decode method_3_code 178 = .ok (.castore, 1) := by decide +kernel
theorem own_d_method_3_code_179 : decode method_3_code 179 = .ok (.dup, 1) := by decide +kernel
theorem own_d_method_3_code_180 : decode method_3_code 180 = .ok (.iconst 4, 1) := by decide +kernel
theorem own_d_method_3_code_181 : decode method_3_code 181 = .ok (.iload 5, 2) := by decide +kernel
theorem own_d_method_3_code_183 : decode method_3_code 183 = .ok (.castore, 1) := by decide +kernel
theorem own_d_method_3_code_184 : decode method_3_code 184 = .ok (.dup, 1) := by decide +kernel
theorem own_d_method_3_code_185 : decode method_3_code 185 = .ok (.iconst 5, 1) := by decide +kernel
theorem own_d_method_3_code_186 : decode method_3_code 186 = .ok (.iload 6, 2) := by decide +kernel
theorem own_d_method_3_code_188 : decode method_3_code 188 = .ok (.castore, 1) := by decide +kernel
theorem own_d_method_3_code_189 : decode method_3_code 189 = .ok (.invokespecial 19, 3) := by decide +kernel
theorem own_d_method_3_code_192 : decode method_3_code 192 = .ok (.areturn, 1) := by decide +kernel
theorem own_d_method_3_code_193 : decode method_3_code 193 = .ok (.new 12, 3) := by decide +kernel
theorem own_d_method_3_code_196 : decode method_3_code 196 = .ok (.dup, 1) := by decide +kernel
theorem own_d_method_3_code_197 : decode method_3_code 197 = .ok (.bipush 7, 2) := by decide +kernel
theorem own_d_method_3_code_199 : decode method_3_code 199 = .ok (.newarray .char, 2) := by decide +kernel
theorem own_d_method_3_code_201 : decode method_3_code 201 = .ok (.dup, 1) := by decide +kernel
theorem own_d_method_3_code_202 : decode method_3_code 202 = .ok (.iconst 0, 1) := by decide +kernel
theorem own_d_method_3_code_203 : decode method_3_code 203 = .ok (.iload_n 1, 1) := by decide +kernel
theorem own_d_method_3_code_204 : decode method_3_code 204 = .ok (.castore, 1) := by decide +kernel
theorem own_d_method_3_code_205 : decode method_3_code 205 = .ok (.dup, 1) := by decide +kernel
theorem own_d_method_3_code_206 : decode method_3_code 206 = .ok (.iconst 1, 1) := by decide +kernel
theorem own_d_method_3_code_207 : decode method_3_code 207 = .ok (.iload_n 2, 1) := by decide +kernel
theorem own_d_method_3_code_208 : decode method_3_code 208 = .ok (.castore, 1) := by decide +kernel
theorem own_d_method_3_code_209 : decode method_3_code 209 = .ok (.dup, 1) := by decide +kernel
theorem own_d_method_3_code_210 : decode method_3_code 210 = .ok (.iconst 2, 1) := by decide +kernel
theorem own_d_method_3_code_211 : decode method_3_code 211 = .ok (.iload_n 3, 1) := by decide +kernel
theorem own_d_method_3_code_212 : decode method_3_code 212 = .ok (.castore, 1) := by decide +kernel
theorem own_d_method_3_code_213 : decode method_3_code 213 = .ok (.dup, 1) := by decide +kernel
theorem own_d_method_3_code_214 : decode method_3_code 214 = .ok (.iconst 3, 1) := by decide +kernel
theorem own_d_method_3_code_215 : decode method_3_code 215 = .ok (.iload 4, 2) := by decide +kernel
theorem own_d_method_3_code_217 : decode method_3_code 217 = .ok (.castore, 1) := by decide +kernel
theorem own_d_method_3_code_218 : decode method_3_code 218 = .ok (.dup, 1) := by decide +kernel
theorem own_d_method_3_code_219 : decode method_3_code 219 = .ok (.iconst 4, 1) := by decide +kernel
theorem own_d_method_3_code_220 : decode method_3_code 220 = .ok (.iload 5, 2) := by decide +kernel
theorem own_d_method_3_code_222 : decode method_3_code 222 = .ok (.castore, 1) := by decide +kernel
theorem own_d_method_3_code_223 : decode method_3_code 223 = .ok (.dup, 1) := by decide +kernel
theorem own_d_method_3_code_224 : decode method_3_code 224 = .ok (.iconst 5, 1) := by decide +kernel
theorem own_d_method_3_code_225 : decode method_3_code 225 = .ok (.iload 6, 2) := by decide +kernel
theorem own_d_method_3_code_227 : decode method_3_code 227 = .ok (.castore, 1) := by decide +kernel
theorem own_d_method_3_code_228 : decode method_3_code 228 = .ok (.dup, 1) := by decide +kernel
theorem own_d_method_3_code_229 : decode method_3_code 229 = .ok (.bipush 6, 2) := by decide +kernel
theorem own_d_method_3_code_231 : decode method_3_code 231 = .ok (.iload 7, 2) := by decide +kernel
theorem own_d_method_3_code_233 : decode method_3_code 233 = .ok (.castore, 1) := by decide +kernel
theorem own_d_method_3_code_234 : decode method_3_code 234 = .ok (.invokespecial 19, 3) := by decide +kernel
theorem own_d_method_3_code_237 : decode method_3_code 237 = .ok (.areturn, 1) := by decide +kernel
theorem own_d_prog_10_method_1_code_0 : decode prog_10_method_1_code 0 = .ok (.getstatic 10, 3) := by decide +kernel
theorem own_d_prog_10_method_1_code_3 : decode prog_10_method_1_code 3 = .ok (.invokevirtual 14, 3) := by decide +kernel
theorem own_d_prog_10_method_1_code_6 : decode prog_10_method_1_code 6 = .ok (.checkcast 15, 3) := by decide +kernel
theorem own_d_prog_10_method_1_code_9 : decode prog_10_method_1_code 9 = .ok (.areturn, 1) := by decide +kernel
theorem own_d_prog_10_method_5_code_0 : decode prog_10_method_5_code 0 = .ok (.invokestatic 33, 3) := by decide +kernel
theorem own_d_prog_10_method_5_code_3 : decode prog_10_method_5_code 3 = .ok (.astore_n 1, 1) := by decide +kernel
theorem own_d_prog_10_method_5_code_4 : decode prog_10_method_5_code 4 = .ok (.aload_n 1, 1) := by decide +kernel
theorem own_d_prog_10_method_5_code_5 : decode prog_10_method_5_code 5 = .ok (.arraylength, 1) := by decide +kernel
theorem own_d_prog_10_method_5_code_6 : decode prog_10_method_5_code 6 = .ok (.istore_n 2, 1) := by decide +kernel
theorem own_d_prog_10_method_5_code_7 : decode prog_10_method_5_code 7 = .ok (.iconst 0, 1) := by decide +kernel
theorem own_d_prog_10_method_5_code_8 : decode prog_10_method_5_code 8 = .ok (.istore_n 3, 1) := by decide +kernel
theorem own_d_prog_10_method_5_code_9 : decode prog_10_method_5_code 9 = .ok (.iload_n 3, 1) := by decide +kernel
theorem own_d_prog_10_method_5_code_10 : decode prog_10_method_5_code 10 = .ok (.iload_n 2, 1) := by decide +kernel
theorem own_d_prog_10_method_5_code_11 : decode prog_10_method_5_code 11 = .ok (.if_icmp .ge 32, 3) := by decide +kernel
theorem own_d_prog_10_method_5_code_14 : decode prog_10_method_5_code 14 = .ok (.aload_n 1, 1) := by decide +kernel
theorem own_d_prog_10_method_5_code_15 : decode prog_10_method_5_code 15 = .ok (.iload_n 3, 1) := by decide +kernel
theorem own_d_prog_10_method_5_code_16 : decode prog_10_method_5_code 16 = .ok (.aaload, 1) := by decide +kernel
theorem own_d_prog_10_method_5_code_17 : decode prog_10_method_5_code 17 = .ok (.astore 4, 2) := by decide +kernel
theorem own_d_prog_10_method_5_code_19 : decode prog_10_method_5_code 19 = .ok (.aload 4, 2) := by decide +kernel
theorem own_d_prog_10_method_5_code_21 : decode prog_10_method_5_code 21 = .ok (.getfield 29, 3) := by decide +kernel
theorem own_d_prog_10_method_5_code_24 : decode prog_10_method_5_code 24 = .ok (.aload_n 0, 1) := by decide +kernel
theorem own_d_prog_10_method_5_code_25 : decode prog_10_method_5_code 25 = .ok (.invokevirtual 37, 3) := by decide +kernel
theorem own_d_prog_10_method_5_code_28 : decode prog_10_method_5_code 28 = .ok (.ifCond .eq 9, 3) := by decide +kernel
theorem own_d_prog_10_method_5_code_37 : decode prog_10_method_5_code 37 = .ok (.iinc 3 1, 3) := by decide +kernel
theorem own_d_prog_10_method_5_code_40 : decode prog_10_method_5_code 40 = .ok (.goto (-31), 3) := by decide +kernel
theorem own_d_prog_10_method_5_code_43 : decode prog_10_method_5_code 43 = .ok (.invokestatic 49, 3) := by decide +kernel
theorem own_d_prog_10_method_5_code_46 : decode prog_10_method_5_code 46 = .ok (.areturn, 1) := by decide +kernel
theorem own_d_prog_10_method_5_code_31 : decode prog_10_method_5_code 31 = .ok (.aload 4, 2) := by decide +kernel
theorem own_d_prog_10_method_5_code_33 : decode prog_10_method_5_code 33 = .ok (.invokestatic 43, 3) := by decide +kernel
theorem own_d_prog_10_method_5_code_36 : decode prog_10_method_5_code 36 = .ok (.areturn, 1) := by decide +kernel
theorem own_d_jdk_42_method_149_code_0 : decode jdk_42_method_149_code 0 = .ok (.aload_n 0, 1) := by decide +kernel
theorem own_d_jdk_42_method_149_code_1 : decode jdk_42_method_149_code 1 = .ok (.invokespecial 1, 3) := by decide +kernel
theorem own_d_jdk_42_method_149_code_4 : decode jdk_42_method_149_code 4 = .ok (.iload_n 3, 1) := by decide +kernel
theorem own_d_jdk_42_method_149_code_5 : decode jdk_42_method_149_code 5 = .ok (.ifCond .ne 22, 3) := by decide +kernel
theorem own_d_jdk_42_method_149_code_8 : decode jdk_42_method_149_code 8 = .ok (.aload_n 0, 1) := by decide +kernel
theorem own_d_jdk_42_method_149_code_9 : decode jdk_42_method_149_code 9 = .ok (.ldc 7, 2) := by decide +kernel
theorem own_d_jdk_42_method_149_code_11 : decode jdk_42_method_149_code 11 = .ok (.getfield 9, 3) := by decide +kernel
theorem own_d_jdk_42_method_149_code_14 : decode jdk_42_method_149_code 14 = .ok (.putfield 9, 3) := by decide +kernel
theorem own_d_jdk_42_method_149_code_17 : decode jdk_42_method_149_code 17 = .ok (.aload_n 0, 1) := by decide +kernel
theorem own_d_jdk_42_method_149_code_18 : decode jdk_42_method_149_code 18 = .ok (.ldc 7, 2) := by decide +kernel
theorem own_d_jdk_42_method_149_code_20 : decode jdk_42_method_149_code 20 = .ok (.getfield 15, 3) := by decide +kernel
theorem own_d_jdk_42_method_149_code_23 : decode jdk_42_method_149_code 23 = .ok (.putfield 15, 3) := by decide +kernel
theorem own_d_jdk_42_method_149_code_26 : decode jdk_42_method_149_code 26 = .ok (.return_, 1) := by decide +kernel
theorem own_d_jdk_42_method_3_code_0 : decode jdk_42_method_3_code 0 = .ok (.aload_n 0, 1) := by decide +kernel
theorem own_d_jdk_42_method_3_code_1 : decode jdk_42_method_3_code 1 = .ok (.aload_n 1, 1) := by decide +kernel
theorem own_d_jdk_42_method_3_code_2 : decode jdk_42_method_3_code 2 = .ok (.iconst 0, 1) := by decide +kernel
theorem own_d_jdk_42_method_3_code_3 : decode jdk_42_method_3_code 3 = .ok (.aload_n 1, 1) := by decide +kernel
theorem own_d_jdk_42_method_3_code_4 : decode jdk_42_method_3_code 4 = .ok (.arraylength, 1) := by decide +kernel
theorem own_d_jdk_42_method_3_code_5 : decode jdk_42_method_3_code 5 = .ok (.aconst_null, 1) := by decide +kernel
theorem own_d_jdk_42_method_3_code_6 : decode jdk_42_method_3_code 6 = .ok (.invokespecial 27, 3) := by decide +kernel
theorem own_d_jdk_42_method_3_code_9 : decode jdk_42_method_3_code 9 = .ok (.return_, 1) := by decide +kernel
theorem own_d_jdk_42_method_66_code_0 : decode jdk_42_method_66_code 0 = .ok (.aload_n 0, 1) := by decide +kernel
theorem own_d_jdk_42_method_66_code_1 : decode jdk_42_method_66_code 1 = .ok (.aload_n 1, 1) := by decide +kernel
theorem own_d_jdk_42_method_66_code_2 : decode jdk_42_method_66_code 2 = .ok (.if_acmp .ne 5, 3) := by decide +kernel
theorem own_d_jdk_42_method_66_code_7 : decode jdk_42_method_66_code 7 = .ok (.aload_n 1, 1) := by decide +kernel
theorem own_d_jdk_42_method_66_code_8 : decode jdk_42_method_66_code 8 = .ok (.instanceof 10, 3) := by decide +kernel
theorem own_d_jdk_42_method_66_code_11 : decode jdk_42_method_66_code 11 = .ok (.ifCond .eq 43, 3) := by decide +kernel
theorem own_d_jdk_42_method_66_code_54 : decode jdk_42_method_66_code 54 = .ok (.iconst 0, 1) := by decide +kernel
theorem own_d_jdk_42_method_66_code_55 : decode jdk_42_method_66_code 55 = .ok (.ireturn, 1) := by decide +kernel
theorem own_d_jdk_43_method_3_code_0 : decode jdk_43_method_3_code 0 = .ok (.iload_n 0, 1) := by decide +kernel
theorem own_d_jdk_43_method_3_code_1 : decode jdk_43_method_3_code 1 = .ok (.sipush 255, 3) := by decide +kernel
theorem own_d_jdk_43_method_3_code_4 : decode jdk_43_method_3_code 4 = .ok (.if_icmp .gt 7, 3) := by decide +kernel
theorem own_d_jdk_43_method_3_code_7 : decode jdk_43_method_3_code 7 = .ok (.iconst 1, 1) := by decide +kernel
theorem own_d_jdk_43_method_3_code_8 : decode jdk_43_method_3_code 8 = .ok (.goto 4, 3) := by decide +kernel
theorem own_d_jdk_43_method_3_code_12 : decode jdk_43_method_3_code 12 = .ok (.ireturn, 1) := by decide +kernel
theorem own_d_jdk_43_method_46_code_0 : decode jdk_43_method_46_code 0 = .ok (.iconst 1, 1) := by decide +kernel
theorem own_d_jdk_43_method_46_code_1 : decode jdk_43_method_46_code 1 = .ok (.newarray .byte, 2) := by decide +kernel
theorem own_d_jdk_43_method_46_code_3 : decode jdk_43_method_46_code 3 = .ok (.dup, 1) := by decide +kernel
theorem own_d_jdk_43_method_46_code_4 : decode jdk_43_method_46_code 4 = .ok (.iconst 0, 1) := by decide +kernel
theorem own_d_jdk_43_method_46_code_5 : decode jdk_43_method_46_code 5 = .ok (.iload_n 0, 1) := by decide +kernel
theorem own_d_jdk_43_method_46_code_6 : decode jdk_43_method_46_code 6 = .ok (.i2b, 1) := by decide +kernel
theorem own_d_jdk_43_method_46_code_7 : decode jdk_43_method_46_code 7 = .ok (.bastore, 1) := by decide +kernel
theorem own_d_jdk_43_method_46_code_8 : decode jdk_43_method_46_code 8 = .ok (.areturn, 1) := by decide +kernel
theorem own_d_jdk_42_method_139_code_0 : decode jdk_42_method_139_code 0 = .ok (.getstatic 38, 3) := by decide +kernel
theorem own_d_jdk_42_method_139_code_3 : decode jdk_42_method_139_code 3 = .ok (.ifCond .eq 23, 3) := by decide +kernel
theorem own_d_jdk_42_method_139_code_6 : decode jdk_42_method_139_code 6 = .ok (.iload_n 0, 1) := by decide +kernel
theorem own_d_jdk_42_method_139_code_7 : decode jdk_42_method_139_code 7 = .ok (.invokestatic 1015, 3) := by decide +kernel
theorem own_d_jdk_42_method_139_code_10 : decode jdk_42_method_139_code 10 = .ok (.ifCond .eq 16, 3) := by decide +kernel
theorem own_d_jdk_42_method_139_code_13 : decode jdk_42_method_139_code 13 = .ok (.new 10, 3) := by decide +kernel
theorem own_d_jdk_42_method_139_code_16 : decode jdk_42_method_139_code 16 = .ok (.dup, 1) := by decide +kernel
theorem own_d_jdk_42_method_139_code_17 : decode jdk_42_method_139_code 17 = .ok (.iload_n 0, 1) := by decide +kernel
theorem own_d_jdk_42_method_139_code_18 : decode jdk_42_method_139_code 18 = .ok (.invokestatic 1018, 3) := by decide +kernel
theorem own_d_jdk_42_method_139_code_21 : decode jdk_42_method_139_code 21 = .ok (.iconst 0, 1) := by decide +kernel
theorem own_d_jdk_42_method_139_code_22 : decode jdk_42_method_139_code 22 = .ok (.invokespecial 209, 3) := by decide +kernel
theorem own_d_jdk_42_method_139_code_25 : decode jdk_42_method_139_code 25 = .ok (.areturn, 1) := by decide +kernel
theorem own_d_jdk_42_method_151_code_0 : decode jdk_42_method_151_code 0 = .ok (.aload_n 0, 1) := by decide +kernel
theorem own_d_jdk_42_method_151_code_1 : decode jdk_42_method_151_code 1 = .ok (.invokespecial 1, 3) := by decide +kernel
theorem own_d_jdk_42_method_151_code_4 : decode jdk_42_method_151_code 4 = .ok (.aload_n 0, 1) := by decide +kernel
theorem own_d_jdk_42_method_151_code_5 : decode jdk_42_method_151_code 5 = .ok (.aload_n 1, 1) := by decide +kernel
theorem own_d_jdk_42_method_151_code_6 : decode jdk_42_method_151_code 6 = .ok (.putfield 9, 3) := by decide +kernel
theorem own_d_jdk_42_method_151_code_9 : decode jdk_42_method_151_code 9 = .ok (.aload_n 0, 1) := by decide +kernel
theorem own_d_jdk_42_method_151_code_10 : decode jdk_42_method_151_code 10 = .ok (.iload_n 2, 1) := by decide +kernel
theorem own_d_jdk_42_method_151_code_11 : decode jdk_42_method_151_code 11 = .ok (.putfield 15, 3) := by decide +kernel
theorem own_d_jdk_42_method_151_code_14 : decode jdk_42_method_151_code 14 = .ok (.return_, 1) := by decide +kernel
theorem own_d_jdk_32_method_2_code_0 : decode jdk_32_method_2_code 0 = .ok (.aload_n 0, 1) := by decide +kernel
theorem own_d_jdk_32_method_2_code_1 : decode jdk_32_method_2_code 1 = .ok (.invokespecial 7, 3) := by decide +kernel
theorem own_d_jdk_32_method_2_code_4 : decode jdk_32_method_2_code 4 = .ok (.aload_n 0, 1) := by decide +kernel
theorem own_d_jdk_32_method_2_code_5 : decode jdk_32_method_2_code 5 = .ok (.aload_n 1, 1) := by decide +kernel
theorem own_d_jdk_32_method_2_code_6 : decode jdk_32_method_2_code 6 = .ok (.putfield 13, 3) := by decide +kernel
theorem own_d_jdk_32_method_2_code_9 : decode jdk_32_method_2_code 9 = .ok (.return_, 1) := by decide +kernel
theorem own_d_jdk_31_method_10_code_0 : decode jdk_31_method_10_code 0 = .ok (.aload_n 0, 1) := by decide +kernel
theorem own_d_jdk_31_method_10_code_1 : decode jdk_31_method_10_code 1 = .ok (.ifnonnull 11, 3) := by decide +kernel
theorem own_d_jdk_31_method_10_code_12 : decode jdk_31_method_10_code 12 = .ok (.aload_n 0, 1) := by decide +kernel
theorem own_d_jdk_31_method_10_code_13 : decode jdk_31_method_10_code 13 = .ok (.areturn, 1) := by decide +kernel
theorem own_d_jdk_32_method_3_code_0 : decode jdk_32_method_3_code 0 = .ok (.new 2, 3) := by decide +kernel
theorem own_d_jdk_32_method_3_code_3 : decode jdk_32_method_3_code 3 = .ok (.dup, 1) := by decide +kernel
theorem own_d_jdk_32_method_3_code_4 : decode jdk_32_method_3_code 4 = .ok (.aload_n 0, 1) := by decide +kernel
theorem own_d_jdk_32_method_3_code_5 : decode jdk_32_method_3_code 5 = .ok (.invokestatic 17, 3) := by decide +kernel
theorem own_d_jdk_32_method_3_code_8 : decode jdk_32_method_3_code 8 = .ok (.invokespecial 23, 3) := by decide +kernel
theorem own_d_jdk_32_method_3_code_11 : decode jdk_32_method_3_code 11 = .ok (.areturn, 1) := by decide +kernel
theorem own_d_jdk_32_method_1_code_0 : decode jdk_32_method_1_code 0 = .ok (.getstatic 1, 3) := by decide +kernel
theorem own_d_jdk_32_method_1_code_3 : decode jdk_32_method_1_code 3 = .ok (.astore_n 0, 1) := by decide +kernel
theorem own_d_jdk_32_method_1_code_4 : decode jdk_32_method_1_code 4 = .ok (.aload_n 0, 1) := by decide +kernel
theorem own_d_jdk_32_method_1_code_5 : decode jdk_32_method_1_code 5 = .ok (.areturn, 1) := by decide +kernel
theorem own_d_jdk_32_method_15_code_0 : decode jdk_32_method_15_code 0 = .ok (.aload_n 0, 1) := by decide +kernel
theorem own_d_jdk_32_method_15_code_1 : decode jdk_32_method_15_code 1 = .ok (.getfield 13, 3) := by decide +kernel
theorem own_d_jdk_32_method_15_code_4 : decode jdk_32_method_15_code 4 = .ok (.ifnull 10, 3) := by decide +kernel
theorem own_d_jdk_32_method_15_code_14 : decode jdk_32_method_15_code 14 = .ok (.aload_n 1, 1) := by decide +kernel
theorem own_d_jdk_32_method_15_code_15 : decode jdk_32_method_15_code 15 = .ok (.areturn, 1) := by decide +kernel
theorem own_d_jdk_32_method_15_code_7 : decode jdk_32_method_15_code 7 = .ok (.aload_n 0, 1) := by decide +kernel
theorem own_d_jdk_32_method_15_code_8 : decode jdk_32_method_15_code 8 = .ok (.getfield 13, 3) := by decide +kernel
theorem own_d_jdk_32_method_15_code_11 : decode jdk_32_method_15_code 11 = .ok (.goto 4, 3) := by decide +kernel
theorem own_hEL {Z : State} {a0 : Array Value} (hw : ∀ d ∈ tables_1, d.before a0 Z = true) : EW Z a0 consts_1 := (EW.cons (hw _ (List.mem_of_getElem? (i := 5) rfl)) (by decide) (EW.cons (hw _ (List.mem_of_getElem? (i := 110) rfl)) (by decide) (EW.cons (hw _ (List.mem_of_getElem? (i := 53) rfl)) (by decide) EW.nil)))
theorem own_wS {Z : State} {a0 : Array Value} (hw : ∀ d ∈ tables_1, d.before a0 Z = true) : ∀ a ∈ Bundle.stringAtoms, a.before a0 Z = true := fun a ha => hw a ((by decide +kernel : ∀ a ∈ Bundle.stringAtoms, a ∈ tables_1) a ha)

section OwnS
variable {p : Program} {l : Launch} {e : Env} {R : Room} {s : State} {args : Array Value} {below : List Frame} {Z : State} {a0 : Array Value} {h h1 h2 : Heap} {EL : List (String × Nat)} {vm : Vm}
theorem own_ext_refl (h : Heap) : Ext h h := ⟨Nat.le_refl _, fun _ _ q => q⟩
theorem own_ext_trans (E : Ext h h1) (F : Ext h1 h2) : Ext h h2 := ⟨Nat.le_trans E.1 F.1, fun a c q => F.2 a c (E.2 a c q)⟩
theorem own_ext_keep {ws : List Addr} (E : Ext h h1) (K : Keep h1 h2 ws) (q : ∀ x ∈ ws, h.size ≤ x) : Ext h h2 := ⟨Nat.le_trans E.1 K.1, fun a c r => K.2.1 a c (E.2 a c r) fun z => absurd (Array.getElem?_eq_some_iff.mp r).1 (Nat.not_lt.mpr (q a z))⟩
theorem own_ext_wr {a : Addr} {sl : Nat} {v : Value} (E : Ext h h1) (W : Wr h1 h2 a sl v) (q : h.size ≤ a) : Ext h h2 := own_ext_keep E (Keep.of_wr W) (allS q all0)
theorem own_keep_ext (E : Ext h h1) (ws : List Addr) : Keep h h1 ws := (Keep.refl h ws).ext E
/-- the String x says cs -/
def OStr (Z : State) (h : Heap) (x : Addr) (cs : List Int32) : Prop :=
  ∃ (t : Addr) (kb : ClassId) (cd N2 : Int32) (vs : List Value), Exa Z h x "java/lang/String" ∧ Fld Z h x "java/lang/String" "value" "[B" (.ref t) ∧ Fld Z h x "java/lang/String" "coder" "B" (.int cd) ∧ Arv Z h t kb .byte N2 vs (.int 0) ∧
    StrChars.Road.CodA cs cd N2 vs ∧ (∀ c ∈ cs, ¬ c < 0 ∧ ¬ (65535 : Int32) < c) ∧ cs.length ≤ 4000
theorem OStr.ext {x : Addr} {cs : List Int32} (F : OStr Z h x cs) (E : Ext h h1) : OStr Z h1 x cs := by
  obtain ⟨t, kb, cd, N2, vs, a, b, c, d, r⟩ := F
  exact ⟨t, kb, cd, N2, vs, a.ext E, b.ext E, c.ext E, d.ext E, r⟩
theorem OStr.exa {x : Addr} {cs : List Int32} (F : OStr Z h x cs) : Exa Z h x "java/lang/String" := by obtain ⟨t, kb, cd, N2, vs, a, r⟩ := F; exact a
theorem OStr.lt {x : Addr} {cs : List Int32} (F : OStr Z h x cs) : x < h.size := F.exa.lt
/-- a value that is null or a String -/
def OSv (Z : State) (h : Heap) (v : Value) (o : Option (List Int32)) : Prop := (v = .null ∧ o = none) ∨ ∃ x cs, v = .ref x ∧ o = some cs ∧ OStr Z h x cs
theorem OSv.ext {v : Value} {o : Option (List Int32)} (F : OSv Z h v o) (E : Ext h h1) : OSv Z h1 v o := by
  rcases F with q | ⟨x, cs, q1, q2, q3⟩
  · exact Or.inl q
  · exact Or.inr ⟨x, cs, q1, q2, q3.ext E⟩
theorem OSv.isRef {v : Value} {o : Option (List Int32)} (F : OSv Z h v o) : v.isRef = true := by
  rcases F with ⟨rfl, -⟩ | ⟨x, cs, rfl, -⟩ <;> rfl
/-- two that were made one after the other -/
theorem OSv.sep {v w : Value} {o o' : Option (List Int32)} (F : OSv Z h v o) (G : OSv Z h1 w o') (q : ∀ y, w = .ref y → h.size ≤ y) : v = w → o = o' := by
  intro e
  subst e
  rcases F with ⟨rfl, rfl⟩ | ⟨x, cs, rfl, rfl, F⟩
  · rcases G with ⟨-, rfl⟩ | ⟨y, ds, q1, -⟩
    · rfl
    · cases q1
  · exact absurd F.lt (Nat.not_lt.mpr (q x rfl))
/-- a String under construction, its 'value' not yet written, is no booked one -/
theorem own_safe_null {x : Addr} (hal : Z.vm.Alike vm) (E : Exa Z h x "java/lang/String") (F : Fld Z h x "java/lang/String" "value" "[B" .null) : Safe Z EL vm h x := fun B => by
  obtain ⟨cell, cf, k, i, f, e1, e2, -, -, -, -, e7⟩ := F
  obtain ⟨p, -, u, a, -, q, -, G, rfl | rfl⟩ := B
  · cases (show h[q.sa]? = some q.sC from G.ha).symm.trans e1
    obtain ⟨cS, ⟨⟨-, -, -, ⟨c1, k1, i1, f1, -⟩, -, -, -, v1, -⟩, -⟩, -⟩ := G
    obtain ⟨k3, e3, -⟩ := State.fieldFound?_setVm (s := Z) hal e2
    have e4 := (show (Wst Z vm h).fieldFound? _ _ _ = _ from e3).symm.trans f1
    simp only [Option.some.injEq, Prod.mk.injEq] at e4
    rw [← e4.2.2.2, e7] at v1
    cases v1
  · cases (show h[q.sd]? = some q.SA from G.hd).symm.trans e1
    obtain ⟨cell2, k2, g1, g2, -⟩ := E
    cases e1.symm.trans g1
    obtain ⟨cS, -, -, fb, -⟩ := G
    have fb' : vm.findClass "[B" = some q.SA.cls := fb
    rw [hal.findClass] at fb'
    exact ids_ne fb' g2 (by decide) rfl
/-- a class with no road to another -/
theorem own_notCast {C O K : String} {n : Nat} (w : (Jvm.Cond.superclass C O).before a0 Z = true) (w0 : (Jvm.Cond.noSuperclass O).before a0 Z = true) (wk : (Jvm.Cond.instantiable K n).before a0 Z = true) (h1 : C ≠ K) (h2 : O ≠ K) : ∃ c t, Z.vm.findClass C = some c ∧ Z.vm.findClass K = some t ∧ Z.vm.assignable c t = false := by
  obtain ⟨co, ko, o1, o2, o3, -, -⟩ := Cond.noSuperclass_spec w0
  obtain ⟨t, kt, t1, t2, t3, t4, -, -⟩ := Cond.instantiable_spec wk
  obtain ⟨c, c0⟩ := found_sup w
  obtain ⟨pp, k, kp, c1, c2, c3, c4, c5, c6, c7⟩ := Cond.superclass_spec c0 w
  cases o1.symm.trans c1
  have n1 := ids_ne c0 t1 h1
  have n2 := ids_ne o1 t1 h2
  have hi : kt.isInterface = false := by simp only [Bool.or_eq_false_iff] at t4; exact t4.1
  have hs : ∀ fuel, Z.vm.isSubclassAux fuel co t = false := fun fuel => by
    cases fuel with
    | zero => rfl
    | succ f => simp [Vm.isSubclassAux, n2, o2, o3]
  have hc : ∀ fuel, Z.vm.isSubclassAux fuel c t = false := fun fuel => by
    cases fuel with
    | zero => rfl
    | succ f => simp [Vm.isSubclassAux, n1, c2, c4, hs]
  refine ⟨c, t, c0, t1, ?_⟩
  show Z.vm.assignableAux (255 + 1) c t = false
  simp [Vm.assignableAux, n1, c2, t2, c5, t3, hi, Vm.isSubclass, hc]
/-- equals of two Strings -/
theorem own_seq {len W : Nat} (hZ : Z.Warmed39 s.vm) (hw : ∀ d ∈ StrChars.Road.wordsEq, d.before a0 Z = true) {kI : Nat} (wi : (Jvm.Cond.instantiable "java/lang/String" kI).before a0 Z = true) {x y : Addr} {cs ds : List Int32} (F : OStr Z h x cs) (G : OStr Z h y ds)
    {z : Int32} (S : Sta Z h "java/lang/String" "COMPACT_STRINGS" "Z" (.int z)) (hz : ¬ z = 0) (n0 : Nat) (hfr : 2 ≤ R.frames) (hlo : W + 28 ≤ R.locals) :
    OBack l R p e below s args (⟨"java/lang/String", "equals", "(Ljava/lang/Object;)Z"⟩ : MethodName) len W #[.ref x, .ref y] h 0 0 (fun v h' L => v = some (.int (if cs = ds then 1 else 0)) ∧ Fr n0 L ∧ h' = h) := by
  obtain ⟨t, kb, cd, N2, vs, a1, a2, a3, a4, a5, a6, a7⟩ := F
  obtain ⟨t', kb', cd', N2', vs', b1, b2, b3, b4, b5, b6, b7⟩ := G
  refine Back.mono (StrChars.Road.eqW hZ hw wi a1 a2 a3 a4 a5 a6 a7 b1 b2 b3 b4 b5 b6 b7 S hz hfr hlo) (fun P a hp => hp) (fun P a v B hp hq => ?_)
  obtain ⟨L, ⟨q1, rfl, q3⟩, hl, hc, hs⟩ := hq
  refine ⟨[], ⟨?_, Fr.nil n0, q3⟩, hl, hc, hs⟩
  rcases q1 with ⟨q, r⟩ | ⟨q, r⟩
  · rw [q, if_pos r]
  · rw [q, if_neg r]
end OwnS
theorem own_ch255 (x : Int32) : ¬ nar .char ((x &&& (255 : Int32)).toUInt32.toUInt16.toUInt32.toInt32) < 0 ∧ ¬ (255 : Int32) < nar .char ((x &&& (255 : Int32)).toUInt32.toUInt16.toUInt32.toInt32) := by
  have t : ∀ k : Fin 256, ¬ nar .char ((Int32.ofNat k.val).toUInt32.toUInt16.toUInt32.toInt32) < 0 ∧ ¬ (255 : Int32) < nar .char ((Int32.ofNat k.val).toUInt32.toUInt16.toUInt32.toInt32) := by decide +kernel
  have h : (x &&& 255).toBitVec.toNat < 256 := by
    simp only [Int32.toBitVec_and, BitVec.toNat_and]
    exact Nat.lt_succ_of_le Nat.and_le_right
  have e : (x &&& 255) = Int32.ofNat (x &&& 255).toBitVec.toNat := by
    apply Int32.toBitVec_inj.mp
    show _ = BitVec.ofNat 32 _
    rw [BitVec.ofNat_toNat]; simp
  rw [e]
  exact t ⟨_, h⟩
theorem own_up (cs : List Int32) (h : ∀ c ∈ cs, ¬ c < 0 ∧ ¬ (255 : Int32) < c) : ∀ c ∈ cs, ¬ c < 0 ∧ ¬ (65535 : Int32) < c := fun c hc => ⟨(h c hc).1, fun q => (h c hc).2 (Int32.lt_trans (by decide : (255 : Int32) < 65535) q)⟩
theorem own_all0 {P : Int32 → Prop} : ∀ c ∈ ([] : List Int32), P c := fun _ q => nomatch q
theorem own_allS {P : Int32 → Prop} {x : Int32} {cs : List Int32} (a : P x) (r : ∀ c ∈ cs, P c) : ∀ c ∈ x :: cs, P c := fun c q => by
  cases q with
  | head => exact a
  | tail _ q => exact r c q
theorem own_narC {c : Int32} (h : ¬ c < 0 ∧ ¬ (255 : Int32) < c) : nar .char c = c := by
  have t : ∀ k : Fin 256, nar .char (Int32.ofNat k.val) = Int32.ofNat k.val := by decide +kernel
  have h0 : 0 ≤ c.toInt := by have := h.1; rw [Int32.lt_iff_toInt_lt] at this; have z : (0 : Int32).toInt = 0 := rfl; omega
  have h1 : c.toInt ≤ 255 := by have := h.2; rw [Int32.lt_iff_toInt_lt] at this; have z : (255 : Int32).toInt = 255 := rfl; omega
  have e : c = Int32.ofNat c.toInt.toNat := Int32.toInt_inj.mp (by rw [Int32.toInt_ofNat_of_lt (by omega)]; omega)
  rw [e]
  exact t ⟨c.toInt.toNat, by omega⟩
theorem own_nc {c : Int32} (h : ¬ c < 0 ∧ ¬ (255 : Int32) < c) : ¬ nar .char c < 0 ∧ ¬ (255 : Int32) < nar .char c := by rw [own_narC h]; exact h
theorem own_narb (x : Int32) : nar .byte x.toInt8.toInt32 = x.toInt8.toInt32 := by show x.toInt8.toInt32.toInt8.toInt32 = _; simp
theorem own_chL (x : Int64) : ¬ nar .char ((x &&& (255 : Int64)).toInt32.toUInt32.toUInt16.toUInt32.toInt32) < 0 ∧ ¬ (255 : Int32) < nar .char ((x &&& (255 : Int64)).toInt32.toUInt32.toUInt16.toUInt32.toInt32) := by
  have t : ∀ k : Fin 256, ¬ nar .char ((Int64.ofNat k.val).toInt32.toUInt32.toUInt16.toUInt32.toInt32) < 0 ∧ ¬ (255 : Int32) < nar .char ((Int64.ofNat k.val).toInt32.toUInt32.toUInt16.toUInt32.toInt32) := by decide +kernel
  have h : (x &&& 255).toBitVec.toNat < 256 := by
    simp only [Int64.toBitVec_and, BitVec.toNat_and]
    exact Nat.lt_succ_of_le Nat.and_le_right
  have e : (x &&& 255) = Int64.ofNat (x &&& 255).toBitVec.toNat := by
    apply Int64.toBitVec_inj.mp
    show _ = BitVec.ofNat 64 _
    rw [BitVec.ofNat_toNat]; simp
  rw [e]
  exact t ⟨_, h⟩


theorem own_chN {p : Program} {l : Launch} {e : Env} {R : Room} {s : State} {args : Array Value} {below : List Frame} {len W : Nat} {Z : State} {a0 : Array Value} {h : Heap} (hZ : Z.Warmed39 s.vm) (hw : ∀ d ∈ StrChars.Road.wordsChN, d.before a0 Z = true) {kI : Nat} (wi : (Jvm.Cond.instantiable "java/lang/String" kI).before a0 Z = true)
    {x t : Addr} {kb : ClassId} {cs : List Int32} {N2 z : Int32} {vs : List Value} {fm : Value} {i : Nat} (E : Exa Z h x "java/lang/String") (V : Fld Z h x "java/lang/String" "value" "[B" (.ref t)) (C : Fld Z h x "java/lang/String" "coder" "B" (.int 0)) (K : Arv Z h t kb .byte N2 vs (.int 0)) (hc : StrChars.Road.CodA cs 0 N2 vs) (hb : ∀ c ∈ cs, ¬ c < 0 ∧ ¬ (65535 : Int32) < c)
    (S : Sta Z h "java/lang/String" "COMPACT_STRINGS" "Z" (.int z)) (hz : ¬ z = 0) (F : Sta Z h "jdk/internal/util/Preconditions" "SIOOBE_FORMATTER" "Ljava/util/function/BiFunction;" fm) (rf : fm.isRef = true) (l2 : cs.length ≤ 4000) (hi : i < cs.length) (n0 : Nat) (hfr : 4 ≤ R.frames) (hlo : W + 53 ≤ R.locals) :
    OBack l R p e below s args (⟨"java/lang/String", "charAt", "(I)C"⟩ : MethodName) len W #[.ref x, .int (Int32.ofNat i)] h 0 0 (fun v h' L => v = some (.int (cs.getD i 0)) ∧ Fr n0 L ∧ h' = h) := by
  refine Back.mono (StrChars.Road.chN hZ hw wi E V C K hc hb S hz F rf l2 hi rfl hfr hlo) (fun P a hp => hp) (fun P a v B hp hq => ?_)
  obtain ⟨L, ⟨q1, rfl, q3⟩, hl, hc, hs⟩ := hq
  exact ⟨[], ⟨q1, Fr.nil n0, q3⟩, hl, hc, hs⟩


theorem own_if0 {q : Prop} [Decidable q] (h : (if q then (1 : Int32) else 0) = 0) : ¬ q := fun z => by rw [if_pos z] at h; exact absurd h (by decide)
theorem own_if1 {q : Prop} [Decidable q] (h : ¬ (if q then (1 : Int32) else 0) = 0) : q := by
  by_cases z : q
  · exact z
  · exact absurd (if_neg z) h
theorem own_narB {q : Prop} [Decidable q] : nar .boolean (if q then (1 : Int32) else 0) = if q then (1 : Int32) else 0 := by split <;> rfl
theorem own_nar1 : nar .boolean (1 : Int32) = 1 := by decide
theorem own_nar0 : nar .boolean (0 : Int32) = 0 := by decide

def own_mk (n c0_ c1_ c2_ c3_ c4_ c5_ c6_ : Int32) : List Int32 := if n = 0 then [] else if n = 1 then [c0_] else if n = 2 then [c0_, c1_] else if n = 3 then [c0_, c1_, c2_] else if n = 4 then [c0_, c1_, c2_, c3_] else if n = 5 then [c0_, c1_, c2_, c3_, c4_] else if n = 6 then [c0_, c1_, c2_, c3_, c4_, c5_] else [c0_, c1_, c2_, c3_, c4_, c5_, c6_]
theorem own_mk_allow (n c0_ c1_ c2_ c3_ c4_ c5_ c6_ : Int32) : own_mk n c0_ c1_ c2_ c3_ c4_ c5_ c6_ = [97, 108, 108, 111, 119] ↔ n = 5 ∧ c0_ = 97 ∧ c1_ = 108 ∧ c2_ = 108 ∧ c3_ = 111 ∧ c4_ = 119 := by
  unfold own_mk
  constructor
  · intro h
    split at h <;> rename_i q0
    · cases h
    split at h <;> rename_i q1
    · cases h
    split at h <;> rename_i q2
    · cases h
    split at h <;> rename_i q3
    · cases h
    split at h <;> rename_i q4
    · cases h
    split at h <;> rename_i q5
    · simpa [q5] using h
    split at h <;> cases h
  · rintro ⟨rfl, rfl, rfl, rfl, rfl, rfl⟩; rfl
theorem own_mk_deny (n c0_ c1_ c2_ c3_ c4_ c5_ c6_ : Int32) : own_mk n c0_ c1_ c2_ c3_ c4_ c5_ c6_ = [100, 101, 110, 121] ↔ n = 4 ∧ c0_ = 100 ∧ c1_ = 101 ∧ c2_ = 110 ∧ c3_ = 121 := by
  unfold own_mk
  constructor
  · intro h
    split at h <;> rename_i q0
    · cases h
    split at h <;> rename_i q1
    · cases h
    split at h <;> rename_i q2
    · cases h
    split at h <;> rename_i q3
    · cases h
    split at h <;> rename_i q4
    · simpa [q4] using h
    split at h <;> rename_i q5
    · cases h
    split at h <;> cases h
  · rintro ⟨rfl, rfl, rfl, rfl, rfl⟩; rfl
def own_of (o : Option (List Int32)) (r0 r1 : Addr) : Value := if o = some [97, 108, 108, 111, 119] then .ref r0 else if o = some [100, 101, 110, 121] then .ref r1 else .null
theorem own_lt5 : ∀ n : Nat, n < 7 → Int32.ofNat n < 5 → n < 5 := by decide
theorem own_lt4 : ∀ n : Nat, n < 7 → Int32.ofNat n < 4 → n < 4 := by decide
theorem own_gA : ∀ n : Nat, n < 5 → ¬ nar .char (([97, 108, 108, 111, 119] : List Int32).getD n 0) < 0 ∧ ¬ (255 : Int32) < nar .char (([97, 108, 108, 111, 119] : List Int32).getD n 0) := by decide
theorem own_gD : ∀ n : Nat, n < 4 → ¬ nar .char (([100, 101, 110, 121] : List Int32).getD n 0) < 0 ∧ ¬ (255 : Int32) < nar .char (([100, 101, 110, 121] : List Int32).getD n 0) := by decide

set_option maxRecDepth 65536 in
set_option maxHeartbeats 40000000 in
theorem own_new4E (l : Launch) (Z : State) (a0 : Array Value) (hw : ∀ d ∈ tables_1, d.before a0 Z = true) (ws : List Jvm.Cond) (a b : Addr) (h0 : Heap) (n0 : Nat) (Z0 : n0 ≤ h0.size) (E1 : Exa Z h0 a "java/lang/String") (Fv : Fld Z h0 a "java/lang/String" "value" "[B" .null) (Fc : Fld Z h0 a "java/lang/String" "coder" "B" (.int (0 : Int32))) (ga : n0 ≤ a) :
    OMetW l Z consts_1 (⟨"java/lang/String", "<init>", "([CIILjava/lang/Void;)V"⟩ : MethodName) jdk_42_method_149_code 6 none ws ({ frames := 1, cells := 4, slots := 8, locals := 16 } : Room) #[(.ref a), (.ref b), (.int (0 : Int32)), (.int (0 : Int32)), .null] h0 (fun v h L => v = none ∧ Fr n0 L ∧ Keep h0 h [a] ∧ OStr Z h a []) := by
  refine OMetW.body (plainFor_of_name own_pn2) ?_
  intro p e s m below meth c s₁ hx hby hml hown hnm hret hlk hZ X0 e0 OW0
  have hEL := own_hEL hw
  have wS := own_wS hw
  refine OGo.step (fun _ kk => castTop (show entryFrame m #[(.ref a), (.ref b), (.int (0 : Int32)), (.int (0 : Int32)), .null] 6 = (mkF m 0 #[.val (.ref a), .val (.ref b), .val (.int (0 : Int32)), .val (.int (0 : Int32)), .val .null, .unset] []) from by first | (simp [entryFrame, mkF, argsToLocals, Value.category]; done) | rfl) kk) ?_
  show OGo p e below (s₁.setTop (mkF m 0 #[.val (.ref a), .val (.ref b), .val (.int (0 : Int32)), .val (.int (0 : Int32)), .val .null, .unset] [])) (OEndW s Z consts_1 (fun v h L => v = none ∧ Fr n0 L ∧ Keep h0 h [a] ∧ OStr Z h a []) ({ frames := 1, cells := 4, slots := 8, locals := 16 } : Room).cells ({ frames := 1, cells := 4, slots := 8, locals := 16 } : Room).slots)
  have sf504 := own_safe_null (EL := consts_1) OW0.2.1.alike E1 Fv
  refine OGo.step (fun _ kk => XS.aloadN X0.here hx rfl (hb hby own_d_jdk_42_method_149_code_0) rfl rfl kk) ?_
  show OGo p e below (s₁.setTop (mkF m 1 #[.val (.ref a), .val (.ref b), .val (.int (0 : Int32)), .val (.int (0 : Int32)), .val .null, .unset] [(.ref a)])) (OEndW s Z consts_1 (fun v h L => v = none ∧ Fr n0 L ∧ Keep h0 h [a] ∧ OStr Z h a []) ({ frames := 1, cells := 4, slots := 8, locals := 16 } : Room).cells ({ frames := 1, cells := 4, slots := 8, locals := 16 } : Room).slots)
  obtain ⟨T505, X505, e505, st505⟩ := initO X0 hx hZ hown (hw _ (List.mem_of_getElem? (i := 50) rfl)) (hw _ (List.mem_of_getElem? (i := 51) rfl)) (hw _ (List.mem_of_getElem? (i := 52) rfl)) e0 (g := (mkF m 1 #[.val (.ref a), .val (.ref b), .val (.int (0 : Int32)), .val (.int (0 : Int32)), .val .null, .unset] [(.ref a)])) rfl (by rw [hml]; rfl) rfl (hb hby own_d_jdk_42_method_149_code_1) (by decide) (W := 0) (by show 2 * 0 + _ ≤ _; exact Nat.le_of_eq rfl) (by decide)
  refine OGo.step st505 ?_
  show OGo p e below (T505.setTop (mkF m 4 #[.val (.ref a), .val (.ref b), .val (.int (0 : Int32)), .val (.int (0 : Int32)), .val .null, .unset] [])) (OEndW s Z consts_1 (fun v h L => v = none ∧ Fr n0 L ∧ Keep h0 h [a] ∧ OStr Z h a []) ({ frames := 1, cells := 4, slots := 8, locals := 16 } : Room).cells ({ frames := 1, cells := 4, slots := 8, locals := 16 } : Room).slots)
  refine OGo.step (fun _ kk => XS.iloadN X505.here hx rfl (hb hby own_d_jdk_42_method_149_code_4) rfl kk) ?_
  show OGo p e below (T505.setTop (mkF m 5 #[.val (.ref a), .val (.ref b), .val (.int (0 : Int32)), .val (.int (0 : Int32)), .val .null, .unset] [(.int (0 : Int32))])) (OEndW s Z consts_1 (fun v h L => v = none ∧ Fr n0 L ∧ Keep h0 h [a] ∧ OStr Z h a []) ({ frames := 1, cells := 4, slots := 8, locals := 16 } : Room).cells ({ frames := 1, cells := 4, slots := 8, locals := 16 } : Room).slots)
  refine OGo.step (fun _ kk => XS.ifNo X505.here hx rfl (hb hby own_d_jdk_42_method_149_code_5) rfl ((if0 _ _).trans (teq rfl).2) kk) ?_
  show OGo p e below (T505.setTop (mkF m 8 #[.val (.ref a), .val (.ref b), .val (.int (0 : Int32)), .val (.int (0 : Int32)), .val .null, .unset] [])) (OEndW s Z consts_1 (fun v h L => v = none ∧ Fr n0 L ∧ Keep h0 h [a] ∧ OStr Z h a []) ({ frames := 1, cells := 4, slots := 8, locals := 16 } : Room).cells ({ frames := 1, cells := 4, slots := 8, locals := 16 } : Room).slots)
  refine OGo.step (fun _ kk => XS.aloadN X505.here hx rfl (hb hby own_d_jdk_42_method_149_code_8) rfl rfl kk) ?_
  show OGo p e below (T505.setTop (mkF m 9 #[.val (.ref a), .val (.ref b), .val (.int (0 : Int32)), .val (.int (0 : Int32)), .val .null, .unset] [(.ref a)])) (OEndW s Z consts_1 (fun v h L => v = none ∧ Fr n0 L ∧ Keep h0 h [a] ∧ OStr Z h a []) ({ frames := 1, cells := 4, slots := 8, locals := 16 } : Room).cells ({ frames := 1, cells := 4, slots := 8, locals := 16 } : Room).slots)
  refine own_ldcW X505 hx hown (hw _ (List.mem_of_getElem? (i := 53) rfl)) wS hEL OW0 e505 (by decide) (vs := []) (z := (0 : Int32)) ⟨by decide, by decide⟩ (by decide) (by decide) (pc := 9) (Ls := #[.val (.ref a), .val (.ref b), .val (.int (0 : Int32)), .val (.int (0 : Int32)), .val .null, .unset]) (st := [(.ref a)]) (hb hby own_d_jdk_42_method_149_code_9) (n := 0) (by decide) (by decide) (by decide) (by decide) ?_
  intro z zb kb506 T506 X506 E506 OW506 hZ hown CH506 Es506 Fc506 Fv506 Av506 Ns506
  have sf507 := CH506.safe (E1).lt sf504
  have sz506 : n0 ≤ T506.heap.size := Nat.le_trans Z0 E506.1
  show OGo p e below (T506.setTop (mkF m 11 #[.val (.ref a), .val (.ref b), .val (.int (0 : Int32)), .val (.int (0 : Int32)), .val .null, .unset] [(.ref z), (.ref a)])) (OEndW s Z consts_1 (fun v h L => v = none ∧ Fr n0 L ∧ Keep h0 h [a] ∧ OStr Z h a []) ({ frames := 1, cells := 4, slots := 8, locals := 16 } : Room).cells ({ frames := 1, cells := 4, slots := 8, locals := 16 } : Room).slots)
  have nab := (Ns506 _ sf507).2
  obtain ⟨T508, X508, e508, st508⟩ := getF X506 hx hZ hown (host := "") (Or.inl (hw _ (List.mem_of_getElem? (i := 25) rfl))) Via.refl rfl Fv506 (g := (mkF m 11 #[.val (.ref a), .val (.ref b), .val (.int (0 : Int32)), .val (.int (0 : Int32)), .val .null, .unset] [(.ref z), (.ref a)])) rfl rfl (hb hby own_d_jdk_42_method_149_code_11)
  refine OGo.step st508 ?_
  show OGo p e below (T508.setTop (mkF m 14 #[.val (.ref a), .val (.ref b), .val (.int (0 : Int32)), .val (.int (0 : Int32)), .val .null, .unset] [(.ref zb), (.ref a)])) (OEndW s Z consts_1 (fun v h L => v = none ∧ Fr n0 L ∧ Keep h0 h [a] ∧ OStr Z h a []) ({ frames := 1, cells := 4, slots := 8, locals := 16 } : Room).cells ({ frames := 1, cells := 4, slots := 8, locals := 16 } : Room).slots)
  have fc509 := (Fv.ext E506)
  have fc510 := (E1.ext E506)
  obtain ⟨T511, h511, X511, e511, W511, st511⟩ := putF X508 hx hZ hown (host := "") (Or.inl (hw _ (List.mem_of_getElem? (i := 25) rfl))) Via.refl e508 fc509 fc510 (Or.inr ⟨(hw _ (List.mem_of_getElem? (i := 9) rfl)), rfl, hnm⟩) (hw _ (List.mem_of_getElem? (i := 7) rfl)) (ty := (.array .byte)) (by decide) rfl rfl (g := (mkF m 14 #[.val (.ref a), .val (.ref b), .val (.int (0 : Int32)), .val (.int (0 : Int32)), .val .null, .unset] [(.ref zb), (.ref a)])) rfl rfl (hb hby own_d_jdk_42_method_149_code_14)
  refine OGo.step st511 ?_
  show OGo p e below (T511.setTop (mkF m 17 #[.val (.ref a), .val (.ref b), .val (.int (0 : Int32)), .val (.int (0 : Int32)), .val .null, .unset] [])) (OEndW s Z consts_1 (fun v h L => v = none ∧ Fr n0 L ∧ Keep h0 h [a] ∧ OStr Z h a []) ({ frames := 1, cells := 4, slots := 8, locals := 16 } : Room).cells ({ frames := 1, cells := 4, slots := 8, locals := 16 } : Room).slots)
  have Fw511 := fc509.same W511
  have Nf511 := Fr.snoc X511 (Fr.nil n0) ga
  have sz511 : n0 ≤ h511.size := by rw [W511.size]; exact sz506
  have sw512 := sf507
  have sf513 := Safe.wr W511 sw512 OW506.chv sf507
  have OW514 := OW506.wr W511 sw512
  refine OGo.step (fun _ kk => XS.aloadN X511.here hx rfl (hb hby own_d_jdk_42_method_149_code_17) rfl rfl kk) ?_
  show OGo p e below (T511.setTop (mkF m 18 #[.val (.ref a), .val (.ref b), .val (.int (0 : Int32)), .val (.int (0 : Int32)), .val .null, .unset] [(.ref a)])) (OEndW s Z consts_1 (fun v h L => v = none ∧ Fr n0 L ∧ Keep h0 h [a] ∧ OStr Z h a []) ({ frames := 1, cells := 4, slots := 8, locals := 16 } : Room).cells ({ frames := 1, cells := 4, slots := 8, locals := 16 } : Room).slots)
  refine own_ldcW X511 hx hown (hw _ (List.mem_of_getElem? (i := 53) rfl)) wS hEL OW514 e511 (by decide) (vs := []) (z := (0 : Int32)) ⟨by decide, by decide⟩ (by decide) (by decide) (pc := 18) (Ls := #[.val (.ref a), .val (.ref b), .val (.int (0 : Int32)), .val (.int (0 : Int32)), .val .null, .unset]) (st := [(.ref a)]) (hb hby own_d_jdk_42_method_149_code_18) (n := 0) (by decide) (by decide) (by decide) (by decide) ?_
  intro z2 z2b kb515 T515 X515 E515 OW515 hZ hown CH515 Es515 Fc515 Fv515 Av515 Ns515
  have fc517 := (fc510.wr W511)
  have sf516 := CH515.safe (fc517).lt sf513
  have sz515 : n0 ≤ T515.heap.size := Nat.le_trans sz511 E515.1
  show OGo p e below (T515.setTop (mkF m 20 #[.val (.ref a), .val (.ref b), .val (.int (0 : Int32)), .val (.int (0 : Int32)), .val .null, .unset] [(.ref z2), (.ref a)])) (OEndW s Z consts_1 (fun v h L => v = none ∧ Fr n0 L ∧ Keep h0 h [a] ∧ OStr Z h a []) ({ frames := 1, cells := 4, slots := 8, locals := 16 } : Room).cells ({ frames := 1, cells := 4, slots := 8, locals := 16 } : Room).slots)
  obtain ⟨T518, X518, e518, st518⟩ := getF X515 hx hZ hown (host := "") (Or.inl (hw _ (List.mem_of_getElem? (i := 24) rfl))) Via.refl rfl Fc515 (g := (mkF m 20 #[.val (.ref a), .val (.ref b), .val (.int (0 : Int32)), .val (.int (0 : Int32)), .val .null, .unset] [(.ref z2), (.ref a)])) rfl rfl (hb hby own_d_jdk_42_method_149_code_20)
  refine OGo.step st518 ?_
  show OGo p e below (T518.setTop (mkF m 23 #[.val (.ref a), .val (.ref b), .val (.int (0 : Int32)), .val (.int (0 : Int32)), .val .null, .unset] [(.int (0 : Int32)), (.ref a)])) (OEndW s Z consts_1 (fun v h L => v = none ∧ Fr n0 L ∧ Keep h0 h [a] ∧ OStr Z h a []) ({ frames := 1, cells := 4, slots := 8, locals := 16 } : Room).cells ({ frames := 1, cells := 4, slots := 8, locals := 16 } : Room).slots)
  have fc519 := (((Fc.ext E506).other W511 (Or.inr (slot_ne (Or.inr (hw _ (List.mem_of_getElem? (i := 10) rfl))) (Or.inr (hw _ (List.mem_of_getElem? (i := 9) rfl))) (by decide) (t := .byte) (t' := (.array .byte)) (by decide) (by decide)))).ext E515)
  have fc520 := (fc517.ext E515)
  obtain ⟨T521, h521, X521, e521, W521, st521⟩ := putFN X518 hx hZ hown (hw _ (List.mem_of_getElem? (i := 24) rfl)) Via.refl e518 fc519 fc520 (Or.inr ⟨(hw _ (List.mem_of_getElem? (i := 10) rfl)), rfl, hnm⟩) (hw _ (List.mem_of_getElem? (i := 7) rfl)) (ty := .byte) (v' := (.int (0 : Int32))) (by decide) rfl rfl (g := (mkF m 23 #[.val (.ref a), .val (.ref b), .val (.int (0 : Int32)), .val (.int (0 : Int32)), .val .null, .unset] [(.int (0 : Int32)), (.ref a)])) rfl rfl (hb hby own_d_jdk_42_method_149_code_23)
  refine OGo.step st521 ?_
  show OGo p e below (T521.setTop (mkF m 26 #[.val (.ref a), .val (.ref b), .val (.int (0 : Int32)), .val (.int (0 : Int32)), .val .null, .unset] [])) (OEndW s Z consts_1 (fun v h L => v = none ∧ Fr n0 L ∧ Keep h0 h [a] ∧ OStr Z h a []) ({ frames := 1, cells := 4, slots := 8, locals := 16 } : Room).cells ({ frames := 1, cells := 4, slots := 8, locals := 16 } : Room).slots)
  have Fw521 := fc519.same W521
  have Nf521 := Fr.snoc X521 Nf511 ga
  have sz521 : n0 ≤ h521.size := by rw [W521.size]; exact sz515
  have sw522 := sf516
  have sf523 := Safe.wr W521 sw522 OW515.chv sf516
  have OW524 := OW515.wr W521 sw522
  have fc525 := (fc520.wr W521)
  have fc526 := ((Fw511.ext E515).other W521 (Or.inr (slot_ne (Or.inr (hw _ (List.mem_of_getElem? (i := 9) rfl))) (Or.inr (hw _ (List.mem_of_getElem? (i := 10) rfl))) (by decide) (t := (.array .byte)) (t' := .byte) (by decide) (by decide))))
  have fc527 := (((Av506.other W511 (Ne.symm nab)).ext E515).other W521 (Ne.symm nab))
  have HQ : OStr Z h521 a [] := ⟨zb, _, 0, 0, [], fc525, fc526, Fw521, fc527, Or.inl ⟨rfl, rfl, rfl, own_all0⟩, own_all0, by decide⟩
  have HK := (((((Keep.refl h0 [a]).ext E506).wr W511 (Or.inl (List.mem_of_getElem? (i := 0) rfl))).ext E515).wr W521 (Or.inl (List.mem_of_getElem? (i := 0) rfl)))
  exact own_ret0W X521 hx hlk hEL OW524 e521 hret (hb hby own_d_jdk_42_method_149_code_26) (by rw [e521]; exact ⟨rfl, Nf521, HK, HQ⟩) (by decide) (by decide)

set_option maxRecDepth 65536 in
set_option maxHeartbeats 40000000 in
theorem own_new1E (l : Launch) (Z : State) (a0 : Array Value) (hw : ∀ d ∈ tables_1, d.before a0 Z = true) (ws : List Jvm.Cond) (a b : Addr) (kb : ClassId) (h0 : Heap) (n0 : Nat) (Z0 : n0 ≤ h0.size) (E1 : Exa Z h0 a "java/lang/String") (Fv : Fld Z h0 a "java/lang/String" "value" "[B" .null) (Fc : Fld Z h0 a "java/lang/String" "coder" "B" (.int (0 : Int32))) (ga : n0 ≤ a) (Vb : Arv Z h0 b kb .char (0 : Int32) [] (.int (0 : Int32))) :
    OMetW l Z consts_1 (⟨"java/lang/String", "<init>", "([C)V"⟩ : MethodName) jdk_42_method_3_code 2 none ws ({ frames := 2, cells := 4, slots := 8, locals := 33 } : Room) #[(.ref a), (.ref b)] h0 (fun v h L => v = none ∧ Fr n0 L ∧ Keep h0 h [a] ∧ OStr Z h a []) := by
  refine OMetW.body (plainFor_of_name own_pn2) ?_
  intro p e s m below meth c s₁ hx hby hml hown hnm hret hlk hZ X0 e0 OW0
  have hEL := own_hEL hw
  have wS := own_wS hw
  refine OGo.step (fun _ kk => castTop (show entryFrame m #[(.ref a), (.ref b)] 2 = (mkF m 0 #[.val (.ref a), .val (.ref b)] []) from by first | (simp [entryFrame, mkF, argsToLocals, Value.category]; done) | rfl) kk) ?_
  show OGo p e below (s₁.setTop (mkF m 0 #[.val (.ref a), .val (.ref b)] [])) (OEndW s Z consts_1 (fun v h L => v = none ∧ Fr n0 L ∧ Keep h0 h [a] ∧ OStr Z h a []) ({ frames := 2, cells := 4, slots := 8, locals := 33 } : Room).cells ({ frames := 2, cells := 4, slots := 8, locals := 33 } : Room).slots)
  obtain ⟨cb, Ab, qb, Sb, Mb, Hb, Gb⟩ := Vb
  refine OGo.step (fun _ kk => XS.aloadN X0.here hx rfl (hb hby own_d_jdk_42_method_3_code_0) rfl rfl kk) ?_
  show OGo p e below (s₁.setTop (mkF m 1 #[.val (.ref a), .val (.ref b)] [(.ref a)])) (OEndW s Z consts_1 (fun v h L => v = none ∧ Fr n0 L ∧ Keep h0 h [a] ∧ OStr Z h a []) ({ frames := 2, cells := 4, slots := 8, locals := 33 } : Room).cells ({ frames := 2, cells := 4, slots := 8, locals := 33 } : Room).slots)
  refine OGo.step (fun _ kk => XS.aloadN X0.here hx rfl (hb hby own_d_jdk_42_method_3_code_1) rfl rfl kk) ?_
  show OGo p e below (s₁.setTop (mkF m 2 #[.val (.ref a), .val (.ref b)] [(.ref b), (.ref a)])) (OEndW s Z consts_1 (fun v h L => v = none ∧ Fr n0 L ∧ Keep h0 h [a] ∧ OStr Z h a []) ({ frames := 2, cells := 4, slots := 8, locals := 33 } : Room).cells ({ frames := 2, cells := 4, slots := 8, locals := 33 } : Room).slots)
  refine OGo.step (fun _ kk => XS.iconst X0.here hx rfl (hb hby own_d_jdk_42_method_3_code_2) kk) ?_
  show OGo p e below (s₁.setTop (mkF m 3 #[.val (.ref a), .val (.ref b)] [(.int (0 : Int32)), (.ref b), (.ref a)])) (OEndW s Z consts_1 (fun v h L => v = none ∧ Fr n0 L ∧ Keep h0 h [a] ∧ OStr Z h a []) ({ frames := 2, cells := 4, slots := 8, locals := 33 } : Room).cells ({ frames := 2, cells := 4, slots := 8, locals := 33 } : Room).slots)
  refine OGo.step (fun _ kk => XS.aloadN X0.here hx rfl (hb hby own_d_jdk_42_method_3_code_3) rfl rfl kk) ?_
  show OGo p e below (s₁.setTop (mkF m 4 #[.val (.ref a), .val (.ref b)] [(.ref b), (.int (0 : Int32)), (.ref b), (.ref a)])) (OEndW s Z consts_1 (fun v h L => v = none ∧ Fr n0 L ∧ Keep h0 h [a] ∧ OStr Z h a []) ({ frames := 2, cells := 4, slots := 8, locals := 33 } : Room).cells ({ frames := 2, cells := 4, slots := 8, locals := 33 } : Room).slots)
  refine OGo.step (fun _ kk => X0.arraylength hx (by rw [e0]; exact (Ab).1) (State.isArrayOf_alike hZ.alike (Ab).2.1) (g := (mkF m 4 #[.val (.ref a), .val (.ref b)] [(.ref b), (.int (0 : Int32)), (.ref b), (.ref a)])) rfl rfl (hb hby own_d_jdk_42_method_3_code_4) _ kk) ?_
  rw [len_of Sb Mb]
  show OGo p e below (s₁.setTop (mkF m 5 #[.val (.ref a), .val (.ref b)] [(.int (0 : Int32)), (.int (0 : Int32)), (.ref b), (.ref a)])) (OEndW s Z consts_1 (fun v h L => v = none ∧ Fr n0 L ∧ Keep h0 h [a] ∧ OStr Z h a []) ({ frames := 2, cells := 4, slots := 8, locals := 33 } : Room).cells ({ frames := 2, cells := 4, slots := 8, locals := 33 } : Room).slots)
  refine OGo.step (fun _ kk => XS.aconstNull X0.here hx rfl (hb hby own_d_jdk_42_method_3_code_5) kk) ?_
  show OGo p e below (s₁.setTop (mkF m 6 #[.val (.ref a), .val (.ref b)] [.null, (.int (0 : Int32)), (.int (0 : Int32)), (.ref b), (.ref a)])) (OEndW s Z consts_1 (fun v h L => v = none ∧ Fr n0 L ∧ Keep h0 h [a] ∧ OStr Z h a []) ({ frames := 2, cells := 4, slots := 8, locals := 33 } : Room).cells ({ frames := 2, cells := 4, slots := 8, locals := 33 } : Room).slots)
  refine own_specialW X0 hx hZ (y := (⟨"java/lang/String", "<init>", "([CIILjava/lang/Void;)V"⟩ : MethodName)) rfl hown (hw _ (List.mem_of_getElem? (i := 46) rfl)) (hw _ (List.mem_of_getElem? (i := 47) rfl)) (hw _ (List.mem_of_getElem? (i := 49) rfl)) (hw _ (List.mem_of_getElem? (i := 6) rfl)) (by decide) hEL OW0 (a := a) (W := 0) (own_new4E l Z a0 hw [] a b h0 n0 Z0 E1 Fv Fc ga) e0  (pc := 6) (Ls := #[.val (.ref a), .val (.ref b)]) (argsL := [(.ref b), (.int (0 : Int32)), (.int (0 : Int32)), .null]) (rest := []) (by rw [hml]; rfl) (lenOf own_pd11 rfl) rfl (hb hby own_d_jdk_42_method_3_code_6) (by decide) (by decide) (by decide) (by decide) ?_
  intro v528 T528 L528 X528 hQ528 OW528 hZ hown CH528
  obtain ⟨rfl, N528, K528, O528⟩ := hQ528
  show OGo p e below (T528.setTop (mkF m 9 #[.val (.ref a), .val (.ref b)] [])) (OEndW s Z consts_1 (fun v h L => v = none ∧ Fr n0 L ∧ Keep h0 h [a] ∧ OStr Z h a []) ({ frames := 2, cells := 4, slots := 8, locals := 33 } : Room).cells ({ frames := 2, cells := 4, slots := 8, locals := 33 } : Room).slots)
  exact own_ret0W X528 hx hlk hEL OW528 rfl hret (hb hby own_d_jdk_42_method_3_code_9) ⟨rfl, Fr.app (Fr.nil n0) N528, K528, O528⟩ (by decide) (by decide)

set_option maxRecDepth 65536 in
set_option maxHeartbeats 40000000 in
theorem own_seqN (l : Launch) (Z : State) (a0 : Array Value) (hw : ∀ d ∈ tables_1, d.before a0 Z = true) (ws : List Jvm.Cond) (x : Addr) (h0 : Heap) (n0 : Nat) (Z0 : n0 ≤ h0.size)  :
    OMet l Z (⟨"java/lang/String", "equals", "(Ljava/lang/Object;)Z"⟩ : MethodName) jdk_42_method_66_code 3 (some .boolean) ws ({ frames := 0, cells := 0, slots := 0, locals := 0 } : Room) #[(.ref x), .null] h0 (fun v h L => v = some (.int (0 : Int32)) ∧ Fr n0 L ∧ h = h0) := by
  refine OMet.body (plainFor_of_name own_pn2) ?_
  intro p e s m below meth c s₁ hx hby hml hown hnm hret hlk hZ X0 e0
  refine OGo.step (fun _ kk => castTop (show entryFrame m #[(.ref x), .null] 3 = (mkF m 0 #[.val (.ref x), .val .null, .unset] []) from by first | (simp [entryFrame, mkF, argsToLocals, Value.category]; done) | rfl) kk) ?_
  show OGo p e below (s₁.setTop (mkF m 0 #[.val (.ref x), .val .null, .unset] [])) (OEnd s (fun v h L => v = some (.int (0 : Int32)) ∧ Fr n0 L ∧ h = h0) ({ frames := 0, cells := 0, slots := 0, locals := 0 } : Room).cells ({ frames := 0, cells := 0, slots := 0, locals := 0 } : Room).slots)
  refine OGo.step (fun _ kk => XS.aloadN X0.here hx rfl (hb hby own_d_jdk_42_method_66_code_0) rfl rfl kk) ?_
  show OGo p e below (s₁.setTop (mkF m 1 #[.val (.ref x), .val .null, .unset] [(.ref x)])) (OEnd s (fun v h L => v = some (.int (0 : Int32)) ∧ Fr n0 L ∧ h = h0) ({ frames := 0, cells := 0, slots := 0, locals := 0 } : Room).cells ({ frames := 0, cells := 0, slots := 0, locals := 0 } : Room).slots)
  refine OGo.step (fun _ kk => XS.aloadN X0.here hx rfl (hb hby own_d_jdk_42_method_66_code_1) rfl rfl kk) ?_
  show OGo p e below (s₁.setTop (mkF m 2 #[.val (.ref x), .val .null, .unset] [.null, (.ref x)])) (OEnd s (fun v h L => v = some (.int (0 : Int32)) ∧ Fr n0 L ∧ h = h0) ({ frames := 0, cells := 0, slots := 0, locals := 0 } : Room).cells ({ frames := 0, cells := 0, slots := 0, locals := 0 } : Room).slots)
  refine OGo.step (fun _ kk => Jvm.RoadKit.acmp (g := (mkF m 2 #[.val (.ref x), .val .null, .unset] [.null, (.ref x)])) X0 hx rfl rfl rfl (pc0 := 2) (pc' := 7) (same := false) rfl (hb hby own_d_jdk_42_method_66_code_2) rfl (decide_eq_false (fun z => by cases z)) (by decide) (by decide) kk) ?_
  show OGo p e below (s₁.setTop (mkF m 7 #[.val (.ref x), .val .null, .unset] [])) (OEnd s (fun v h L => v = some (.int (0 : Int32)) ∧ Fr n0 L ∧ h = h0) ({ frames := 0, cells := 0, slots := 0, locals := 0 } : Room).cells ({ frames := 0, cells := 0, slots := 0, locals := 0 } : Room).slots)
  refine OGo.step (fun _ kk => XS.aloadN X0.here hx rfl (hb hby own_d_jdk_42_method_66_code_7) rfl rfl kk) ?_
  show OGo p e below (s₁.setTop (mkF m 8 #[.val (.ref x), .val .null, .unset] [.null])) (OEnd s (fun v h L => v = some (.int (0 : Int32)) ∧ Fr n0 L ∧ h = h0) ({ frames := 0, cells := 0, slots := 0, locals := 0 } : Room).cells ({ frames := 0, cells := 0, slots := 0, locals := 0 } : Room).slots)
  refine OGo.step (fun _ kk => Jvm.Stand.instanceofNull X0 hx (g := (mkF m 8 #[.val (.ref x), .val .null, .unset] [.null])) rfl rfl (hb hby own_d_jdk_42_method_66_code_8) _ kk) ?_
  show OGo p e below (s₁.setTop (mkF m 11 #[.val (.ref x), .val .null, .unset] [(.int (0 : Int32))])) (OEnd s (fun v h L => v = some (.int (0 : Int32)) ∧ Fr n0 L ∧ h = h0) ({ frames := 0, cells := 0, slots := 0, locals := 0 } : Room).cells ({ frames := 0, cells := 0, slots := 0, locals := 0 } : Room).slots)
  refine OGo.step (fun _ kk => XS.ifYes X0.here hx rfl (pc0 := 11) (pc' := 54) rfl (hb hby own_d_jdk_42_method_66_code_11) rfl ((if0 _ _).trans (teq rfl).1) (by decide) (by decide) kk) ?_
  show OGo p e below (s₁.setTop (mkF m 54 #[.val (.ref x), .val .null, .unset] [])) (OEnd s (fun v h L => v = some (.int (0 : Int32)) ∧ Fr n0 L ∧ h = h0) ({ frames := 0, cells := 0, slots := 0, locals := 0 } : Room).cells ({ frames := 0, cells := 0, slots := 0, locals := 0 } : Room).slots)
  refine OGo.step (fun _ kk => XS.iconst X0.here hx rfl (hb hby own_d_jdk_42_method_66_code_54) kk) ?_
  show OGo p e below (s₁.setTop (mkF m 55 #[.val (.ref x), .val .null, .unset] [(.int (0 : Int32))])) (OEnd s (fun v h L => v = some (.int (0 : Int32)) ∧ Fr n0 L ∧ h = h0) ({ frames := 0, cells := 0, slots := 0, locals := 0 } : Room).cells ({ frames := 0, cells := 0, slots := 0, locals := 0 } : Room).slots)
  exact own_retN X0 hx hlk hret (by simp) (hb hby own_d_jdk_42_method_66_code_55) ⟨by rw [own_nar0], Fr.nil n0, e0⟩ (by decide) (by decide)

set_option maxRecDepth 65536 in
set_option maxHeartbeats 40000000 in
theorem own_canEnc (l : Launch) (Z : State) (a0 : Array Value) (hw : ∀ d ∈ tables_1, d.before a0 Z = true) (ws : List Jvm.Cond) (ch : Int32) (h0 : Heap) (n0 : Nat) (Z0 : n0 ≤ h0.size) (hc : ¬ (255 : Int32) < ch) :
    OMet l Z (⟨"java/lang/StringLatin1", "canEncode", "(C)Z"⟩ : MethodName) jdk_43_method_3_code 1 (some .boolean) ws ({ frames := 0, cells := 0, slots := 0, locals := 0 } : Room) #[(.int ch)] h0 (fun v h L => v = some (.int (1 : Int32)) ∧ Fr n0 L ∧ h = h0) := by
  refine OMet.body (plainFor_of_name own_pn3) ?_
  intro p e s m below meth c s₁ hx hby hml hown hnm hret hlk hZ X0 e0
  refine OGo.step (fun _ kk => castTop (show entryFrame m #[(.int ch)] 1 = (mkF m 0 #[.val (.int ch)] []) from by first | (simp [entryFrame, mkF, argsToLocals, Value.category]; done) | rfl) kk) ?_
  show OGo p e below (s₁.setTop (mkF m 0 #[.val (.int ch)] [])) (OEnd s (fun v h L => v = some (.int (1 : Int32)) ∧ Fr n0 L ∧ h = h0) ({ frames := 0, cells := 0, slots := 0, locals := 0 } : Room).cells ({ frames := 0, cells := 0, slots := 0, locals := 0 } : Room).slots)
  refine OGo.step (fun _ kk => XS.iloadN X0.here hx rfl (hb hby own_d_jdk_43_method_3_code_0) rfl kk) ?_
  show OGo p e below (s₁.setTop (mkF m 1 #[.val (.int ch)] [(.int ch)])) (OEnd s (fun v h L => v = some (.int (1 : Int32)) ∧ Fr n0 L ∧ h = h0) ({ frames := 0, cells := 0, slots := 0, locals := 0 } : Room).cells ({ frames := 0, cells := 0, slots := 0, locals := 0 } : Room).slots)
  refine OGo.step (fun _ kk => XS.sipush X0.here hx rfl (hb hby own_d_jdk_43_method_3_code_1) kk) ?_
  show OGo p e below (s₁.setTop (mkF m 4 #[.val (.int ch)] [(.int (255 : Int32)), (.int ch)])) (OEnd s (fun v h L => v = some (.int (1 : Int32)) ∧ Fr n0 L ∧ h = h0) ({ frames := 0, cells := 0, slots := 0, locals := 0 } : Room).cells ({ frames := 0, cells := 0, slots := 0, locals := 0 } : Room).slots)
  refine OGo.step (fun _ kk => XS.icmpNo X0.here hx rfl (hb hby own_d_jdk_43_method_3_code_4) rfl (flt hc).2.2.1 kk) ?_
  show OGo p e below (s₁.setTop (mkF m 7 #[.val (.int ch)] [])) (OEnd s (fun v h L => v = some (.int (1 : Int32)) ∧ Fr n0 L ∧ h = h0) ({ frames := 0, cells := 0, slots := 0, locals := 0 } : Room).cells ({ frames := 0, cells := 0, slots := 0, locals := 0 } : Room).slots)
  refine OGo.step (fun _ kk => XS.iconst X0.here hx rfl (hb hby own_d_jdk_43_method_3_code_7) kk) ?_
  show OGo p e below (s₁.setTop (mkF m 8 #[.val (.int ch)] [(.int (1 : Int32))])) (OEnd s (fun v h L => v = some (.int (1 : Int32)) ∧ Fr n0 L ∧ h = h0) ({ frames := 0, cells := 0, slots := 0, locals := 0 } : Room).cells ({ frames := 0, cells := 0, slots := 0, locals := 0 } : Room).slots)
  refine OGo.step (fun _ kk => XS.goto X0.here hx rfl (pc0 := 8) (pc' := 12) rfl (hb hby own_d_jdk_43_method_3_code_8) (by decide) (by decide) kk) ?_
  show OGo p e below (s₁.setTop (mkF m 12 #[.val (.int ch)] [(.int (1 : Int32))])) (OEnd s (fun v h L => v = some (.int (1 : Int32)) ∧ Fr n0 L ∧ h = h0) ({ frames := 0, cells := 0, slots := 0, locals := 0 } : Room).cells ({ frames := 0, cells := 0, slots := 0, locals := 0 } : Room).slots)
  exact own_retN X0 hx hlk hret (by simp) (hb hby own_d_jdk_43_method_3_code_12) ⟨by rw [own_nar1], Fr.nil n0, e0⟩ (by decide) (by decide)

set_option maxRecDepth 65536 in
set_option maxHeartbeats 40000000 in
theorem own_l1b (l : Launch) (Z : State) (a0 : Array Value) (hw : ∀ d ∈ tables_1, d.before a0 Z = true) (ws : List Jvm.Cond) (ch : Int32) (h0 : Heap) (n0 : Nat) (Z0 : n0 ≤ h0.size)  :
    OMet l Z (⟨"java/lang/StringLatin1", "toBytes", "(C)[B"⟩ : MethodName) jdk_43_method_46_code 1 (some (.array .byte)) ws ({ frames := 0, cells := 1, slots := 1, locals := 0 } : Room) #[(.int ch)] h0 (fun v h L => ∃ (t : Addr) (kb : ClassId), v = some (.ref t) ∧ Fr n0 L ∧ Ext h0 h ∧ h0.size ≤ t ∧ Arv Z h t kb .byte (1 : Int32) [.int ch.toInt8.toInt32] (.int (0 : Int32))) := by
  refine OMet.body (plainFor_of_name own_pn3) ?_
  intro p e s m below meth c s₁ hx hby hml hown hnm hret hlk hZ X0 e0
  refine OGo.step (fun _ kk => castTop (show entryFrame m #[(.int ch)] 1 = (mkF m 0 #[.val (.int ch)] []) from by first | (simp [entryFrame, mkF, argsToLocals, Value.category]; done) | rfl) kk) ?_
  show OGo p e below (s₁.setTop (mkF m 0 #[.val (.int ch)] [])) (OEnd s (fun v h L => ∃ (t : Addr) (kb : ClassId), v = some (.ref t) ∧ Fr n0 L ∧ Ext h0 h ∧ h0.size ≤ t ∧ Arv Z h t kb .byte (1 : Int32) [.int ch.toInt8.toInt32] (.int (0 : Int32))) ({ frames := 0, cells := 1, slots := 1, locals := 0 } : Room).cells ({ frames := 0, cells := 1, slots := 1, locals := 0 } : Room).slots)
  refine OGo.step (fun _ kk => XS.iconst X0.here hx rfl (hb hby own_d_jdk_43_method_46_code_0) kk) ?_
  show OGo p e below (s₁.setTop (mkF m 1 #[.val (.int ch)] [(.int (1 : Int32))])) (OEnd s (fun v h L => ∃ (t : Addr) (kb : ClassId), v = some (.ref t) ∧ Fr n0 L ∧ Ext h0 h ∧ h0.size ≤ t ∧ Arv Z h t kb .byte (1 : Int32) [.int ch.toInt8.toInt32] (.int (0 : Int32))) ({ frames := 0, cells := 1, slots := 1, locals := 0 } : Room).cells ({ frames := 0, cells := 1, slots := 1, locals := 0 } : Room).slots)
  obtain ⟨T530, h530, k530, X530, e530, E530, A530, st530⟩ := newP X0 hx hZ (hw _ (List.mem_of_getElem? (i := 8) rfl)) e0 (g := (mkF m 1 #[.val (.int ch)] [(.int (1 : Int32))])) rfl (hb hby own_d_jdk_43_method_46_code_1) rfl (by decide) (cap := 1) (by decide) (by decide) (by decide) (by decide)
  obtain ⟨t, g530⟩ : ∃ z, z = h0.size := ⟨_, rfl⟩
  rw [← g530] at A530 st530
  refine OGo.step st530 ?_
  show OGo p e below (T530.setTop (mkF m 3 #[.val (.int ch)] [(.ref t)])) (OEnd s (fun v h L => ∃ (t : Addr) (kb : ClassId), v = some (.ref t) ∧ Fr n0 L ∧ Ext h0 h ∧ h0.size ≤ t ∧ Arv Z h t kb .byte (1 : Int32) [.int ch.toInt8.toInt32] (.int (0 : Int32))) ({ frames := 0, cells := 1, slots := 1, locals := 0 } : Room).cells ({ frames := 0, cells := 1, slots := 1, locals := 0 } : Room).slots)
  have gf_t : n0 ≤ t := Nat.le_trans Z0 (Nat.le_of_eq g530.symm)
  have sz530 : n0 ≤ h530.size := Nat.le_trans Z0 E530.1
  have Va531 : Arv Z h530 t k530 .byte (1 : Int32) [(.int (0 : Int32))] (.int (0 : Int32)) := (Arv.new A530 (by decide)).pad (pad_rep [] (.int (0 : Int32)) 1)
  refine OGo.step (fun _ kk => XS.dup X530.here hx rfl (hb hby own_d_jdk_43_method_46_code_3) rfl rfl kk) ?_
  show OGo p e below (T530.setTop (mkF m 4 #[.val (.int ch)] [(.ref t), (.ref t)])) (OEnd s (fun v h L => ∃ (t : Addr) (kb : ClassId), v = some (.ref t) ∧ Fr n0 L ∧ Ext h0 h ∧ h0.size ≤ t ∧ Arv Z h t kb .byte (1 : Int32) [.int ch.toInt8.toInt32] (.int (0 : Int32))) ({ frames := 0, cells := 1, slots := 1, locals := 0 } : Room).cells ({ frames := 0, cells := 1, slots := 1, locals := 0 } : Room).slots)
  refine OGo.step (fun _ kk => XS.iconst X530.here hx rfl (hb hby own_d_jdk_43_method_46_code_4) kk) ?_
  show OGo p e below (T530.setTop (mkF m 5 #[.val (.int ch)] [(.int (0 : Int32)), (.ref t), (.ref t)])) (OEnd s (fun v h L => ∃ (t : Addr) (kb : ClassId), v = some (.ref t) ∧ Fr n0 L ∧ Ext h0 h ∧ h0.size ≤ t ∧ Arv Z h t kb .byte (1 : Int32) [.int ch.toInt8.toInt32] (.int (0 : Int32))) ({ frames := 0, cells := 1, slots := 1, locals := 0 } : Room).cells ({ frames := 0, cells := 1, slots := 1, locals := 0 } : Room).slots)
  refine OGo.step (fun _ kk => XS.iloadN X530.here hx rfl (hb hby own_d_jdk_43_method_46_code_5) rfl kk) ?_
  show OGo p e below (T530.setTop (mkF m 6 #[.val (.int ch)] [(.int ch), (.int (0 : Int32)), (.ref t), (.ref t)])) (OEnd s (fun v h L => ∃ (t : Addr) (kb : ClassId), v = some (.ref t) ∧ Fr n0 L ∧ Ext h0 h ∧ h0.size ≤ t ∧ Arv Z h t kb .byte (1 : Int32) [.int ch.toInt8.toInt32] (.int (0 : Int32))) ({ frames := 0, cells := 1, slots := 1, locals := 0 } : Room).cells ({ frames := 0, cells := 1, slots := 1, locals := 0 } : Room).slots)
  refine OGo.step (fun _ kk => XS.i2b X530.here hx rfl (hb hby own_d_jdk_43_method_46_code_6) rfl kk) ?_
  show OGo p e below (T530.setTop (mkF m 7 #[.val (.int ch)] [(.int (ch.toInt8.toInt32)), (.int (0 : Int32)), (.ref t), (.ref t)])) (OEnd s (fun v h L => ∃ (t : Addr) (kb : ClassId), v = some (.ref t) ∧ Fr n0 L ∧ Ext h0 h ∧ h0.size ≤ t ∧ Arv Z h t kb .byte (1 : Int32) [.int ch.toInt8.toInt32] (.int (0 : Int32))) ({ frames := 0, cells := 1, slots := 1, locals := 0 } : Room).cells ({ frames := 0, cells := 1, slots := 1, locals := 0 } : Room).slots)
  obtain ⟨cA532, A532, q532, S532, M532, H532, G532⟩ := id Va531
  obtain ⟨T533, h533, X533, e533, W533, st533⟩ := stB X530 hx hZ e530 A532 (j := (0 : Int32)) (inb_of S532 ⟨by decide, by decide⟩) (g := (mkF m 7 #[.val (.int ch)] [(.int (ch.toInt8.toInt32)), (.int (0 : Int32)), (.ref t), (.ref t)])) rfl rfl (hb hby own_d_jdk_43_method_46_code_7)
  refine OGo.step st533 ?_
  show OGo p e below (T533.setTop (mkF m 8 #[.val (.int ch)] [(.ref t)])) (OEnd s (fun v h L => ∃ (t : Addr) (kb : ClassId), v = some (.ref t) ∧ Fr n0 L ∧ Ext h0 h ∧ h0.size ≤ t ∧ Arv Z h t kb .byte (1 : Int32) [.int ch.toInt8.toInt32] (.int (0 : Int32))) ({ frames := 0, cells := 1, slots := 1, locals := 0 } : Room).cells ({ frames := 0, cells := 1, slots := 1, locals := 0 } : Room).slots)
  have Va532 : Arv Z h533 t k530 .byte (1 : Int32) [(.int (nar .byte (ch.toInt8.toInt32)))] (.int (0 : Int32)) := Arv.set A532 q532 S532 M532 H532 G532 (fits_nar_byte _) W533 0 rfl (Nat.le_of_ble_eq_true rfl)
  have Nf533 := Fr.snoc X533 (Fr.nil n0) gf_t
  have sz533 : n0 ≤ h533.size := by rw [W533.size]; exact sz530
  rw [own_narb] at Va532
  have xt534 := (own_ext_wr E530 W533 (Nat.le_of_eq g530.symm))
  exact own_ret X533 hx hlk hret rfl (Or.inr (Or.inr (Or.inr (Or.inr ⟨rfl, rfl, rfl⟩)))) (hb hby own_d_jdk_43_method_46_code_8) (by rw [e533]; exact ⟨t, _, rfl, Nf533, xt534, (Nat.le_of_eq g530.symm), Va532⟩) (by decide) (by decide)

set_option maxRecDepth 65536 in
set_option maxHeartbeats 40000000 in
theorem own_initBB0 (l : Launch) (Z : State) (a0 : Array Value) (hw : ∀ d ∈ tables_1, d.before a0 Z = true) (ws : List Jvm.Cond) (a t : Addr) (h0 : Heap) (n0 : Nat) (Z0 : n0 ≤ h0.size) (E1 : Exa Z h0 a "java/lang/String") (Fv : Fld Z h0 a "java/lang/String" "value" "[B" .null) (Fc : Fld Z h0 a "java/lang/String" "coder" "B" (.int (0 : Int32))) (ga : n0 ≤ a) :
    OMet l Z (⟨"java/lang/String", "<init>", "([BB)V"⟩ : MethodName) jdk_42_method_151_code 3 none ws ({ frames := 1, cells := 0, slots := 0, locals := 12 } : Room) #[(.ref a), (.ref t), (.int (0 : Int32))] h0 (fun v h L => v = none ∧ Fr n0 L ∧ Keep h0 h [a] ∧ Exa Z h a "java/lang/String" ∧ Fld Z h a "java/lang/String" "value" "[B" (.ref t) ∧ Fld Z h a "java/lang/String" "coder" "B" (.int (0 : Int32))) := by
  refine OMet.body (plainFor_of_name own_pn2) ?_
  intro p e s m below meth c s₁ hx hby hml hown hnm hret hlk hZ X0 e0
  refine OGo.step (fun _ kk => castTop (show entryFrame m #[(.ref a), (.ref t), (.int (0 : Int32))] 3 = (mkF m 0 #[.val (.ref a), .val (.ref t), .val (.int (0 : Int32))] []) from by first | (simp [entryFrame, mkF, argsToLocals, Value.category]; done) | rfl) kk) ?_
  show OGo p e below (s₁.setTop (mkF m 0 #[.val (.ref a), .val (.ref t), .val (.int (0 : Int32))] [])) (OEnd s (fun v h L => v = none ∧ Fr n0 L ∧ Keep h0 h [a] ∧ Exa Z h a "java/lang/String" ∧ Fld Z h a "java/lang/String" "value" "[B" (.ref t) ∧ Fld Z h a "java/lang/String" "coder" "B" (.int (0 : Int32))) ({ frames := 1, cells := 0, slots := 0, locals := 12 } : Room).cells ({ frames := 1, cells := 0, slots := 0, locals := 12 } : Room).slots)
  refine OGo.step (fun _ kk => XS.aloadN X0.here hx rfl (hb hby own_d_jdk_42_method_151_code_0) rfl rfl kk) ?_
  show OGo p e below (s₁.setTop (mkF m 1 #[.val (.ref a), .val (.ref t), .val (.int (0 : Int32))] [(.ref a)])) (OEnd s (fun v h L => v = none ∧ Fr n0 L ∧ Keep h0 h [a] ∧ Exa Z h a "java/lang/String" ∧ Fld Z h a "java/lang/String" "value" "[B" (.ref t) ∧ Fld Z h a "java/lang/String" "coder" "B" (.int (0 : Int32))) ({ frames := 1, cells := 0, slots := 0, locals := 12 } : Room).cells ({ frames := 1, cells := 0, slots := 0, locals := 12 } : Room).slots)
  obtain ⟨T546, X546, e546, st546⟩ := initO X0 hx hZ hown (hw _ (List.mem_of_getElem? (i := 50) rfl)) (hw _ (List.mem_of_getElem? (i := 51) rfl)) (hw _ (List.mem_of_getElem? (i := 52) rfl)) e0 (g := (mkF m 1 #[.val (.ref a), .val (.ref t), .val (.int (0 : Int32))] [(.ref a)])) rfl (by rw [hml]; rfl) rfl (hb hby own_d_jdk_42_method_151_code_1) (by decide) (W := 0) (by show 2 * 0 + _ ≤ _; exact Nat.le_of_eq rfl) (by decide)
  refine OGo.step st546 ?_
  show OGo p e below (T546.setTop (mkF m 4 #[.val (.ref a), .val (.ref t), .val (.int (0 : Int32))] [])) (OEnd s (fun v h L => v = none ∧ Fr n0 L ∧ Keep h0 h [a] ∧ Exa Z h a "java/lang/String" ∧ Fld Z h a "java/lang/String" "value" "[B" (.ref t) ∧ Fld Z h a "java/lang/String" "coder" "B" (.int (0 : Int32))) ({ frames := 1, cells := 0, slots := 0, locals := 12 } : Room).cells ({ frames := 1, cells := 0, slots := 0, locals := 12 } : Room).slots)
  refine OGo.step (fun _ kk => XS.aloadN X546.here hx rfl (hb hby own_d_jdk_42_method_151_code_4) rfl rfl kk) ?_
  show OGo p e below (T546.setTop (mkF m 5 #[.val (.ref a), .val (.ref t), .val (.int (0 : Int32))] [(.ref a)])) (OEnd s (fun v h L => v = none ∧ Fr n0 L ∧ Keep h0 h [a] ∧ Exa Z h a "java/lang/String" ∧ Fld Z h a "java/lang/String" "value" "[B" (.ref t) ∧ Fld Z h a "java/lang/String" "coder" "B" (.int (0 : Int32))) ({ frames := 1, cells := 0, slots := 0, locals := 12 } : Room).cells ({ frames := 1, cells := 0, slots := 0, locals := 12 } : Room).slots)
  refine OGo.step (fun _ kk => XS.aloadN X546.here hx rfl (hb hby own_d_jdk_42_method_151_code_5) rfl rfl kk) ?_
  show OGo p e below (T546.setTop (mkF m 6 #[.val (.ref a), .val (.ref t), .val (.int (0 : Int32))] [(.ref t), (.ref a)])) (OEnd s (fun v h L => v = none ∧ Fr n0 L ∧ Keep h0 h [a] ∧ Exa Z h a "java/lang/String" ∧ Fld Z h a "java/lang/String" "value" "[B" (.ref t) ∧ Fld Z h a "java/lang/String" "coder" "B" (.int (0 : Int32))) ({ frames := 1, cells := 0, slots := 0, locals := 12 } : Room).cells ({ frames := 1, cells := 0, slots := 0, locals := 12 } : Room).slots)
  obtain ⟨T547, h547, X547, e547, W547, st547⟩ := putF X546 hx hZ hown (host := "") (Or.inl (hw _ (List.mem_of_getElem? (i := 25) rfl))) Via.refl e546 Fv E1 (Or.inr ⟨(hw _ (List.mem_of_getElem? (i := 9) rfl)), rfl, hnm⟩) (hw _ (List.mem_of_getElem? (i := 7) rfl)) (ty := (.array .byte)) (by decide) rfl rfl (g := (mkF m 6 #[.val (.ref a), .val (.ref t), .val (.int (0 : Int32))] [(.ref t), (.ref a)])) rfl rfl (hb hby own_d_jdk_42_method_151_code_6)
  refine OGo.step st547 ?_
  show OGo p e below (T547.setTop (mkF m 9 #[.val (.ref a), .val (.ref t), .val (.int (0 : Int32))] [])) (OEnd s (fun v h L => v = none ∧ Fr n0 L ∧ Keep h0 h [a] ∧ Exa Z h a "java/lang/String" ∧ Fld Z h a "java/lang/String" "value" "[B" (.ref t) ∧ Fld Z h a "java/lang/String" "coder" "B" (.int (0 : Int32))) ({ frames := 1, cells := 0, slots := 0, locals := 12 } : Room).cells ({ frames := 1, cells := 0, slots := 0, locals := 12 } : Room).slots)
  have Fw547 := Fv.same W547
  have Nf547 := Fr.snoc X547 (Fr.nil n0) ga
  have sz547 : n0 ≤ h547.size := by rw [W547.size]; exact Z0
  refine OGo.step (fun _ kk => XS.aloadN X547.here hx rfl (hb hby own_d_jdk_42_method_151_code_9) rfl rfl kk) ?_
  show OGo p e below (T547.setTop (mkF m 10 #[.val (.ref a), .val (.ref t), .val (.int (0 : Int32))] [(.ref a)])) (OEnd s (fun v h L => v = none ∧ Fr n0 L ∧ Keep h0 h [a] ∧ Exa Z h a "java/lang/String" ∧ Fld Z h a "java/lang/String" "value" "[B" (.ref t) ∧ Fld Z h a "java/lang/String" "coder" "B" (.int (0 : Int32))) ({ frames := 1, cells := 0, slots := 0, locals := 12 } : Room).cells ({ frames := 1, cells := 0, slots := 0, locals := 12 } : Room).slots)
  refine OGo.step (fun _ kk => XS.iloadN X547.here hx rfl (hb hby own_d_jdk_42_method_151_code_10) rfl kk) ?_
  show OGo p e below (T547.setTop (mkF m 11 #[.val (.ref a), .val (.ref t), .val (.int (0 : Int32))] [(.int (0 : Int32)), (.ref a)])) (OEnd s (fun v h L => v = none ∧ Fr n0 L ∧ Keep h0 h [a] ∧ Exa Z h a "java/lang/String" ∧ Fld Z h a "java/lang/String" "value" "[B" (.ref t) ∧ Fld Z h a "java/lang/String" "coder" "B" (.int (0 : Int32))) ({ frames := 1, cells := 0, slots := 0, locals := 12 } : Room).cells ({ frames := 1, cells := 0, slots := 0, locals := 12 } : Room).slots)
  have fc548 := (Fc.other W547 (Or.inr (slot_ne (Or.inr (hw _ (List.mem_of_getElem? (i := 10) rfl))) (Or.inr (hw _ (List.mem_of_getElem? (i := 9) rfl))) (by decide) (t := .byte) (t' := (.array .byte)) (by decide) (by decide))))
  have fc549 := (E1.wr W547)
  obtain ⟨T550, h550, X550, e550, W550, st550⟩ := putFN X547 hx hZ hown (hw _ (List.mem_of_getElem? (i := 24) rfl)) Via.refl e547 fc548 fc549 (Or.inr ⟨(hw _ (List.mem_of_getElem? (i := 10) rfl)), rfl, hnm⟩) (hw _ (List.mem_of_getElem? (i := 7) rfl)) (ty := .byte) (v' := (.int (0 : Int32))) (by decide) rfl rfl (g := (mkF m 11 #[.val (.ref a), .val (.ref t), .val (.int (0 : Int32))] [(.int (0 : Int32)), (.ref a)])) rfl rfl (hb hby own_d_jdk_42_method_151_code_11)
  refine OGo.step st550 ?_
  show OGo p e below (T550.setTop (mkF m 14 #[.val (.ref a), .val (.ref t), .val (.int (0 : Int32))] [])) (OEnd s (fun v h L => v = none ∧ Fr n0 L ∧ Keep h0 h [a] ∧ Exa Z h a "java/lang/String" ∧ Fld Z h a "java/lang/String" "value" "[B" (.ref t) ∧ Fld Z h a "java/lang/String" "coder" "B" (.int (0 : Int32))) ({ frames := 1, cells := 0, slots := 0, locals := 12 } : Room).cells ({ frames := 1, cells := 0, slots := 0, locals := 12 } : Room).slots)
  have Fw550 := fc548.same W550
  have Nf550 := Fr.snoc X550 Nf547 ga
  have sz550 : n0 ≤ h550.size := by rw [W550.size]; exact sz547
  have fc551 := (fc549.wr W550)
  have fc552 := (Fw547.other W550 (Or.inr (slot_ne (Or.inr (hw _ (List.mem_of_getElem? (i := 9) rfl))) (Or.inr (hw _ (List.mem_of_getElem? (i := 10) rfl))) (by decide) (t := (.array .byte)) (t' := .byte) (by decide) (by decide))))
  have HK := (((Keep.refl h0 [a]).wr W547 (Or.inl (List.mem_of_getElem? (i := 0) rfl))).wr W550 (Or.inl (List.mem_of_getElem? (i := 0) rfl)))
  exact own_ret0 X550 hx hlk hret (hb hby own_d_jdk_42_method_151_code_14) (by rw [e550]; exact ⟨rfl, Nf550, HK, fc551, fc552, Fw550⟩) (by decide) (by decide)

set_option maxRecDepth 65536 in
set_option maxHeartbeats 40000000 in
theorem own_valueOf (l : Launch) (Z : State) (a0 : Array Value) (hw : ∀ d ∈ tables_1, d.before a0 Z = true) (ws : List Jvm.Cond) (ch zc : Int32) (h0 : Heap) (n0 : Nat) (Z0 : n0 ≤ h0.size) (SC : Sta Z h0 "java/lang/String" "COMPACT_STRINGS" "Z" (.int zc)) (hzc : ¬ zc = 0) (hc : ¬ ch < 0 ∧ ¬ (255 : Int32) < ch) :
    OMet l Z (⟨"java/lang/String", "valueOf", "(C)Ljava/lang/String;"⟩ : MethodName) jdk_42_method_139_code 1 (some (.object "java/lang/String")) ws ({ frames := 2, cells := 2, slots := 5, locals := 27 } : Room) #[(.int ch)] h0 (fun v h L => ∃ x : Addr, v = some (.ref x) ∧ Fr n0 L ∧ Ext h0 h ∧ OStr Z h x [ch]) := by
  refine OMet.body (plainFor_of_name own_pn2) ?_
  intro p e s m below meth c s₁ hx hby hml hown hnm hret hlk hZ X0 e0
  refine OGo.step (fun _ kk => castTop (show entryFrame m #[(.int ch)] 1 = (mkF m 0 #[.val (.int ch)] []) from by first | (simp [entryFrame, mkF, argsToLocals, Value.category]; done) | rfl) kk) ?_
  show OGo p e below (s₁.setTop (mkF m 0 #[.val (.int ch)] [])) (OEnd s (fun v h L => ∃ x : Addr, v = some (.ref x) ∧ Fr n0 L ∧ Ext h0 h ∧ OStr Z h x [ch]) ({ frames := 2, cells := 2, slots := 5, locals := 27 } : Room).cells ({ frames := 2, cells := 2, slots := 5, locals := 27 } : Room).slots)
  obtain ⟨T535, X535, e535, st535⟩ := getS2 X0 hx hZ hown (host := "") (Or.inl (hw _ (List.mem_of_getElem? (i := 23) rfl))) Via.refl e0 SC (g := (mkF m 0 #[.val (.int ch)] [])) rfl (hb hby own_d_jdk_42_method_139_code_0)
  refine OGo.step st535 ?_
  show OGo p e below (T535.setTop (mkF m 3 #[.val (.int ch)] [(.int zc)])) (OEnd s (fun v h L => ∃ x : Addr, v = some (.ref x) ∧ Fr n0 L ∧ Ext h0 h ∧ OStr Z h x [ch]) ({ frames := 2, cells := 2, slots := 5, locals := 27 } : Room).cells ({ frames := 2, cells := 2, slots := 5, locals := 27 } : Room).slots)
  refine OGo.step (fun _ kk => XS.ifNo X535.here hx rfl (hb hby own_d_jdk_42_method_139_code_3) rfl ((if0 _ _).trans (feq hzc).1) kk) ?_
  show OGo p e below (T535.setTop (mkF m 6 #[.val (.int ch)] [])) (OEnd s (fun v h L => ∃ x : Addr, v = some (.ref x) ∧ Fr n0 L ∧ Ext h0 h ∧ OStr Z h x [ch]) ({ frames := 2, cells := 2, slots := 5, locals := 27 } : Room).cells ({ frames := 2, cells := 2, slots := 5, locals := 27 } : Room).slots)
  refine OGo.step (fun _ kk => XS.iloadN X535.here hx rfl (hb hby own_d_jdk_42_method_139_code_6) rfl kk) ?_
  show OGo p e below (T535.setTop (mkF m 7 #[.val (.int ch)] [(.int ch)])) (OEnd s (fun v h L => ∃ x : Addr, v = some (.ref x) ∧ Fr n0 L ∧ Ext h0 h ∧ OStr Z h x [ch]) ({ frames := 2, cells := 2, slots := 5, locals := 27 } : Room).cells ({ frames := 2, cells := 2, slots := 5, locals := 27 } : Room).slots)
  refine own_callS X535 hx hZ (y := (⟨"java/lang/StringLatin1", "canEncode", "(C)Z"⟩ : MethodName)) hown (hw _ (List.mem_of_getElem? (i := 101) rfl)) (hw _ (List.mem_of_getElem? (i := 102) rfl)) (hw _ (List.mem_of_getElem? (i := 28) rfl)) (hw _ (List.mem_of_getElem? (i := 103) rfl)) (by decide) (W := 0) (own_canEnc l Z a0 hw [] ch h0 n0 Z0 hc.2) e535  (pc := 7) (Ls := #[.val (.int ch)]) (argsL := [(.int ch)]) (rest := []) (by rw [hml]; rfl) (lenOf own_pd12 rfl) rfl (hb hby own_d_jdk_42_method_139_code_7) (by decide) (by decide) (by decide) (by decide) ?_
  intro v536 T536 L536 X536 hQ536
  obtain ⟨rfl, N536, e536⟩ := hQ536
  show OGo p e below (T536.setTop (mkF m 10 #[.val (.int ch)] [(.int (1 : Int32))])) (OEnd s (fun v h L => ∃ x : Addr, v = some (.ref x) ∧ Fr n0 L ∧ Ext h0 h ∧ OStr Z h x [ch]) ({ frames := 2, cells := 2, slots := 5, locals := 27 } : Room).cells ({ frames := 2, cells := 2, slots := 5, locals := 27 } : Room).slots)
  have Nc536 := Fr.app (Fr.nil n0) N536
  refine OGo.step (fun _ kk => XS.ifNo X536.here hx rfl (hb hby own_d_jdk_42_method_139_code_10) rfl ((if0 _ _).trans (feq (by decide)).1) kk) ?_
  show OGo p e below (T536.setTop (mkF m 13 #[.val (.int ch)] [])) (OEnd s (fun v h L => ∃ x : Addr, v = some (.ref x) ∧ Fr n0 L ∧ Ext h0 h ∧ OStr Z h x [ch]) ({ frames := 2, cells := 2, slots := 5, locals := 27 } : Room).cells ({ frames := 2, cells := 2, slots := 5, locals := 27 } : Room).slots)
  obtain ⟨T537, h537, X537, e537, E537, A537, D537, U537, st537⟩ := newO X536 hx hZ hown (hw _ (List.mem_of_getElem? (i := 82) rfl)) (hw _ (List.mem_of_getElem? (i := 7) rfl)) (hw _ (List.mem_of_getElem? (i := 6) rfl)) e536 (g := (mkF m 13 #[.val (.int ch)] [])) rfl (hb hby own_d_jdk_42_method_139_code_13) (by decide) (by decide)
  obtain ⟨x, g537⟩ : ∃ z, z = h0.size := ⟨_, rfl⟩
  rw [← g537] at A537 D537 U537 st537
  refine OGo.step st537 ?_
  show OGo p e below (T537.setTop (mkF m 16 #[.val (.int ch)] [(.ref x)])) (OEnd s (fun v h L => ∃ x : Addr, v = some (.ref x) ∧ Fr n0 L ∧ Ext h0 h ∧ OStr Z h x [ch]) ({ frames := 2, cells := 2, slots := 5, locals := 27 } : Room).cells ({ frames := 2, cells := 2, slots := 5, locals := 27 } : Room).slots)
  have gf_x : n0 ≤ x := Nat.le_trans Z0 (Nat.le_of_eq g537.symm)
  have sz537 : n0 ≤ h537.size := Nat.le_trans Z0 E537.1
  have F537_value : Fld Z h537 x "java/lang/String" "value" "[B" .null := D537 (Or.inr (hw _ (List.mem_of_getElem? (i := 9) rfl))) (ty := (.array .byte)) (by decide)
  have F537_coder : Fld Z h537 x "java/lang/String" "coder" "B" (.int (0 : Int32)) := D537 (Or.inr (hw _ (List.mem_of_getElem? (i := 10) rfl))) (ty := .byte) (by decide)
  refine OGo.step (fun _ kk => XS.dup X537.here hx rfl (hb hby own_d_jdk_42_method_139_code_16) rfl rfl kk) ?_
  show OGo p e below (T537.setTop (mkF m 17 #[.val (.int ch)] [(.ref x), (.ref x)])) (OEnd s (fun v h L => ∃ x : Addr, v = some (.ref x) ∧ Fr n0 L ∧ Ext h0 h ∧ OStr Z h x [ch]) ({ frames := 2, cells := 2, slots := 5, locals := 27 } : Room).cells ({ frames := 2, cells := 2, slots := 5, locals := 27 } : Room).slots)
  refine OGo.step (fun _ kk => XS.iloadN X537.here hx rfl (hb hby own_d_jdk_42_method_139_code_17) rfl kk) ?_
  show OGo p e below (T537.setTop (mkF m 18 #[.val (.int ch)] [(.int ch), (.ref x), (.ref x)])) (OEnd s (fun v h L => ∃ x : Addr, v = some (.ref x) ∧ Fr n0 L ∧ Ext h0 h ∧ OStr Z h x [ch]) ({ frames := 2, cells := 2, slots := 5, locals := 27 } : Room).cells ({ frames := 2, cells := 2, slots := 5, locals := 27 } : Room).slots)
  refine own_callS X537 hx hZ (y := (⟨"java/lang/StringLatin1", "toBytes", "(C)[B"⟩ : MethodName)) hown (hw _ (List.mem_of_getElem? (i := 104) rfl)) (hw _ (List.mem_of_getElem? (i := 105) rfl)) (hw _ (List.mem_of_getElem? (i := 28) rfl)) (hw _ (List.mem_of_getElem? (i := 106) rfl)) (by decide) (W := 2) (own_l1b l Z a0 hw [] ch h537 n0 sz537) e537  (pc := 18) (Ls := #[.val (.int ch)]) (argsL := [(.int ch)]) (rest := [(.ref x), (.ref x)]) (by rw [hml]; rfl) (lenOf own_pd13 rfl) rfl (hb hby own_d_jdk_42_method_139_code_18) (by decide) (by decide) (by decide) (by decide) ?_
  intro v538 T538 L538 X538 hQ538
  obtain ⟨t, kb538, rfl, N538, Xe538, gt538, Va538⟩ := hQ538
  show OGo p e below (T538.setTop (mkF m 21 #[.val (.int ch)] [(.ref t), (.ref x), (.ref x)])) (OEnd s (fun v h L => ∃ x : Addr, v = some (.ref x) ∧ Fr n0 L ∧ Ext h0 h ∧ OStr Z h x [ch]) ({ frames := 2, cells := 2, slots := 5, locals := 27 } : Room).cells ({ frames := 2, cells := 2, slots := 5, locals := 27 } : Room).slots)
  have nxt : x ≠ t := Nat.ne_of_lt (Nat.lt_of_lt_of_le (A537).lt gt538)
  have Nc538 := Fr.app Nc536 N538
  have sz538 : n0 ≤ T538.heap.size := Nat.le_trans sz537 Xe538.1
  refine OGo.step (fun _ kk => XS.iconst X538.here hx rfl (hb hby own_d_jdk_42_method_139_code_21) kk) ?_
  show OGo p e below (T538.setTop (mkF m 22 #[.val (.int ch)] [(.int (0 : Int32)), (.ref t), (.ref x), (.ref x)])) (OEnd s (fun v h L => ∃ x : Addr, v = some (.ref x) ∧ Fr n0 L ∧ Ext h0 h ∧ OStr Z h x [ch]) ({ frames := 2, cells := 2, slots := 5, locals := 27 } : Room).cells ({ frames := 2, cells := 2, slots := 5, locals := 27 } : Room).slots)
  have fc539 := (A537.ext Xe538)
  have fc540 := (F537_value.ext Xe538)
  have fc541 := (F537_coder.ext Xe538)
  refine own_special X538 hx hZ (y := (⟨"java/lang/String", "<init>", "([BB)V"⟩ : MethodName)) rfl hown (hw _ (List.mem_of_getElem? (i := 107) rfl)) (hw _ (List.mem_of_getElem? (i := 108) rfl)) (hw _ (List.mem_of_getElem? (i := 109) rfl)) (hw _ (List.mem_of_getElem? (i := 6) rfl)) (by decide) (a := x) (W := 1) (own_initBB0 l Z a0 hw [] x t T538.heap n0 sz538 fc539 fc540 fc541 gf_x) rfl  (pc := 22) (Ls := #[.val (.int ch)]) (argsL := [(.ref t), (.int (0 : Int32))]) (rest := [(.ref x)]) (by rw [hml]; rfl) (lenOf own_pd14 rfl) rfl (hb hby own_d_jdk_42_method_139_code_22) (by decide) (by decide) (by decide) (by decide) ?_
  intro v542 T542 L542 X542 hQ542
  obtain ⟨rfl, N542, K542, Ex542, Fv542, Fc542⟩ := hQ542
  show OGo p e below (T542.setTop (mkF m 25 #[.val (.int ch)] [(.ref x)])) (OEnd s (fun v h L => ∃ x : Addr, v = some (.ref x) ∧ Fr n0 L ∧ Ext h0 h ∧ OStr Z h x [ch]) ({ frames := 2, cells := 2, slots := 5, locals := 27 } : Room).cells ({ frames := 2, cells := 2, slots := 5, locals := 27 } : Room).slots)
  have Nc542 := Fr.app Nc538 N542
  have sz542 : n0 ≤ T542.heap.size := Nat.le_trans sz538 K542.1
  have fc543 := (Va538.keep K542 (ninS (Ne.symm nxt) nin0))
  have xt544 := (own_ext_trans E537 Xe538)
  have xt545 := (own_ext_keep xt544 K542 (allS (Nat.le_of_eq g537.symm) all0))
  have HO : OStr Z T542.heap x [ch] := ⟨t, _, 0, (1 : Int32), _, Ex542, Fv542, Fc542, fc543, StrChars.Road.codOf (cs := [ch]) (n := 1) rfl (own_allS hc.2 own_all0), own_up _ (own_allS hc own_all0), Nat.le_of_ble_eq_true rfl⟩
  exact own_ret X542 hx hlk hret rfl (Or.inr (Or.inr (Or.inr (Or.inr ⟨rfl, rfl, rfl⟩)))) (hb hby own_d_jdk_42_method_139_code_25) ⟨x, rfl, Nc542, xt545, HO⟩ (by decide) (by decide)

set_option maxRecDepth 65536 in
set_option maxHeartbeats 40000000 in
theorem own_opinit (l : Launch) (Z : State) (a0 : Array Value) (hw : ∀ d ∈ tables_1, d.before a0 Z = true) (ws : List Jvm.Cond) (a1 k1 : Addr) (u1 : Value) (h0 : Heap) (n0 : Nat) (Z0 : n0 ≤ h0.size) (E1 : Exa Z h0 a1 "java/util/Optional") (F1 : Fld Z h0 a1 "java/util/Optional" "value" "Ljava/lang/Object;" u1) (g1 : n0 ≤ a1) :
    OMet l Z (⟨"java/util/Optional", "<init>", "(Ljava/lang/Object;)V"⟩ : MethodName) jdk_32_method_2_code 2 none ws ({ frames := 1, cells := 0, slots := 0, locals := 12 } : Room) #[(.ref a1), (.ref k1)] h0 (fun v h L => v = none ∧ Fr n0 L ∧ Keep h0 h [a1] ∧ Exa Z h a1 "java/util/Optional" ∧ Fld Z h a1 "java/util/Optional" "value" "Ljava/lang/Object;" (.ref k1)) := by
  refine OMet.body (plainFor_of_name own_pn4) ?_
  intro p e s m below meth c s₁ hx hby hml hown hnm hret hlk hZ X0 e0
  refine OGo.step (fun _ kk => castTop (show entryFrame m #[(.ref a1), (.ref k1)] 2 = (mkF m 0 #[.val (.ref a1), .val (.ref k1)] []) from by first | (simp [entryFrame, mkF, argsToLocals, Value.category]; done) | rfl) kk) ?_
  show OGo p e below (s₁.setTop (mkF m 0 #[.val (.ref a1), .val (.ref k1)] [])) (OEnd s (fun v h L => v = none ∧ Fr n0 L ∧ Keep h0 h [a1] ∧ Exa Z h a1 "java/util/Optional" ∧ Fld Z h a1 "java/util/Optional" "value" "Ljava/lang/Object;" (.ref k1)) ({ frames := 1, cells := 0, slots := 0, locals := 12 } : Room).cells ({ frames := 1, cells := 0, slots := 0, locals := 12 } : Room).slots)
  refine OGo.step (fun _ kk => XS.aloadN X0.here hx rfl (hb hby own_d_jdk_32_method_2_code_0) rfl rfl kk) ?_
  show OGo p e below (s₁.setTop (mkF m 1 #[.val (.ref a1), .val (.ref k1)] [(.ref a1)])) (OEnd s (fun v h L => v = none ∧ Fr n0 L ∧ Keep h0 h [a1] ∧ Exa Z h a1 "java/util/Optional" ∧ Fld Z h a1 "java/util/Optional" "value" "Ljava/lang/Object;" (.ref k1)) ({ frames := 1, cells := 0, slots := 0, locals := 12 } : Room).cells ({ frames := 1, cells := 0, slots := 0, locals := 12 } : Room).slots)
  obtain ⟨T553, X553, e553, st553⟩ := initO X0 hx hZ hown (hw _ (List.mem_of_getElem? (i := 135) rfl)) (hw _ (List.mem_of_getElem? (i := 51) rfl)) (hw _ (List.mem_of_getElem? (i := 52) rfl)) e0 (g := (mkF m 1 #[.val (.ref a1), .val (.ref k1)] [(.ref a1)])) rfl (by rw [hml]; rfl) rfl (hb hby own_d_jdk_32_method_2_code_1) (by decide) (W := 0) (by show 2 * 0 + _ ≤ _; exact Nat.le_of_eq rfl) (by decide)
  refine OGo.step st553 ?_
  show OGo p e below (T553.setTop (mkF m 4 #[.val (.ref a1), .val (.ref k1)] [])) (OEnd s (fun v h L => v = none ∧ Fr n0 L ∧ Keep h0 h [a1] ∧ Exa Z h a1 "java/util/Optional" ∧ Fld Z h a1 "java/util/Optional" "value" "Ljava/lang/Object;" (.ref k1)) ({ frames := 1, cells := 0, slots := 0, locals := 12 } : Room).cells ({ frames := 1, cells := 0, slots := 0, locals := 12 } : Room).slots)
  refine OGo.step (fun _ kk => XS.aloadN X553.here hx rfl (hb hby own_d_jdk_32_method_2_code_4) rfl rfl kk) ?_
  show OGo p e below (T553.setTop (mkF m 5 #[.val (.ref a1), .val (.ref k1)] [(.ref a1)])) (OEnd s (fun v h L => v = none ∧ Fr n0 L ∧ Keep h0 h [a1] ∧ Exa Z h a1 "java/util/Optional" ∧ Fld Z h a1 "java/util/Optional" "value" "Ljava/lang/Object;" (.ref k1)) ({ frames := 1, cells := 0, slots := 0, locals := 12 } : Room).cells ({ frames := 1, cells := 0, slots := 0, locals := 12 } : Room).slots)
  refine OGo.step (fun _ kk => XS.aloadN X553.here hx rfl (hb hby own_d_jdk_32_method_2_code_5) rfl rfl kk) ?_
  show OGo p e below (T553.setTop (mkF m 6 #[.val (.ref a1), .val (.ref k1)] [(.ref k1), (.ref a1)])) (OEnd s (fun v h L => v = none ∧ Fr n0 L ∧ Keep h0 h [a1] ∧ Exa Z h a1 "java/util/Optional" ∧ Fld Z h a1 "java/util/Optional" "value" "Ljava/lang/Object;" (.ref k1)) ({ frames := 1, cells := 0, slots := 0, locals := 12 } : Room).cells ({ frames := 1, cells := 0, slots := 0, locals := 12 } : Room).slots)
  obtain ⟨T554, h554, X554, e554, W554, st554⟩ := putF X553 hx hZ hown (host := "") (Or.inl (hw _ (List.mem_of_getElem? (i := 96) rfl))) Via.refl e553 F1 E1 (Or.inr ⟨(hw _ (List.mem_of_getElem? (i := 97) rfl)), rfl, hnm⟩) (hw _ (List.mem_of_getElem? (i := 126) rfl)) (ty := (.object "java/lang/Object")) (by decide) rfl rfl (g := (mkF m 6 #[.val (.ref a1), .val (.ref k1)] [(.ref k1), (.ref a1)])) rfl rfl (hb hby own_d_jdk_32_method_2_code_6)
  refine OGo.step st554 ?_
  show OGo p e below (T554.setTop (mkF m 9 #[.val (.ref a1), .val (.ref k1)] [])) (OEnd s (fun v h L => v = none ∧ Fr n0 L ∧ Keep h0 h [a1] ∧ Exa Z h a1 "java/util/Optional" ∧ Fld Z h a1 "java/util/Optional" "value" "Ljava/lang/Object;" (.ref k1)) ({ frames := 1, cells := 0, slots := 0, locals := 12 } : Room).cells ({ frames := 1, cells := 0, slots := 0, locals := 12 } : Room).slots)
  have Fw554 := F1.same W554
  have Nf554 := Fr.snoc X554 (Fr.nil n0) g1
  have sz554 : n0 ≤ h554.size := by rw [W554.size]; exact Z0
  have fc555 := (E1.wr W554)
  have HK := ((Keep.refl h0 [a1]).wr W554 (Or.inl (List.mem_of_getElem? (i := 0) rfl)))
  exact own_ret0 X554 hx hlk hret (hb hby own_d_jdk_32_method_2_code_9) (by rw [e554]; exact ⟨rfl, Nf554, HK, fc555, Fw554⟩) (by decide) (by decide)

set_option maxRecDepth 65536 in
set_option maxHeartbeats 40000000 in
theorem own_rnn (l : Launch) (Z : State) (a0 : Array Value) (hw : ∀ d ∈ tables_1, d.before a0 Z = true) (ws : List Jvm.Cond) (a1 : Addr) (h0 : Heap) (n0 : Nat) (Z0 : n0 ≤ h0.size)  :
    OMet l Z (⟨"java/util/Objects", "requireNonNull", "(Ljava/lang/Object;)Ljava/lang/Object;"⟩ : MethodName) jdk_31_method_10_code 1 (some (.object "java/lang/Object")) ws ({ frames := 0, cells := 0, slots := 0, locals := 0 } : Room) #[(.ref a1)] h0 (fun v h L => v = some (.ref a1) ∧ Fr n0 L ∧ h = h0) := by
  refine OMet.body (plainFor_of_name own_pn5) ?_
  intro p e s m below meth c s₁ hx hby hml hown hnm hret hlk hZ X0 e0
  refine OGo.step (fun _ kk => castTop (show entryFrame m #[(.ref a1)] 1 = (mkF m 0 #[.val (.ref a1)] []) from by first | (simp [entryFrame, mkF, argsToLocals, Value.category]; done) | rfl) kk) ?_
  show OGo p e below (s₁.setTop (mkF m 0 #[.val (.ref a1)] [])) (OEnd s (fun v h L => v = some (.ref a1) ∧ Fr n0 L ∧ h = h0) ({ frames := 0, cells := 0, slots := 0, locals := 0 } : Room).cells ({ frames := 0, cells := 0, slots := 0, locals := 0 } : Room).slots)
  refine OGo.step (fun _ kk => XS.aloadN X0.here hx rfl (hb hby own_d_jdk_31_method_10_code_0) rfl rfl kk) ?_
  show OGo p e below (s₁.setTop (mkF m 1 #[.val (.ref a1)] [(.ref a1)])) (OEnd s (fun v h L => v = some (.ref a1) ∧ Fr n0 L ∧ h = h0) ({ frames := 0, cells := 0, slots := 0, locals := 0 } : Room).cells ({ frames := 0, cells := 0, slots := 0, locals := 0 } : Room).slots)
  refine OGo.step (fun _ kk => XS.ifnonnullYes X0.here hx rfl (pc0 := 1) (pc' := 12) rfl (hb hby own_d_jdk_31_method_10_code_1) rfl (by decide) (by decide) kk) ?_
  show OGo p e below (s₁.setTop (mkF m 12 #[.val (.ref a1)] [])) (OEnd s (fun v h L => v = some (.ref a1) ∧ Fr n0 L ∧ h = h0) ({ frames := 0, cells := 0, slots := 0, locals := 0 } : Room).cells ({ frames := 0, cells := 0, slots := 0, locals := 0 } : Room).slots)
  refine OGo.step (fun _ kk => XS.aloadN X0.here hx rfl (hb hby own_d_jdk_31_method_10_code_12) rfl rfl kk) ?_
  show OGo p e below (s₁.setTop (mkF m 13 #[.val (.ref a1)] [(.ref a1)])) (OEnd s (fun v h L => v = some (.ref a1) ∧ Fr n0 L ∧ h = h0) ({ frames := 0, cells := 0, slots := 0, locals := 0 } : Room).cells ({ frames := 0, cells := 0, slots := 0, locals := 0 } : Room).slots)
  exact own_ret X0 hx hlk hret rfl (Or.inr (Or.inr (Or.inr (Or.inr ⟨rfl, rfl, rfl⟩)))) (hb hby own_d_jdk_31_method_10_code_13) ⟨rfl, Fr.nil n0, e0⟩ (by decide) (by decide)

set_option maxRecDepth 65536 in
set_option maxHeartbeats 40000000 in
theorem own_opof (l : Launch) (Z : State) (a0 : Array Value) (hw : ∀ d ∈ tables_1, d.before a0 Z = true) (ws : List Jvm.Cond) (k1 : Addr) (h0 : Heap) (n0 : Nat) (Z0 : n0 ≤ h0.size)  :
    OMet l Z (⟨"java/util/Optional", "of", "(Ljava/lang/Object;)Ljava/util/Optional;"⟩ : MethodName) jdk_32_method_3_code 1 (some (.object "java/util/Optional")) ws ({ frames := 2, cells := 1, slots := 1, locals := 26 } : Room) #[(.ref k1)] h0 (fun v h L => ∃ b : Addr, v = some (.ref b) ∧ Fr n0 L ∧ Ext h0 h ∧ Exa Z h b "java/util/Optional" ∧ Fld Z h b "java/util/Optional" "value" "Ljava/lang/Object;" (.ref k1)) := by
  refine OMet.body (plainFor_of_name own_pn4) ?_
  intro p e s m below meth c s₁ hx hby hml hown hnm hret hlk hZ X0 e0
  refine OGo.step (fun _ kk => castTop (show entryFrame m #[(.ref k1)] 1 = (mkF m 0 #[.val (.ref k1)] []) from by first | (simp [entryFrame, mkF, argsToLocals, Value.category]; done) | rfl) kk) ?_
  show OGo p e below (s₁.setTop (mkF m 0 #[.val (.ref k1)] [])) (OEnd s (fun v h L => ∃ b : Addr, v = some (.ref b) ∧ Fr n0 L ∧ Ext h0 h ∧ Exa Z h b "java/util/Optional" ∧ Fld Z h b "java/util/Optional" "value" "Ljava/lang/Object;" (.ref k1)) ({ frames := 2, cells := 1, slots := 1, locals := 26 } : Room).cells ({ frames := 2, cells := 1, slots := 1, locals := 26 } : Room).slots)
  obtain ⟨T556, h556, X556, e556, E556, A556, D556, U556, st556⟩ := newO X0 hx hZ hown (hw _ (List.mem_of_getElem? (i := 125) rfl)) (hw _ (List.mem_of_getElem? (i := 126) rfl)) (hw _ (List.mem_of_getElem? (i := 88) rfl)) e0 (g := (mkF m 0 #[.val (.ref k1)] [])) rfl (hb hby own_d_jdk_32_method_3_code_0) (by decide) (by decide)
  obtain ⟨b, g556⟩ : ∃ z, z = h0.size := ⟨_, rfl⟩
  rw [← g556] at A556 D556 U556 st556
  refine OGo.step st556 ?_
  show OGo p e below (T556.setTop (mkF m 3 #[.val (.ref k1)] [(.ref b)])) (OEnd s (fun v h L => ∃ b : Addr, v = some (.ref b) ∧ Fr n0 L ∧ Ext h0 h ∧ Exa Z h b "java/util/Optional" ∧ Fld Z h b "java/util/Optional" "value" "Ljava/lang/Object;" (.ref k1)) ({ frames := 2, cells := 1, slots := 1, locals := 26 } : Room).cells ({ frames := 2, cells := 1, slots := 1, locals := 26 } : Room).slots)
  have gf_b : n0 ≤ b := Nat.le_trans Z0 (Nat.le_of_eq g556.symm)
  have sz556 : n0 ≤ h556.size := Nat.le_trans Z0 E556.1
  have F556_value : Fld Z h556 b "java/util/Optional" "value" "Ljava/lang/Object;" .null := D556 (Or.inr (hw _ (List.mem_of_getElem? (i := 97) rfl))) (ty := (.object "java/lang/Object")) (by decide)
  refine OGo.step (fun _ kk => XS.dup X556.here hx rfl (hb hby own_d_jdk_32_method_3_code_3) rfl rfl kk) ?_
  show OGo p e below (T556.setTop (mkF m 4 #[.val (.ref k1)] [(.ref b), (.ref b)])) (OEnd s (fun v h L => ∃ b : Addr, v = some (.ref b) ∧ Fr n0 L ∧ Ext h0 h ∧ Exa Z h b "java/util/Optional" ∧ Fld Z h b "java/util/Optional" "value" "Ljava/lang/Object;" (.ref k1)) ({ frames := 2, cells := 1, slots := 1, locals := 26 } : Room).cells ({ frames := 2, cells := 1, slots := 1, locals := 26 } : Room).slots)
  refine OGo.step (fun _ kk => XS.aloadN X556.here hx rfl (hb hby own_d_jdk_32_method_3_code_4) rfl rfl kk) ?_
  show OGo p e below (T556.setTop (mkF m 5 #[.val (.ref k1)] [(.ref k1), (.ref b), (.ref b)])) (OEnd s (fun v h L => ∃ b : Addr, v = some (.ref b) ∧ Fr n0 L ∧ Ext h0 h ∧ Exa Z h b "java/util/Optional" ∧ Fld Z h b "java/util/Optional" "value" "Ljava/lang/Object;" (.ref k1)) ({ frames := 2, cells := 1, slots := 1, locals := 26 } : Room).cells ({ frames := 2, cells := 1, slots := 1, locals := 26 } : Room).slots)
  refine own_callS X556 hx hZ (y := (⟨"java/util/Objects", "requireNonNull", "(Ljava/lang/Object;)Ljava/lang/Object;"⟩ : MethodName)) hown (hw _ (List.mem_of_getElem? (i := 127) rfl)) (hw _ (List.mem_of_getElem? (i := 128) rfl)) (hw _ (List.mem_of_getElem? (i := 129) rfl)) (hw _ (List.mem_of_getElem? (i := 130) rfl)) (by decide) (W := 2) (own_rnn l Z a0 hw [] k1 h556 n0 sz556) e556  (pc := 5) (Ls := #[.val (.ref k1)]) (argsL := [(.ref k1)]) (rest := [(.ref b), (.ref b)]) (by rw [hml]; rfl) (lenOf own_pd9 rfl) rfl (hb hby own_d_jdk_32_method_3_code_5) (by decide) (by decide) (by decide) (by decide) ?_
  intro v557 T557 L557 X557 hQ557
  obtain ⟨rfl, N557, e557⟩ := hQ557
  show OGo p e below (T557.setTop (mkF m 8 #[.val (.ref k1)] [(.ref k1), (.ref b), (.ref b)])) (OEnd s (fun v h L => ∃ b : Addr, v = some (.ref b) ∧ Fr n0 L ∧ Ext h0 h ∧ Exa Z h b "java/util/Optional" ∧ Fld Z h b "java/util/Optional" "value" "Ljava/lang/Object;" (.ref k1)) ({ frames := 2, cells := 1, slots := 1, locals := 26 } : Room).cells ({ frames := 2, cells := 1, slots := 1, locals := 26 } : Room).slots)
  have Nc557 := Fr.app (Fr.nil n0) N557
  refine own_special X557 hx hZ (y := (⟨"java/util/Optional", "<init>", "(Ljava/lang/Object;)V"⟩ : MethodName)) rfl hown (hw _ (List.mem_of_getElem? (i := 131) rfl)) (hw _ (List.mem_of_getElem? (i := 132) rfl)) (hw _ (List.mem_of_getElem? (i := 134) rfl)) (hw _ (List.mem_of_getElem? (i := 88) rfl)) (by decide) (a := b) (W := 1) (own_opinit l Z a0 hw [] b k1 _ h556 n0 sz556 A556 F556_value gf_b) e557  (pc := 8) (Ls := #[.val (.ref k1)]) (argsL := [(.ref k1)]) (rest := [(.ref b)]) (by rw [hml]; rfl) (lenOf own_pd15 rfl) rfl (hb hby own_d_jdk_32_method_3_code_8) (by decide) (by decide) (by decide) (by decide) ?_
  intro v558 T558 L558 X558 hQ558
  obtain ⟨rfl, N558, K558, Eb558, Gv558⟩ := hQ558
  show OGo p e below (T558.setTop (mkF m 11 #[.val (.ref k1)] [(.ref b)])) (OEnd s (fun v h L => ∃ b : Addr, v = some (.ref b) ∧ Fr n0 L ∧ Ext h0 h ∧ Exa Z h b "java/util/Optional" ∧ Fld Z h b "java/util/Optional" "value" "Ljava/lang/Object;" (.ref k1)) ({ frames := 2, cells := 1, slots := 1, locals := 26 } : Room).cells ({ frames := 2, cells := 1, slots := 1, locals := 26 } : Room).slots)
  have Nc558 := Fr.app Nc557 N558
  have sz558 : n0 ≤ T558.heap.size := Nat.le_trans sz556 K558.1
  have xt559 := (own_ext_keep E556 K558 (allS (Nat.le_of_eq g556.symm) all0))
  exact own_ret X558 hx hlk hret rfl (Or.inr (Or.inr (Or.inr (Or.inr ⟨rfl, rfl, rfl⟩)))) (hb hby own_d_jdk_32_method_3_code_11) ⟨b, rfl, Nc558, xt559, Eb558, Gv558⟩ (by decide) (by decide)

set_option maxRecDepth 65536 in
set_option maxHeartbeats 40000000 in
theorem own_opempty (l : Launch) (Z : State) (a0 : Array Value) (hw : ∀ d ∈ tables_1, d.before a0 Z = true) (ws : List Jvm.Cond) (eo : Addr) (h0 : Heap) (n0 : Nat) (Z0 : n0 ≤ h0.size) (SE : Sta Z h0 "java/util/Optional" "EMPTY" "Ljava/util/Optional;" (.ref eo)) :
    OMet l Z (⟨"java/util/Optional", "empty", "()Ljava/util/Optional;"⟩ : MethodName) jdk_32_method_1_code 1 (some (.object "java/util/Optional")) ws ({ frames := 0, cells := 0, slots := 0, locals := 0 } : Room) #[] h0 (fun v h L => v = some (.ref eo) ∧ Fr n0 L ∧ h = h0) := by
  refine OMet.body (plainFor_of_name own_pn4) ?_
  intro p e s m below meth c s₁ hx hby hml hown hnm hret hlk hZ X0 e0
  refine OGo.step (fun _ kk => castTop (show entryFrame m #[] 1 = (mkF m 0 #[.unset] []) from by first | (simp [entryFrame, mkF, argsToLocals, Value.category]; done) | rfl) kk) ?_
  show OGo p e below (s₁.setTop (mkF m 0 #[.unset] [])) (OEnd s (fun v h L => v = some (.ref eo) ∧ Fr n0 L ∧ h = h0) ({ frames := 0, cells := 0, slots := 0, locals := 0 } : Room).cells ({ frames := 0, cells := 0, slots := 0, locals := 0 } : Room).slots)
  obtain ⟨T560, X560, e560, st560⟩ := getS2 X0 hx hZ hown (host := "") (Or.inl (hw _ (List.mem_of_getElem? (i := 90) rfl))) Via.refl e0 SE (g := (mkF m 0 #[.unset] [])) rfl (hb hby own_d_jdk_32_method_1_code_0)
  refine OGo.step st560 ?_
  show OGo p e below (T560.setTop (mkF m 3 #[.unset] [(.ref eo)])) (OEnd s (fun v h L => v = some (.ref eo) ∧ Fr n0 L ∧ h = h0) ({ frames := 0, cells := 0, slots := 0, locals := 0 } : Room).cells ({ frames := 0, cells := 0, slots := 0, locals := 0 } : Room).slots)
  refine OGo.step (fun _ kk => XS.astoreN X560.here hx rfl (hb hby own_d_jdk_32_method_1_code_3) rfl rfl (l' := #[.val (.ref eo)]) rfl kk) ?_
  show OGo p e below (T560.setTop (mkF m 4 #[.val (.ref eo)] [])) (OEnd s (fun v h L => v = some (.ref eo) ∧ Fr n0 L ∧ h = h0) ({ frames := 0, cells := 0, slots := 0, locals := 0 } : Room).cells ({ frames := 0, cells := 0, slots := 0, locals := 0 } : Room).slots)
  refine OGo.step (fun _ kk => XS.aloadN X560.here hx rfl (hb hby own_d_jdk_32_method_1_code_4) rfl rfl kk) ?_
  show OGo p e below (T560.setTop (mkF m 5 #[.val (.ref eo)] [(.ref eo)])) (OEnd s (fun v h L => v = some (.ref eo) ∧ Fr n0 L ∧ h = h0) ({ frames := 0, cells := 0, slots := 0, locals := 0 } : Room).cells ({ frames := 0, cells := 0, slots := 0, locals := 0 } : Room).slots)
  exact own_ret X560 hx hlk hret rfl (Or.inr (Or.inr (Or.inr (Or.inr ⟨rfl, rfl, rfl⟩)))) (hb hby own_d_jdk_32_method_1_code_5) ⟨rfl, Fr.nil n0, e560⟩ (by decide) (by decide)

set_option maxRecDepth 65536 in
set_option maxHeartbeats 40000000 in
theorem own_orElseN (l : Launch) (Z : State) (a0 : Array Value) (hw : ∀ d ∈ tables_1, d.before a0 Z = true) (ws : List Jvm.Cond) (a1 : Addr) (h0 : Heap) (n0 : Nat) (Z0 : n0 ≤ h0.size) (F1 : Fld Z h0 a1 "java/util/Optional" "value" "Ljava/lang/Object;" .null) :
    OMet l Z (⟨"java/util/Optional", "orElse", "(Ljava/lang/Object;)Ljava/lang/Object;"⟩ : MethodName) jdk_32_method_15_code 2 (some (.object "java/lang/Object")) ws ({ frames := 0, cells := 0, slots := 0, locals := 0 } : Room) #[(.ref a1), .null] h0 (fun v h L => v = some .null ∧ Fr n0 L ∧ h = h0) := by
  refine OMet.body (plainFor_of_name own_pn4) ?_
  intro p e s m below meth c s₁ hx hby hml hown hnm hret hlk hZ X0 e0
  refine OGo.step (fun _ kk => castTop (show entryFrame m #[(.ref a1), .null] 2 = (mkF m 0 #[.val (.ref a1), .val .null] []) from by first | (simp [entryFrame, mkF, argsToLocals, Value.category]; done) | rfl) kk) ?_
  show OGo p e below (s₁.setTop (mkF m 0 #[.val (.ref a1), .val .null] [])) (OEnd s (fun v h L => v = some .null ∧ Fr n0 L ∧ h = h0) ({ frames := 0, cells := 0, slots := 0, locals := 0 } : Room).cells ({ frames := 0, cells := 0, slots := 0, locals := 0 } : Room).slots)
  refine OGo.step (fun _ kk => XS.aloadN X0.here hx rfl (hb hby own_d_jdk_32_method_15_code_0) rfl rfl kk) ?_
  show OGo p e below (s₁.setTop (mkF m 1 #[.val (.ref a1), .val .null] [(.ref a1)])) (OEnd s (fun v h L => v = some .null ∧ Fr n0 L ∧ h = h0) ({ frames := 0, cells := 0, slots := 0, locals := 0 } : Room).cells ({ frames := 0, cells := 0, slots := 0, locals := 0 } : Room).slots)
  obtain ⟨T561, X561, e561, st561⟩ := getF X0 hx hZ hown (host := "") (Or.inl (hw _ (List.mem_of_getElem? (i := 96) rfl))) Via.refl e0 F1 (g := (mkF m 1 #[.val (.ref a1), .val .null] [(.ref a1)])) rfl rfl (hb hby own_d_jdk_32_method_15_code_1)
  refine OGo.step st561 ?_
  show OGo p e below (T561.setTop (mkF m 4 #[.val (.ref a1), .val .null] [.null])) (OEnd s (fun v h L => v = some .null ∧ Fr n0 L ∧ h = h0) ({ frames := 0, cells := 0, slots := 0, locals := 0 } : Room).cells ({ frames := 0, cells := 0, slots := 0, locals := 0 } : Room).slots)
  refine OGo.step (fun _ kk => XS.ifnullYes X561.here hx rfl (pc0 := 4) (pc' := 14) rfl (hb hby own_d_jdk_32_method_15_code_4) rfl (by decide) (by decide) kk) ?_
  show OGo p e below (T561.setTop (mkF m 14 #[.val (.ref a1), .val .null] [])) (OEnd s (fun v h L => v = some .null ∧ Fr n0 L ∧ h = h0) ({ frames := 0, cells := 0, slots := 0, locals := 0 } : Room).cells ({ frames := 0, cells := 0, slots := 0, locals := 0 } : Room).slots)
  refine OGo.step (fun _ kk => XS.aloadN X561.here hx rfl (hb hby own_d_jdk_32_method_15_code_14) rfl rfl kk) ?_
  show OGo p e below (T561.setTop (mkF m 15 #[.val (.ref a1), .val .null] [.null])) (OEnd s (fun v h L => v = some .null ∧ Fr n0 L ∧ h = h0) ({ frames := 0, cells := 0, slots := 0, locals := 0 } : Room).cells ({ frames := 0, cells := 0, slots := 0, locals := 0 } : Room).slots)
  exact own_ret X561 hx hlk hret rfl (Or.inr (Or.inr (Or.inr (Or.inr ⟨rfl, rfl, rfl⟩)))) (hb hby own_d_jdk_32_method_15_code_15) ⟨rfl, Fr.nil n0, e561⟩ (by decide) (by decide)

set_option maxRecDepth 65536 in
set_option maxHeartbeats 40000000 in
theorem own_orElseR (l : Launch) (Z : State) (a0 : Array Value) (hw : ∀ d ∈ tables_1, d.before a0 Z = true) (ws : List Jvm.Cond) (a1 ua : Addr) (h0 : Heap) (n0 : Nat) (Z0 : n0 ≤ h0.size) (F1 : Fld Z h0 a1 "java/util/Optional" "value" "Ljava/lang/Object;" (.ref ua)) :
    OMet l Z (⟨"java/util/Optional", "orElse", "(Ljava/lang/Object;)Ljava/lang/Object;"⟩ : MethodName) jdk_32_method_15_code 2 (some (.object "java/lang/Object")) ws ({ frames := 0, cells := 0, slots := 0, locals := 0 } : Room) #[(.ref a1), .null] h0 (fun v h L => v = some (.ref ua) ∧ Fr n0 L ∧ h = h0) := by
  refine OMet.body (plainFor_of_name own_pn4) ?_
  intro p e s m below meth c s₁ hx hby hml hown hnm hret hlk hZ X0 e0
  refine OGo.step (fun _ kk => castTop (show entryFrame m #[(.ref a1), .null] 2 = (mkF m 0 #[.val (.ref a1), .val .null] []) from by first | (simp [entryFrame, mkF, argsToLocals, Value.category]; done) | rfl) kk) ?_
  show OGo p e below (s₁.setTop (mkF m 0 #[.val (.ref a1), .val .null] [])) (OEnd s (fun v h L => v = some (.ref ua) ∧ Fr n0 L ∧ h = h0) ({ frames := 0, cells := 0, slots := 0, locals := 0 } : Room).cells ({ frames := 0, cells := 0, slots := 0, locals := 0 } : Room).slots)
  refine OGo.step (fun _ kk => XS.aloadN X0.here hx rfl (hb hby own_d_jdk_32_method_15_code_0) rfl rfl kk) ?_
  show OGo p e below (s₁.setTop (mkF m 1 #[.val (.ref a1), .val .null] [(.ref a1)])) (OEnd s (fun v h L => v = some (.ref ua) ∧ Fr n0 L ∧ h = h0) ({ frames := 0, cells := 0, slots := 0, locals := 0 } : Room).cells ({ frames := 0, cells := 0, slots := 0, locals := 0 } : Room).slots)
  obtain ⟨T562, X562, e562, st562⟩ := getF X0 hx hZ hown (host := "") (Or.inl (hw _ (List.mem_of_getElem? (i := 96) rfl))) Via.refl e0 F1 (g := (mkF m 1 #[.val (.ref a1), .val .null] [(.ref a1)])) rfl rfl (hb hby own_d_jdk_32_method_15_code_1)
  refine OGo.step st562 ?_
  show OGo p e below (T562.setTop (mkF m 4 #[.val (.ref a1), .val .null] [(.ref ua)])) (OEnd s (fun v h L => v = some (.ref ua) ∧ Fr n0 L ∧ h = h0) ({ frames := 0, cells := 0, slots := 0, locals := 0 } : Room).cells ({ frames := 0, cells := 0, slots := 0, locals := 0 } : Room).slots)
  refine OGo.step (fun _ kk => XS.ifnullNo X562.here hx rfl (hb hby own_d_jdk_32_method_15_code_4) rfl kk) ?_
  show OGo p e below (T562.setTop (mkF m 7 #[.val (.ref a1), .val .null] [])) (OEnd s (fun v h L => v = some (.ref ua) ∧ Fr n0 L ∧ h = h0) ({ frames := 0, cells := 0, slots := 0, locals := 0 } : Room).cells ({ frames := 0, cells := 0, slots := 0, locals := 0 } : Room).slots)
  refine OGo.step (fun _ kk => XS.aloadN X562.here hx rfl (hb hby own_d_jdk_32_method_15_code_7) rfl rfl kk) ?_
  show OGo p e below (T562.setTop (mkF m 8 #[.val (.ref a1), .val .null] [(.ref a1)])) (OEnd s (fun v h L => v = some (.ref ua) ∧ Fr n0 L ∧ h = h0) ({ frames := 0, cells := 0, slots := 0, locals := 0 } : Room).cells ({ frames := 0, cells := 0, slots := 0, locals := 0 } : Room).slots)
  obtain ⟨T563, X563, e563, st563⟩ := getF X562 hx hZ hown (host := "") (Or.inl (hw _ (List.mem_of_getElem? (i := 96) rfl))) Via.refl e562 F1 (g := (mkF m 8 #[.val (.ref a1), .val .null] [(.ref a1)])) rfl rfl (hb hby own_d_jdk_32_method_15_code_8)
  refine OGo.step st563 ?_
  show OGo p e below (T563.setTop (mkF m 11 #[.val (.ref a1), .val .null] [(.ref ua)])) (OEnd s (fun v h L => v = some (.ref ua) ∧ Fr n0 L ∧ h = h0) ({ frames := 0, cells := 0, slots := 0, locals := 0 } : Room).cells ({ frames := 0, cells := 0, slots := 0, locals := 0 } : Room).slots)
  refine OGo.step (fun _ kk => XS.goto X563.here hx rfl (pc0 := 11) (pc' := 15) rfl (hb hby own_d_jdk_32_method_15_code_11) (by decide) (by decide) kk) ?_
  show OGo p e below (T563.setTop (mkF m 15 #[.val (.ref a1), .val .null] [(.ref ua)])) (OEnd s (fun v h L => v = some (.ref ua) ∧ Fr n0 L ∧ h = h0) ({ frames := 0, cells := 0, slots := 0, locals := 0 } : Room).cells ({ frames := 0, cells := 0, slots := 0, locals := 0 } : Room).slots)
  exact own_ret X563 hx hlk hret rfl (Or.inr (Or.inr (Or.inr (Or.inr ⟨rfl, rfl, rfl⟩)))) (hb hby own_d_jdk_32_method_15_code_15) ⟨rfl, Fr.nil n0, e563⟩ (by decide) (by decide)

set_option maxRecDepth 65536 in
set_option maxHeartbeats 40000000 in
theorem own_ch (l : Launch) (Z : State) (a0 : Array Value) (hw : ∀ d ∈ tables_1, d.before a0 Z = true) (ws : List Jvm.Cond) (k mm zc : Int32) (n : Nat) (j : Int64) (fm : Value) (h0 : Heap) (n0 : Nat) (Z0 : n0 ≤ h0.size) (SC : Sta Z h0 "java/lang/String" "COMPACT_STRINGS" "Z" (.int zc)) (hzc : ¬ zc = 0) (SF : Sta Z h0 "jdk/internal/util/Preconditions" "SIOOBE_FORMATTER" "Ljava/util/function/BiFunction;" fm) (hfm : fm.isRef = true) (hn : n < 7) :
    OMetW l Z consts_1 (⟨"com/example/tenantd/tenantd/PermissionOfTextPinLaw", "ch", "(IIIJ)C"⟩ : MethodName) method_2_code 6 (some .char) ws ({ frames := 4, cells := 2, slots := 24, locals := 53 } : Room) #[(.int k), (.int (Int32.ofNat n)), (.int mm), (.long j)] h0 (fun v h L => ∃ ch, v = some (.int ch) ∧ Fr n0 L ∧ Ext h0 h ∧ ¬ ch < 0 ∧ ¬ (255 : Int32) < ch) := by
  refine OMetW.body (plainFor_of_name own_pn0) ?_
  intro p e s m below meth c s₁ hx hby hml hown hnm hret hlk hZ X0 e0 OW0
  have hEL := own_hEL hw
  have wS := own_wS hw
  refine OGo.step (fun _ kk => castTop (show entryFrame m #[(.int k), (.int (Int32.ofNat n)), (.int mm), (.long j)] 6 = (mkF m 0 #[.val (.int k), .val (.int (Int32.ofNat n)), .val (.int mm), .val (.long j), .second, .unset] []) from by first | (simp [entryFrame, mkF, argsToLocals, Value.category]; done) | rfl) kk) ?_
  show OGo p e below (s₁.setTop (mkF m 0 #[.val (.int k), .val (.int (Int32.ofNat n)), .val (.int mm), .val (.long j), .second, .unset] [])) (OEndW s Z consts_1 (fun v h L => ∃ ch, v = some (.int ch) ∧ Fr n0 L ∧ Ext h0 h ∧ ¬ ch < 0 ∧ ¬ (255 : Int32) < ch) ({ frames := 4, cells := 2, slots := 24, locals := 53 } : Room).cells ({ frames := 4, cells := 2, slots := 24, locals := 53 } : Room).slots)
  refine OGo.step (fun _ kk => XS.lloadN X0.here hx rfl (hb hby own_d_method_2_code_0) rfl kk) ?_
  show OGo p e below (s₁.setTop (mkF m 1 #[.val (.int k), .val (.int (Int32.ofNat n)), .val (.int mm), .val (.long j), .second, .unset] [(.long j)])) (OEndW s Z consts_1 (fun v h L => ∃ ch, v = some (.int ch) ∧ Fr n0 L ∧ Ext h0 h ∧ ¬ ch < 0 ∧ ¬ (255 : Int32) < ch) ({ frames := 4, cells := 2, slots := 24, locals := 53 } : Room).cells ({ frames := 4, cells := 2, slots := 24, locals := 53 } : Room).slots)
  refine OGo.step (fun _ kk => XS.bipush X0.here hx rfl (hb hby own_d_method_2_code_1) kk) ?_
  show OGo p e below (s₁.setTop (mkF m 3 #[.val (.int k), .val (.int (Int32.ofNat n)), .val (.int mm), .val (.long j), .second, .unset] [(.int (8 : Int32)), (.long j)])) (OEndW s Z consts_1 (fun v h L => ∃ ch, v = some (.int ch) ∧ Fr n0 L ∧ Ext h0 h ∧ ¬ ch < 0 ∧ ¬ (255 : Int32) < ch) ({ frames := 4, cells := 2, slots := 24, locals := 53 } : Room).cells ({ frames := 4, cells := 2, slots := 24, locals := 53 } : Room).slots)
  refine OGo.step (fun _ kk => XS.iloadN X0.here hx rfl (hb hby own_d_method_2_code_3) rfl kk) ?_
  show OGo p e below (s₁.setTop (mkF m 4 #[.val (.int k), .val (.int (Int32.ofNat n)), .val (.int mm), .val (.long j), .second, .unset] [(.int (Int32.ofNat n)), (.int (8 : Int32)), (.long j)])) (OEndW s Z consts_1 (fun v h L => ∃ ch, v = some (.int ch) ∧ Fr n0 L ∧ Ext h0 h ∧ ¬ ch < 0 ∧ ¬ (255 : Int32) < ch) ({ frames := 4, cells := 2, slots := 24, locals := 53 } : Room).cells ({ frames := 4, cells := 2, slots := 24, locals := 53 } : Room).slots)
  refine OGo.step (fun _ kk => XS.imul X0.here hx rfl (hb hby own_d_method_2_code_4) rfl kk) ?_
  show OGo p e below (s₁.setTop (mkF m 5 #[.val (.int k), .val (.int (Int32.ofNat n)), .val (.int mm), .val (.long j), .second, .unset] [(.int ((8 : Int32) * (Int32.ofNat n))), (.long j)])) (OEndW s Z consts_1 (fun v h L => ∃ ch, v = some (.int ch) ∧ Fr n0 L ∧ Ext h0 h ∧ ¬ ch < 0 ∧ ¬ (255 : Int32) < ch) ({ frames := 4, cells := 2, slots := 24, locals := 53 } : Room).cells ({ frames := 4, cells := 2, slots := 24, locals := 53 } : Room).slots)
  refine OGo.step (fun _ kk => XS.lushr X0.here hx rfl (hb hby own_d_method_2_code_5) rfl kk) ?_
  show OGo p e below (s₁.setTop (mkF m 6 #[.val (.int k), .val (.int (Int32.ofNat n)), .val (.int mm), .val (.long j), .second, .unset] [(.long ((j.toUInt64 >>> (((8 : Int32) * (Int32.ofNat n)) &&& 0x3f).toInt64.toUInt64).toInt64))])) (OEndW s Z consts_1 (fun v h L => ∃ ch, v = some (.int ch) ∧ Fr n0 L ∧ Ext h0 h ∧ ¬ ch < 0 ∧ ¬ (255 : Int32) < ch) ({ frames := 4, cells := 2, slots := 24, locals := 53 } : Room).cells ({ frames := 4, cells := 2, slots := 24, locals := 53 } : Room).slots)
  refine OGo.step (fun _ kk => X0.ldc2Long hx hown (mvT hZ (hw _ (List.mem_of_getElem? (i := 4) rfl))) (g := (mkF m 6 #[.val (.int k), .val (.int (Int32.ofNat n)), .val (.int mm), .val (.long j), .second, .unset] [(.long ((j.toUInt64 >>> (((8 : Int32) * (Int32.ofNat n)) &&& 0x3f).toInt64.toUInt64).toInt64))])) rfl (hb hby own_d_method_2_code_6) _ kk) ?_
  show OGo p e below (s₁.setTop (mkF m 9 #[.val (.int k), .val (.int (Int32.ofNat n)), .val (.int mm), .val (.long j), .second, .unset] [(.long (255 : Int64)), (.long ((j.toUInt64 >>> (((8 : Int32) * (Int32.ofNat n)) &&& 0x3f).toInt64.toUInt64).toInt64))])) (OEndW s Z consts_1 (fun v h L => ∃ ch, v = some (.int ch) ∧ Fr n0 L ∧ Ext h0 h ∧ ¬ ch < 0 ∧ ¬ (255 : Int32) < ch) ({ frames := 4, cells := 2, slots := 24, locals := 53 } : Room).cells ({ frames := 4, cells := 2, slots := 24, locals := 53 } : Room).slots)
  refine OGo.step (fun _ kk => XS.land X0.here hx rfl (hb hby own_d_method_2_code_9) rfl kk) ?_
  show OGo p e below (s₁.setTop (mkF m 10 #[.val (.int k), .val (.int (Int32.ofNat n)), .val (.int mm), .val (.long j), .second, .unset] [(.long (((j.toUInt64 >>> (((8 : Int32) * (Int32.ofNat n)) &&& 0x3f).toInt64.toUInt64).toInt64) &&& (255 : Int64)))])) (OEndW s Z consts_1 (fun v h L => ∃ ch, v = some (.int ch) ∧ Fr n0 L ∧ Ext h0 h ∧ ¬ ch < 0 ∧ ¬ (255 : Int32) < ch) ({ frames := 4, cells := 2, slots := 24, locals := 53 } : Room).cells ({ frames := 4, cells := 2, slots := 24, locals := 53 } : Room).slots)
  refine OGo.step (fun _ kk => XS.l2i X0.here hx rfl (hb hby own_d_method_2_code_10) rfl kk) ?_
  show OGo p e below (s₁.setTop (mkF m 11 #[.val (.int k), .val (.int (Int32.ofNat n)), .val (.int mm), .val (.long j), .second, .unset] [(.int ((((j.toUInt64 >>> (((8 : Int32) * (Int32.ofNat n)) &&& 0x3f).toInt64.toUInt64).toInt64) &&& (255 : Int64)).toInt32))])) (OEndW s Z consts_1 (fun v h L => ∃ ch, v = some (.int ch) ∧ Fr n0 L ∧ Ext h0 h ∧ ¬ ch < 0 ∧ ¬ (255 : Int32) < ch) ({ frames := 4, cells := 2, slots := 24, locals := 53 } : Room).cells ({ frames := 4, cells := 2, slots := 24, locals := 53 } : Room).slots)
  refine OGo.step (fun _ kk => XS.i2c X0.here hx rfl (hb hby own_d_method_2_code_11) rfl kk) ?_
  show OGo p e below (s₁.setTop (mkF m 12 #[.val (.int k), .val (.int (Int32.ofNat n)), .val (.int mm), .val (.long j), .second, .unset] [(.int (((((j.toUInt64 >>> (((8 : Int32) * (Int32.ofNat n)) &&& 0x3f).toInt64.toUInt64).toInt64) &&& (255 : Int64)).toInt32).toUInt32.toUInt16.toUInt32.toInt32))])) (OEndW s Z consts_1 (fun v h L => ∃ ch, v = some (.int ch) ∧ Fr n0 L ∧ Ext h0 h ∧ ¬ ch < 0 ∧ ¬ (255 : Int32) < ch) ({ frames := 4, cells := 2, slots := 24, locals := 53 } : Room).cells ({ frames := 4, cells := 2, slots := 24, locals := 53 } : Room).slots)
  refine OGo.step (fun _ kk => XS.istore X0.here hx rfl (hb hby own_d_method_2_code_12) rfl (l' := #[.val (.int k), .val (.int (Int32.ofNat n)), .val (.int mm), .val (.long j), .second, .val (.int (((((j.toUInt64 >>> (((8 : Int32) * (Int32.ofNat n)) &&& 0x3f).toInt64.toUInt64).toInt64) &&& (255 : Int64)).toInt32).toUInt32.toUInt16.toUInt32.toInt32))]) rfl kk) ?_
  show OGo p e below (s₁.setTop (mkF m 14 #[.val (.int k), .val (.int (Int32.ofNat n)), .val (.int mm), .val (.long j), .second, .val (.int (((((j.toUInt64 >>> (((8 : Int32) * (Int32.ofNat n)) &&& 0x3f).toInt64.toUInt64).toInt64) &&& (255 : Int64)).toInt32).toUInt32.toUInt16.toUInt32.toInt32))] [])) (OEndW s Z consts_1 (fun v h L => ∃ ch, v = some (.int ch) ∧ Fr n0 L ∧ Ext h0 h ∧ ¬ ch < 0 ∧ ¬ (255 : Int32) < ch) ({ frames := 4, cells := 2, slots := 24, locals := 53 } : Room).cells ({ frames := 4, cells := 2, slots := 24, locals := 53 } : Room).slots)
  refine OGo.step (fun _ kk => XS.iloadN X0.here hx rfl (hb hby own_d_method_2_code_14) rfl kk) ?_
  show OGo p e below (s₁.setTop (mkF m 15 #[.val (.int k), .val (.int (Int32.ofNat n)), .val (.int mm), .val (.long j), .second, .val (.int (((((j.toUInt64 >>> (((8 : Int32) * (Int32.ofNat n)) &&& 0x3f).toInt64.toUInt64).toInt64) &&& (255 : Int64)).toInt32).toUInt32.toUInt16.toUInt32.toInt32))] [(.int mm)])) (OEndW s Z consts_1 (fun v h L => ∃ ch, v = some (.int ch) ∧ Fr n0 L ∧ Ext h0 h ∧ ¬ ch < 0 ∧ ¬ (255 : Int32) < ch) ({ frames := 4, cells := 2, slots := 24, locals := 53 } : Room).cells ({ frames := 4, cells := 2, slots := 24, locals := 53 } : Room).slots)
  refine OGo.step (fun _ kk => XS.iloadN X0.here hx rfl (hb hby own_d_method_2_code_15) rfl kk) ?_
  show OGo p e below (s₁.setTop (mkF m 16 #[.val (.int k), .val (.int (Int32.ofNat n)), .val (.int mm), .val (.long j), .second, .val (.int (((((j.toUInt64 >>> (((8 : Int32) * (Int32.ofNat n)) &&& 0x3f).toInt64.toUInt64).toInt64) &&& (255 : Int64)).toInt32).toUInt32.toUInt16.toUInt32.toInt32))] [(.int (Int32.ofNat n)), (.int mm)])) (OEndW s Z consts_1 (fun v h L => ∃ ch, v = some (.int ch) ∧ Fr n0 L ∧ Ext h0 h ∧ ¬ ch < 0 ∧ ¬ (255 : Int32) < ch) ({ frames := 4, cells := 2, slots := 24, locals := 53 } : Room).cells ({ frames := 4, cells := 2, slots := 24, locals := 53 } : Room).slots)
  refine OGo.step (fun _ kk => XS.iushr X0.here hx rfl (hb hby own_d_method_2_code_16) rfl kk) ?_
  show OGo p e below (s₁.setTop (mkF m 17 #[.val (.int k), .val (.int (Int32.ofNat n)), .val (.int mm), .val (.long j), .second, .val (.int (((((j.toUInt64 >>> (((8 : Int32) * (Int32.ofNat n)) &&& 0x3f).toInt64.toUInt64).toInt64) &&& (255 : Int64)).toInt32).toUInt32.toUInt16.toUInt32.toInt32))] [(.int ((mm.toUInt32 >>> ((Int32.ofNat n) &&& 31).toUInt32).toInt32))])) (OEndW s Z consts_1 (fun v h L => ∃ ch, v = some (.int ch) ∧ Fr n0 L ∧ Ext h0 h ∧ ¬ ch < 0 ∧ ¬ (255 : Int32) < ch) ({ frames := 4, cells := 2, slots := 24, locals := 53 } : Room).cells ({ frames := 4, cells := 2, slots := 24, locals := 53 } : Room).slots)
  refine OGo.step (fun _ kk => XS.iconst X0.here hx rfl (hb hby own_d_method_2_code_17) kk) ?_
  show OGo p e below (s₁.setTop (mkF m 18 #[.val (.int k), .val (.int (Int32.ofNat n)), .val (.int mm), .val (.long j), .second, .val (.int (((((j.toUInt64 >>> (((8 : Int32) * (Int32.ofNat n)) &&& 0x3f).toInt64.toUInt64).toInt64) &&& (255 : Int64)).toInt32).toUInt32.toUInt16.toUInt32.toInt32))] [(.int (1 : Int32)), (.int ((mm.toUInt32 >>> ((Int32.ofNat n) &&& 31).toUInt32).toInt32))])) (OEndW s Z consts_1 (fun v h L => ∃ ch, v = some (.int ch) ∧ Fr n0 L ∧ Ext h0 h ∧ ¬ ch < 0 ∧ ¬ (255 : Int32) < ch) ({ frames := 4, cells := 2, slots := 24, locals := 53 } : Room).cells ({ frames := 4, cells := 2, slots := 24, locals := 53 } : Room).slots)
  refine OGo.step (fun _ kk => XS.iand X0.here hx rfl (hb hby own_d_method_2_code_18) rfl kk) ?_
  show OGo p e below (s₁.setTop (mkF m 19 #[.val (.int k), .val (.int (Int32.ofNat n)), .val (.int mm), .val (.long j), .second, .val (.int (((((j.toUInt64 >>> (((8 : Int32) * (Int32.ofNat n)) &&& 0x3f).toInt64.toUInt64).toInt64) &&& (255 : Int64)).toInt32).toUInt32.toUInt16.toUInt32.toInt32))] [(.int (((mm.toUInt32 >>> ((Int32.ofNat n) &&& 31).toUInt32).toInt32) &&& (1 : Int32)))])) (OEndW s Z consts_1 (fun v h L => ∃ ch, v = some (.int ch) ∧ Fr n0 L ∧ Ext h0 h ∧ ¬ ch < 0 ∧ ¬ (255 : Int32) < ch) ({ frames := 4, cells := 2, slots := 24, locals := 53 } : Room).cells ({ frames := 4, cells := 2, slots := 24, locals := 53 } : Room).slots)
  by_cases hbit : (((mm.toUInt32 >>> ((Int32.ofNat n) &&& 31).toUInt32).toInt32) &&& (1 : Int32)) = (0 : Int32)
  · refine OGo.step (fun _ kk => XS.ifYes X0.here hx rfl (pc0 := 19) (pc' := 25) rfl (hb hby own_d_method_2_code_19) rfl ((if0 _ _).trans (teq hbit).1) (by decide) (by decide) kk) ?_
    show OGo p e below (s₁.setTop (mkF m 25 #[.val (.int k), .val (.int (Int32.ofNat n)), .val (.int mm), .val (.long j), .second, .val (.int (((((j.toUInt64 >>> (((8 : Int32) * (Int32.ofNat n)) &&& 0x3f).toInt64.toUInt64).toInt64) &&& (255 : Int64)).toInt32).toUInt32.toUInt16.toUInt32.toInt32))] [])) (OEndW s Z consts_1 (fun v h L => ∃ ch, v = some (.int ch) ∧ Fr n0 L ∧ Ext h0 h ∧ ¬ ch < 0 ∧ ¬ (255 : Int32) < ch) ({ frames := 4, cells := 2, slots := 24, locals := 53 } : Room).cells ({ frames := 4, cells := 2, slots := 24, locals := 53 } : Room).slots)
    refine OGo.step (fun _ kk => XS.iloadN X0.here hx rfl (hb hby own_d_method_2_code_25) rfl kk) ?_
    show OGo p e below (s₁.setTop (mkF m 26 #[.val (.int k), .val (.int (Int32.ofNat n)), .val (.int mm), .val (.long j), .second, .val (.int (((((j.toUInt64 >>> (((8 : Int32) * (Int32.ofNat n)) &&& 0x3f).toInt64.toUInt64).toInt64) &&& (255 : Int64)).toInt32).toUInt32.toUInt16.toUInt32.toInt32))] [(.int k)])) (OEndW s Z consts_1 (fun v h L => ∃ ch, v = some (.int ch) ∧ Fr n0 L ∧ Ext h0 h ∧ ¬ ch < 0 ∧ ¬ (255 : Int32) < ch) ({ frames := 4, cells := 2, slots := 24, locals := 53 } : Room).cells ({ frames := 4, cells := 2, slots := 24, locals := 53 } : Room).slots)
    by_cases hk0 : k = (0 : Int32)
    · refine OGo.step (fun _ kk => XS.ifNo X0.here hx rfl (hb hby own_d_method_2_code_26) rfl ((if0 _ _).trans (teq hk0).2) kk) ?_
      show OGo p e below (s₁.setTop (mkF m 29 #[.val (.int k), .val (.int (Int32.ofNat n)), .val (.int mm), .val (.long j), .second, .val (.int (((((j.toUInt64 >>> (((8 : Int32) * (Int32.ofNat n)) &&& 0x3f).toInt64.toUInt64).toInt64) &&& (255 : Int64)).toInt32).toUInt32.toUInt16.toUInt32.toInt32))] [])) (OEndW s Z consts_1 (fun v h L => ∃ ch, v = some (.int ch) ∧ Fr n0 L ∧ Ext h0 h ∧ ¬ ch < 0 ∧ ¬ (255 : Int32) < ch) ({ frames := 4, cells := 2, slots := 24, locals := 53 } : Room).cells ({ frames := 4, cells := 2, slots := 24, locals := 53 } : Room).slots)
      refine OGo.step (fun _ kk => XS.iloadN X0.here hx rfl (hb hby own_d_method_2_code_29) rfl kk) ?_
      show OGo p e below (s₁.setTop (mkF m 30 #[.val (.int k), .val (.int (Int32.ofNat n)), .val (.int mm), .val (.long j), .second, .val (.int (((((j.toUInt64 >>> (((8 : Int32) * (Int32.ofNat n)) &&& 0x3f).toInt64.toUInt64).toInt64) &&& (255 : Int64)).toInt32).toUInt32.toUInt16.toUInt32.toInt32))] [(.int (Int32.ofNat n))])) (OEndW s Z consts_1 (fun v h L => ∃ ch, v = some (.int ch) ∧ Fr n0 L ∧ Ext h0 h ∧ ¬ ch < 0 ∧ ¬ (255 : Int32) < ch) ({ frames := 4, cells := 2, slots := 24, locals := 53 } : Room).cells ({ frames := 4, cells := 2, slots := 24, locals := 53 } : Room).slots)
      refine OGo.step (fun _ kk => XS.iconst X0.here hx rfl (hb hby own_d_method_2_code_30) kk) ?_
      show OGo p e below (s₁.setTop (mkF m 31 #[.val (.int k), .val (.int (Int32.ofNat n)), .val (.int mm), .val (.long j), .second, .val (.int (((((j.toUInt64 >>> (((8 : Int32) * (Int32.ofNat n)) &&& 0x3f).toInt64.toUInt64).toInt64) &&& (255 : Int64)).toInt32).toUInt32.toUInt16.toUInt32.toInt32))] [(.int (5 : Int32)), (.int (Int32.ofNat n))])) (OEndW s Z consts_1 (fun v h L => ∃ ch, v = some (.int ch) ∧ Fr n0 L ∧ Ext h0 h ∧ ¬ ch < 0 ∧ ¬ (255 : Int32) < ch) ({ frames := 4, cells := 2, slots := 24, locals := 53 } : Room).cells ({ frames := 4, cells := 2, slots := 24, locals := 53 } : Room).slots)
      by_cases h5 : (Int32.ofNat n) < (5 : Int32)
      · refine OGo.step (fun _ kk => XS.icmpNo X0.here hx rfl (hb hby own_d_method_2_code_31) rfl (tlt h5).2.1 kk) ?_
        show OGo p e below (s₁.setTop (mkF m 34 #[.val (.int k), .val (.int (Int32.ofNat n)), .val (.int mm), .val (.long j), .second, .val (.int (((((j.toUInt64 >>> (((8 : Int32) * (Int32.ofNat n)) &&& 0x3f).toInt64.toUInt64).toInt64) &&& (255 : Int64)).toInt32).toUInt32.toUInt16.toUInt32.toInt32))] [])) (OEndW s Z consts_1 (fun v h L => ∃ ch, v = some (.int ch) ∧ Fr n0 L ∧ Ext h0 h ∧ ¬ ch < 0 ∧ ¬ (255 : Int32) < ch) ({ frames := 4, cells := 2, slots := 24, locals := 53 } : Room).cells ({ frames := 4, cells := 2, slots := 24, locals := 53 } : Room).slots)
        refine own_ldcW X0 hx hown (hw _ (List.mem_of_getElem? (i := 5) rfl)) wS hEL OW0 e0 (by decide) (vs := [.int (97 : Int32), .int (108 : Int32), .int (108 : Int32), .int (111 : Int32), .int (119 : Int32)]) (z := (5 : Int32)) ⟨by decide, by decide⟩ (by decide) (by decide) (pc := 34) (Ls := #[.val (.int k), .val (.int (Int32.ofNat n)), .val (.int mm), .val (.long j), .second, .val (.int (((((j.toUInt64 >>> (((8 : Int32) * (Int32.ofNat n)) &&& 0x3f).toInt64.toUInt64).toInt64) &&& (255 : Int64)).toInt32).toUInt32.toUInt16.toUInt32.toInt32))]) (st := []) (hb hby own_d_method_2_code_34) (n := 20) (by decide) (by decide) (by decide) (by decide) ?_
        intro za zab kb1 T1 X1 E1 OW1 hZ hown CH1 Es1 Fc1 Fv1 Av1 Ns1
        have sz1 : n0 ≤ T1.heap.size := Nat.le_trans Z0 E1.1
        show OGo p e below (T1.setTop (mkF m 36 #[.val (.int k), .val (.int (Int32.ofNat n)), .val (.int mm), .val (.long j), .second, .val (.int (((((j.toUInt64 >>> (((8 : Int32) * (Int32.ofNat n)) &&& 0x3f).toInt64.toUInt64).toInt64) &&& (255 : Int64)).toInt32).toUInt32.toUInt16.toUInt32.toInt32))] [(.ref za)])) (OEndW s Z consts_1 (fun v h L => ∃ ch, v = some (.int ch) ∧ Fr n0 L ∧ Ext h0 h ∧ ¬ ch < 0 ∧ ¬ (255 : Int32) < ch) ({ frames := 4, cells := 2, slots := 24, locals := 53 } : Room).cells ({ frames := 4, cells := 2, slots := 24, locals := 53 } : Room).slots)
        have cd1 : StrChars.Road.CodA ([97, 108, 108, 111, 119] : List Int32) 0 (5 : Int32) [.int (97 : Int32), .int (108 : Int32), .int (108 : Int32), .int (111 : Int32), .int (119 : Int32)] := StrChars.Road.codOf (cs := [97, 108, 108, 111, 119]) (n := 5) rfl (by decide)
        have O1 : OStr Z T1.heap za ([97, 108, 108, 111, 119] : List Int32) := ⟨zab, kb1, 0, (5 : Int32), _, Es1, Fv1, Fc1, Av1, cd1, by decide, by decide⟩
        refine OGo.step (fun _ kk => XS.iloadN X1.here hx rfl (hb hby own_d_method_2_code_36) rfl kk) ?_
        show OGo p e below (T1.setTop (mkF m 37 #[.val (.int k), .val (.int (Int32.ofNat n)), .val (.int mm), .val (.long j), .second, .val (.int (((((j.toUInt64 >>> (((8 : Int32) * (Int32.ofNat n)) &&& 0x3f).toInt64.toUInt64).toInt64) &&& (255 : Int64)).toInt32).toUInt32.toUInt16.toUInt32.toInt32))] [(.int (Int32.ofNat n)), (.ref za)])) (OEndW s Z consts_1 (fun v h L => ∃ ch, v = some (.int ch) ∧ Fr n0 L ∧ Ext h0 h ∧ ¬ ch < 0 ∧ ¬ (255 : Int32) < ch) ({ frames := 4, cells := 2, slots := 24, locals := 53 } : Room).cells ({ frames := 4, cells := 2, slots := 24, locals := 53 } : Room).slots)
        obtain ⟨ta, kb, cd, N2, vs, a1, a2, a3, a4, a5, a6, a7⟩ := id O1
        have fx2 := SC.ext E1
        have fx3 := SF.ext E1
        refine own_virtualK X1 hx hZ (y := (⟨"java/lang/String", "charAt", "(I)C"⟩ : MethodName)) (z := (⟨"java/lang/String", "charAt", "(I)C"⟩ : MethodName)) hown (hw _ (List.mem_of_getElem? (i := 13) rfl)) (hw _ (List.mem_of_getElem? (i := 14) rfl)) (notFace_of_selects (args := #[]) (mvT hZ (hw _ (List.mem_of_getElem? (i := 16) rfl)))) (hw _ (List.mem_of_getElem? (i := 16) rfl)) (hw _ (List.mem_of_getElem? (i := 15) rfl)) (by decide) (b := za) O1.exa (W := 0) (own_chN (W := 0) hZ (fun d hd => hw d ((by decide +kernel : ∀ d ∈ StrChars.Road.wordsChN, d ∈ tables_1) d hd)) (kI := 4) (hw _ (List.mem_of_getElem? (i := 7) rfl)) (cs := ([97, 108, 108, 111, 119] : List Int32)) (i := n) Es1 Fv1 Fc1 Av1 cd1 a6 fx2 hzc fx3 hfm a7 (own_lt5 n hn h5) n0 (by decide) (by decide)) rfl (pc := 37) (Ls := #[.val (.int k), .val (.int (Int32.ofNat n)), .val (.int mm), .val (.long j), .second, .val (.int (((((j.toUInt64 >>> (((8 : Int32) * (Int32.ofNat n)) &&& 0x3f).toInt64.toUInt64).toInt64) &&& (255 : Int64)).toInt32).toUInt32.toUInt16.toUInt32.toInt32))]) (argsL := [(.int (Int32.ofNat n))]) (rest := []) (by rw [hml]; rfl) (lenOf own_pd0 rfl) rfl (hb hby own_d_method_2_code_37) (by decide) (by decide) ?_
        intro v4 T4 L4 X4 hQ4
        obtain ⟨rfl, N4, e4⟩ := hQ4
        show OGo p e below (T4.setTop (mkF m 40 #[.val (.int k), .val (.int (Int32.ofNat n)), .val (.int mm), .val (.long j), .second, .val (.int (((((j.toUInt64 >>> (((8 : Int32) * (Int32.ofNat n)) &&& 0x3f).toInt64.toUInt64).toInt64) &&& (255 : Int64)).toInt32).toUInt32.toUInt16.toUInt32.toInt32))] [(.int (([97, 108, 108, 111, 119] : List Int32).getD n 0))])) (OEndW s Z consts_1 (fun v h L => ∃ ch, v = some (.int ch) ∧ Fr n0 L ∧ Ext h0 h ∧ ¬ ch < 0 ∧ ¬ (255 : Int32) < ch) ({ frames := 4, cells := 2, slots := 24, locals := 53 } : Room).cells ({ frames := 4, cells := 2, slots := 24, locals := 53 } : Room).slots)
        exact own_retNW X4 hx hlk hEL OW1 e4 hret (by simp) (hb hby own_d_method_2_code_40) (by rw [e4]; exact ⟨_, rfl, Fr.app (Fr.nil n0) N4, E1, own_gA n (own_lt5 n hn h5)⟩) (by decide) (by decide)
      · refine OGo.step (fun _ kk => XS.icmpYes X0.here hx rfl (pc0 := 31) (pc' := 41) rfl (hb hby own_d_method_2_code_31) rfl (flt h5).2.1 (by decide) (by decide) kk) ?_
        show OGo p e below (s₁.setTop (mkF m 41 #[.val (.int k), .val (.int (Int32.ofNat n)), .val (.int mm), .val (.long j), .second, .val (.int (((((j.toUInt64 >>> (((8 : Int32) * (Int32.ofNat n)) &&& 0x3f).toInt64.toUInt64).toInt64) &&& (255 : Int64)).toInt32).toUInt32.toUInt16.toUInt32.toInt32))] [])) (OEndW s Z consts_1 (fun v h L => ∃ ch, v = some (.int ch) ∧ Fr n0 L ∧ Ext h0 h ∧ ¬ ch < 0 ∧ ¬ (255 : Int32) < ch) ({ frames := 4, cells := 2, slots := 24, locals := 53 } : Room).cells ({ frames := 4, cells := 2, slots := 24, locals := 53 } : Room).slots)
        refine OGo.step (fun _ kk => XS.iloadN X0.here hx rfl (hb hby own_d_method_2_code_41) rfl kk) ?_
        show OGo p e below (s₁.setTop (mkF m 42 #[.val (.int k), .val (.int (Int32.ofNat n)), .val (.int mm), .val (.long j), .second, .val (.int (((((j.toUInt64 >>> (((8 : Int32) * (Int32.ofNat n)) &&& 0x3f).toInt64.toUInt64).toInt64) &&& (255 : Int64)).toInt32).toUInt32.toUInt16.toUInt32.toInt32))] [(.int k)])) (OEndW s Z consts_1 (fun v h L => ∃ ch, v = some (.int ch) ∧ Fr n0 L ∧ Ext h0 h ∧ ¬ ch < 0 ∧ ¬ (255 : Int32) < ch) ({ frames := 4, cells := 2, slots := 24, locals := 53 } : Room).cells ({ frames := 4, cells := 2, slots := 24, locals := 53 } : Room).slots)
        refine OGo.step (fun _ kk => XS.iconst X0.here hx rfl (hb hby own_d_method_2_code_42) kk) ?_
        show OGo p e below (s₁.setTop (mkF m 43 #[.val (.int k), .val (.int (Int32.ofNat n)), .val (.int mm), .val (.long j), .second, .val (.int (((((j.toUInt64 >>> (((8 : Int32) * (Int32.ofNat n)) &&& 0x3f).toInt64.toUInt64).toInt64) &&& (255 : Int64)).toInt32).toUInt32.toUInt16.toUInt32.toInt32))] [(.int (1 : Int32)), (.int k)])) (OEndW s Z consts_1 (fun v h L => ∃ ch, v = some (.int ch) ∧ Fr n0 L ∧ Ext h0 h ∧ ¬ ch < 0 ∧ ¬ (255 : Int32) < ch) ({ frames := 4, cells := 2, slots := 24, locals := 53 } : Room).cells ({ frames := 4, cells := 2, slots := 24, locals := 53 } : Room).slots)
        by_cases hk1 : k = (1 : Int32)
        · refine OGo.step (fun _ kk => XS.icmpNo X0.here hx rfl (hb hby own_d_method_2_code_43) rfl (teq hk1).2 kk) ?_
          show OGo p e below (s₁.setTop (mkF m 46 #[.val (.int k), .val (.int (Int32.ofNat n)), .val (.int mm), .val (.long j), .second, .val (.int (((((j.toUInt64 >>> (((8 : Int32) * (Int32.ofNat n)) &&& 0x3f).toInt64.toUInt64).toInt64) &&& (255 : Int64)).toInt32).toUInt32.toUInt16.toUInt32.toInt32))] [])) (OEndW s Z consts_1 (fun v h L => ∃ ch, v = some (.int ch) ∧ Fr n0 L ∧ Ext h0 h ∧ ¬ ch < 0 ∧ ¬ (255 : Int32) < ch) ({ frames := 4, cells := 2, slots := 24, locals := 53 } : Room).cells ({ frames := 4, cells := 2, slots := 24, locals := 53 } : Room).slots)
          refine OGo.step (fun _ kk => XS.iloadN X0.here hx rfl (hb hby own_d_method_2_code_46) rfl kk) ?_
          show OGo p e below (s₁.setTop (mkF m 47 #[.val (.int k), .val (.int (Int32.ofNat n)), .val (.int mm), .val (.long j), .second, .val (.int (((((j.toUInt64 >>> (((8 : Int32) * (Int32.ofNat n)) &&& 0x3f).toInt64.toUInt64).toInt64) &&& (255 : Int64)).toInt32).toUInt32.toUInt16.toUInt32.toInt32))] [(.int (Int32.ofNat n))])) (OEndW s Z consts_1 (fun v h L => ∃ ch, v = some (.int ch) ∧ Fr n0 L ∧ Ext h0 h ∧ ¬ ch < 0 ∧ ¬ (255 : Int32) < ch) ({ frames := 4, cells := 2, slots := 24, locals := 53 } : Room).cells ({ frames := 4, cells := 2, slots := 24, locals := 53 } : Room).slots)
          refine OGo.step (fun _ kk => XS.iconst X0.here hx rfl (hb hby own_d_method_2_code_47) kk) ?_
          show OGo p e below (s₁.setTop (mkF m 48 #[.val (.int k), .val (.int (Int32.ofNat n)), .val (.int mm), .val (.long j), .second, .val (.int (((((j.toUInt64 >>> (((8 : Int32) * (Int32.ofNat n)) &&& 0x3f).toInt64.toUInt64).toInt64) &&& (255 : Int64)).toInt32).toUInt32.toUInt16.toUInt32.toInt32))] [(.int (4 : Int32)), (.int (Int32.ofNat n))])) (OEndW s Z consts_1 (fun v h L => ∃ ch, v = some (.int ch) ∧ Fr n0 L ∧ Ext h0 h ∧ ¬ ch < 0 ∧ ¬ (255 : Int32) < ch) ({ frames := 4, cells := 2, slots := 24, locals := 53 } : Room).cells ({ frames := 4, cells := 2, slots := 24, locals := 53 } : Room).slots)
          by_cases h4 : (Int32.ofNat n) < (4 : Int32)
          · refine OGo.step (fun _ kk => XS.icmpNo X0.here hx rfl (hb hby own_d_method_2_code_48) rfl (tlt h4).2.1 kk) ?_
            show OGo p e below (s₁.setTop (mkF m 51 #[.val (.int k), .val (.int (Int32.ofNat n)), .val (.int mm), .val (.long j), .second, .val (.int (((((j.toUInt64 >>> (((8 : Int32) * (Int32.ofNat n)) &&& 0x3f).toInt64.toUInt64).toInt64) &&& (255 : Int64)).toInt32).toUInt32.toUInt16.toUInt32.toInt32))] [])) (OEndW s Z consts_1 (fun v h L => ∃ ch, v = some (.int ch) ∧ Fr n0 L ∧ Ext h0 h ∧ ¬ ch < 0 ∧ ¬ (255 : Int32) < ch) ({ frames := 4, cells := 2, slots := 24, locals := 53 } : Room).cells ({ frames := 4, cells := 2, slots := 24, locals := 53 } : Room).slots)
            refine own_ldcW X0 hx hown (hw _ (List.mem_of_getElem? (i := 110) rfl)) wS hEL OW0 e0 (by decide) (vs := [.int (100 : Int32), .int (101 : Int32), .int (110 : Int32), .int (121 : Int32)]) (z := (4 : Int32)) ⟨by decide, by decide⟩ (by decide) (by decide) (pc := 51) (Ls := #[.val (.int k), .val (.int (Int32.ofNat n)), .val (.int mm), .val (.long j), .second, .val (.int (((((j.toUInt64 >>> (((8 : Int32) * (Int32.ofNat n)) &&& 0x3f).toInt64.toUInt64).toInt64) &&& (255 : Int64)).toInt32).toUInt32.toUInt16.toUInt32.toInt32))]) (st := []) (hb hby own_d_method_2_code_51) (n := 16) (by decide) (by decide) (by decide) (by decide) ?_
            intro zd zdb kb5 T5 X5 E5 OW5 hZ hown CH5 Es5 Fc5 Fv5 Av5 Ns5
            have sz5 : n0 ≤ T5.heap.size := Nat.le_trans Z0 E5.1
            show OGo p e below (T5.setTop (mkF m 53 #[.val (.int k), .val (.int (Int32.ofNat n)), .val (.int mm), .val (.long j), .second, .val (.int (((((j.toUInt64 >>> (((8 : Int32) * (Int32.ofNat n)) &&& 0x3f).toInt64.toUInt64).toInt64) &&& (255 : Int64)).toInt32).toUInt32.toUInt16.toUInt32.toInt32))] [(.ref zd)])) (OEndW s Z consts_1 (fun v h L => ∃ ch, v = some (.int ch) ∧ Fr n0 L ∧ Ext h0 h ∧ ¬ ch < 0 ∧ ¬ (255 : Int32) < ch) ({ frames := 4, cells := 2, slots := 24, locals := 53 } : Room).cells ({ frames := 4, cells := 2, slots := 24, locals := 53 } : Room).slots)
            have cd5 : StrChars.Road.CodA ([100, 101, 110, 121] : List Int32) 0 (4 : Int32) [.int (100 : Int32), .int (101 : Int32), .int (110 : Int32), .int (121 : Int32)] := StrChars.Road.codOf (cs := [100, 101, 110, 121]) (n := 4) rfl (by decide)
            have O5 : OStr Z T5.heap zd ([100, 101, 110, 121] : List Int32) := ⟨zdb, kb5, 0, (4 : Int32), _, Es5, Fv5, Fc5, Av5, cd5, by decide, by decide⟩
            refine OGo.step (fun _ kk => XS.iloadN X5.here hx rfl (hb hby own_d_method_2_code_53) rfl kk) ?_
            show OGo p e below (T5.setTop (mkF m 54 #[.val (.int k), .val (.int (Int32.ofNat n)), .val (.int mm), .val (.long j), .second, .val (.int (((((j.toUInt64 >>> (((8 : Int32) * (Int32.ofNat n)) &&& 0x3f).toInt64.toUInt64).toInt64) &&& (255 : Int64)).toInt32).toUInt32.toUInt16.toUInt32.toInt32))] [(.int (Int32.ofNat n)), (.ref zd)])) (OEndW s Z consts_1 (fun v h L => ∃ ch, v = some (.int ch) ∧ Fr n0 L ∧ Ext h0 h ∧ ¬ ch < 0 ∧ ¬ (255 : Int32) < ch) ({ frames := 4, cells := 2, slots := 24, locals := 53 } : Room).cells ({ frames := 4, cells := 2, slots := 24, locals := 53 } : Room).slots)
            obtain ⟨ta, kb, cd, N2, vs, a1, a2, a3, a4, a5, a6, a7⟩ := id O5
            have fx6 := SC.ext E5
            have fx7 := SF.ext E5
            refine own_virtualK X5 hx hZ (y := (⟨"java/lang/String", "charAt", "(I)C"⟩ : MethodName)) (z := (⟨"java/lang/String", "charAt", "(I)C"⟩ : MethodName)) hown (hw _ (List.mem_of_getElem? (i := 13) rfl)) (hw _ (List.mem_of_getElem? (i := 14) rfl)) (notFace_of_selects (args := #[]) (mvT hZ (hw _ (List.mem_of_getElem? (i := 16) rfl)))) (hw _ (List.mem_of_getElem? (i := 16) rfl)) (hw _ (List.mem_of_getElem? (i := 15) rfl)) (by decide) (b := zd) O5.exa (W := 0) (own_chN (W := 0) hZ (fun d hd => hw d ((by decide +kernel : ∀ d ∈ StrChars.Road.wordsChN, d ∈ tables_1) d hd)) (kI := 4) (hw _ (List.mem_of_getElem? (i := 7) rfl)) (cs := ([100, 101, 110, 121] : List Int32)) (i := n) Es5 Fv5 Fc5 Av5 cd5 a6 fx6 hzc fx7 hfm a7 (own_lt4 n hn h4) n0 (by decide) (by decide)) rfl (pc := 54) (Ls := #[.val (.int k), .val (.int (Int32.ofNat n)), .val (.int mm), .val (.long j), .second, .val (.int (((((j.toUInt64 >>> (((8 : Int32) * (Int32.ofNat n)) &&& 0x3f).toInt64.toUInt64).toInt64) &&& (255 : Int64)).toInt32).toUInt32.toUInt16.toUInt32.toInt32))]) (argsL := [(.int (Int32.ofNat n))]) (rest := []) (by rw [hml]; rfl) (lenOf own_pd0 rfl) rfl (hb hby own_d_method_2_code_54) (by decide) (by decide) ?_
            intro v8 T8 L8 X8 hQ8
            obtain ⟨rfl, N8, e8⟩ := hQ8
            show OGo p e below (T8.setTop (mkF m 57 #[.val (.int k), .val (.int (Int32.ofNat n)), .val (.int mm), .val (.long j), .second, .val (.int (((((j.toUInt64 >>> (((8 : Int32) * (Int32.ofNat n)) &&& 0x3f).toInt64.toUInt64).toInt64) &&& (255 : Int64)).toInt32).toUInt32.toUInt16.toUInt32.toInt32))] [(.int (([100, 101, 110, 121] : List Int32).getD n 0))])) (OEndW s Z consts_1 (fun v h L => ∃ ch, v = some (.int ch) ∧ Fr n0 L ∧ Ext h0 h ∧ ¬ ch < 0 ∧ ¬ (255 : Int32) < ch) ({ frames := 4, cells := 2, slots := 24, locals := 53 } : Room).cells ({ frames := 4, cells := 2, slots := 24, locals := 53 } : Room).slots)
            exact own_retNW X8 hx hlk hEL OW5 e8 hret (by simp) (hb hby own_d_method_2_code_57) (by rw [e8]; exact ⟨_, rfl, Fr.app (Fr.nil n0) N8, E5, own_gD n (own_lt4 n hn h4)⟩) (by decide) (by decide)
          · refine OGo.step (fun _ kk => XS.icmpYes X0.here hx rfl (pc0 := 48) (pc' := 58) rfl (hb hby own_d_method_2_code_48) rfl (flt h4).2.1 (by decide) (by decide) kk) ?_
            show OGo p e below (s₁.setTop (mkF m 58 #[.val (.int k), .val (.int (Int32.ofNat n)), .val (.int mm), .val (.long j), .second, .val (.int (((((j.toUInt64 >>> (((8 : Int32) * (Int32.ofNat n)) &&& 0x3f).toInt64.toUInt64).toInt64) &&& (255 : Int64)).toInt32).toUInt32.toUInt16.toUInt32.toInt32))] [])) (OEndW s Z consts_1 (fun v h L => ∃ ch, v = some (.int ch) ∧ Fr n0 L ∧ Ext h0 h ∧ ¬ ch < 0 ∧ ¬ (255 : Int32) < ch) ({ frames := 4, cells := 2, slots := 24, locals := 53 } : Room).cells ({ frames := 4, cells := 2, slots := 24, locals := 53 } : Room).slots)
            refine OGo.step (fun _ kk => XS.iload X0.here hx rfl (hb hby own_d_method_2_code_58) rfl kk) ?_
            show OGo p e below (s₁.setTop (mkF m 60 #[.val (.int k), .val (.int (Int32.ofNat n)), .val (.int mm), .val (.long j), .second, .val (.int (((((j.toUInt64 >>> (((8 : Int32) * (Int32.ofNat n)) &&& 0x3f).toInt64.toUInt64).toInt64) &&& (255 : Int64)).toInt32).toUInt32.toUInt16.toUInt32.toInt32))] [(.int (((((j.toUInt64 >>> (((8 : Int32) * (Int32.ofNat n)) &&& 0x3f).toInt64.toUInt64).toInt64) &&& (255 : Int64)).toInt32).toUInt32.toUInt16.toUInt32.toInt32))])) (OEndW s Z consts_1 (fun v h L => ∃ ch, v = some (.int ch) ∧ Fr n0 L ∧ Ext h0 h ∧ ¬ ch < 0 ∧ ¬ (255 : Int32) < ch) ({ frames := 4, cells := 2, slots := 24, locals := 53 } : Room).cells ({ frames := 4, cells := 2, slots := 24, locals := 53 } : Room).slots)
            exact own_retNW X0 hx hlk hEL OW0 e0 hret (by simp) (hb hby own_d_method_2_code_60) (by rw [e0]; exact ⟨_, rfl, (Fr.nil n0), (own_ext_refl _), own_chL _⟩) (by decide) (by decide)
        · refine OGo.step (fun _ kk => XS.icmpYes X0.here hx rfl (pc0 := 43) (pc' := 58) rfl (hb hby own_d_method_2_code_43) rfl (feq hk1).2 (by decide) (by decide) kk) ?_
          show OGo p e below (s₁.setTop (mkF m 58 #[.val (.int k), .val (.int (Int32.ofNat n)), .val (.int mm), .val (.long j), .second, .val (.int (((((j.toUInt64 >>> (((8 : Int32) * (Int32.ofNat n)) &&& 0x3f).toInt64.toUInt64).toInt64) &&& (255 : Int64)).toInt32).toUInt32.toUInt16.toUInt32.toInt32))] [])) (OEndW s Z consts_1 (fun v h L => ∃ ch, v = some (.int ch) ∧ Fr n0 L ∧ Ext h0 h ∧ ¬ ch < 0 ∧ ¬ (255 : Int32) < ch) ({ frames := 4, cells := 2, slots := 24, locals := 53 } : Room).cells ({ frames := 4, cells := 2, slots := 24, locals := 53 } : Room).slots)
          refine OGo.step (fun _ kk => XS.iload X0.here hx rfl (hb hby own_d_method_2_code_58) rfl kk) ?_
          show OGo p e below (s₁.setTop (mkF m 60 #[.val (.int k), .val (.int (Int32.ofNat n)), .val (.int mm), .val (.long j), .second, .val (.int (((((j.toUInt64 >>> (((8 : Int32) * (Int32.ofNat n)) &&& 0x3f).toInt64.toUInt64).toInt64) &&& (255 : Int64)).toInt32).toUInt32.toUInt16.toUInt32.toInt32))] [(.int (((((j.toUInt64 >>> (((8 : Int32) * (Int32.ofNat n)) &&& 0x3f).toInt64.toUInt64).toInt64) &&& (255 : Int64)).toInt32).toUInt32.toUInt16.toUInt32.toInt32))])) (OEndW s Z consts_1 (fun v h L => ∃ ch, v = some (.int ch) ∧ Fr n0 L ∧ Ext h0 h ∧ ¬ ch < 0 ∧ ¬ (255 : Int32) < ch) ({ frames := 4, cells := 2, slots := 24, locals := 53 } : Room).cells ({ frames := 4, cells := 2, slots := 24, locals := 53 } : Room).slots)
          exact own_retNW X0 hx hlk hEL OW0 e0 hret (by simp) (hb hby own_d_method_2_code_60) (by rw [e0]; exact ⟨_, rfl, (Fr.nil n0), (own_ext_refl _), own_chL _⟩) (by decide) (by decide)
    · refine OGo.step (fun _ kk => XS.ifYes X0.here hx rfl (pc0 := 26) (pc' := 41) rfl (hb hby own_d_method_2_code_26) rfl ((if0 _ _).trans (feq hk0).2) (by decide) (by decide) kk) ?_
      show OGo p e below (s₁.setTop (mkF m 41 #[.val (.int k), .val (.int (Int32.ofNat n)), .val (.int mm), .val (.long j), .second, .val (.int (((((j.toUInt64 >>> (((8 : Int32) * (Int32.ofNat n)) &&& 0x3f).toInt64.toUInt64).toInt64) &&& (255 : Int64)).toInt32).toUInt32.toUInt16.toUInt32.toInt32))] [])) (OEndW s Z consts_1 (fun v h L => ∃ ch, v = some (.int ch) ∧ Fr n0 L ∧ Ext h0 h ∧ ¬ ch < 0 ∧ ¬ (255 : Int32) < ch) ({ frames := 4, cells := 2, slots := 24, locals := 53 } : Room).cells ({ frames := 4, cells := 2, slots := 24, locals := 53 } : Room).slots)
      refine OGo.step (fun _ kk => XS.iloadN X0.here hx rfl (hb hby own_d_method_2_code_41) rfl kk) ?_
      show OGo p e below (s₁.setTop (mkF m 42 #[.val (.int k), .val (.int (Int32.ofNat n)), .val (.int mm), .val (.long j), .second, .val (.int (((((j.toUInt64 >>> (((8 : Int32) * (Int32.ofNat n)) &&& 0x3f).toInt64.toUInt64).toInt64) &&& (255 : Int64)).toInt32).toUInt32.toUInt16.toUInt32.toInt32))] [(.int k)])) (OEndW s Z consts_1 (fun v h L => ∃ ch, v = some (.int ch) ∧ Fr n0 L ∧ Ext h0 h ∧ ¬ ch < 0 ∧ ¬ (255 : Int32) < ch) ({ frames := 4, cells := 2, slots := 24, locals := 53 } : Room).cells ({ frames := 4, cells := 2, slots := 24, locals := 53 } : Room).slots)
      refine OGo.step (fun _ kk => XS.iconst X0.here hx rfl (hb hby own_d_method_2_code_42) kk) ?_
      show OGo p e below (s₁.setTop (mkF m 43 #[.val (.int k), .val (.int (Int32.ofNat n)), .val (.int mm), .val (.long j), .second, .val (.int (((((j.toUInt64 >>> (((8 : Int32) * (Int32.ofNat n)) &&& 0x3f).toInt64.toUInt64).toInt64) &&& (255 : Int64)).toInt32).toUInt32.toUInt16.toUInt32.toInt32))] [(.int (1 : Int32)), (.int k)])) (OEndW s Z consts_1 (fun v h L => ∃ ch, v = some (.int ch) ∧ Fr n0 L ∧ Ext h0 h ∧ ¬ ch < 0 ∧ ¬ (255 : Int32) < ch) ({ frames := 4, cells := 2, slots := 24, locals := 53 } : Room).cells ({ frames := 4, cells := 2, slots := 24, locals := 53 } : Room).slots)
      by_cases hk1 : k = (1 : Int32)
      · refine OGo.step (fun _ kk => XS.icmpNo X0.here hx rfl (hb hby own_d_method_2_code_43) rfl (teq hk1).2 kk) ?_
        show OGo p e below (s₁.setTop (mkF m 46 #[.val (.int k), .val (.int (Int32.ofNat n)), .val (.int mm), .val (.long j), .second, .val (.int (((((j.toUInt64 >>> (((8 : Int32) * (Int32.ofNat n)) &&& 0x3f).toInt64.toUInt64).toInt64) &&& (255 : Int64)).toInt32).toUInt32.toUInt16.toUInt32.toInt32))] [])) (OEndW s Z consts_1 (fun v h L => ∃ ch, v = some (.int ch) ∧ Fr n0 L ∧ Ext h0 h ∧ ¬ ch < 0 ∧ ¬ (255 : Int32) < ch) ({ frames := 4, cells := 2, slots := 24, locals := 53 } : Room).cells ({ frames := 4, cells := 2, slots := 24, locals := 53 } : Room).slots)
        refine OGo.step (fun _ kk => XS.iloadN X0.here hx rfl (hb hby own_d_method_2_code_46) rfl kk) ?_
        show OGo p e below (s₁.setTop (mkF m 47 #[.val (.int k), .val (.int (Int32.ofNat n)), .val (.int mm), .val (.long j), .second, .val (.int (((((j.toUInt64 >>> (((8 : Int32) * (Int32.ofNat n)) &&& 0x3f).toInt64.toUInt64).toInt64) &&& (255 : Int64)).toInt32).toUInt32.toUInt16.toUInt32.toInt32))] [(.int (Int32.ofNat n))])) (OEndW s Z consts_1 (fun v h L => ∃ ch, v = some (.int ch) ∧ Fr n0 L ∧ Ext h0 h ∧ ¬ ch < 0 ∧ ¬ (255 : Int32) < ch) ({ frames := 4, cells := 2, slots := 24, locals := 53 } : Room).cells ({ frames := 4, cells := 2, slots := 24, locals := 53 } : Room).slots)
        refine OGo.step (fun _ kk => XS.iconst X0.here hx rfl (hb hby own_d_method_2_code_47) kk) ?_
        show OGo p e below (s₁.setTop (mkF m 48 #[.val (.int k), .val (.int (Int32.ofNat n)), .val (.int mm), .val (.long j), .second, .val (.int (((((j.toUInt64 >>> (((8 : Int32) * (Int32.ofNat n)) &&& 0x3f).toInt64.toUInt64).toInt64) &&& (255 : Int64)).toInt32).toUInt32.toUInt16.toUInt32.toInt32))] [(.int (4 : Int32)), (.int (Int32.ofNat n))])) (OEndW s Z consts_1 (fun v h L => ∃ ch, v = some (.int ch) ∧ Fr n0 L ∧ Ext h0 h ∧ ¬ ch < 0 ∧ ¬ (255 : Int32) < ch) ({ frames := 4, cells := 2, slots := 24, locals := 53 } : Room).cells ({ frames := 4, cells := 2, slots := 24, locals := 53 } : Room).slots)
        by_cases h4 : (Int32.ofNat n) < (4 : Int32)
        · refine OGo.step (fun _ kk => XS.icmpNo X0.here hx rfl (hb hby own_d_method_2_code_48) rfl (tlt h4).2.1 kk) ?_
          show OGo p e below (s₁.setTop (mkF m 51 #[.val (.int k), .val (.int (Int32.ofNat n)), .val (.int mm), .val (.long j), .second, .val (.int (((((j.toUInt64 >>> (((8 : Int32) * (Int32.ofNat n)) &&& 0x3f).toInt64.toUInt64).toInt64) &&& (255 : Int64)).toInt32).toUInt32.toUInt16.toUInt32.toInt32))] [])) (OEndW s Z consts_1 (fun v h L => ∃ ch, v = some (.int ch) ∧ Fr n0 L ∧ Ext h0 h ∧ ¬ ch < 0 ∧ ¬ (255 : Int32) < ch) ({ frames := 4, cells := 2, slots := 24, locals := 53 } : Room).cells ({ frames := 4, cells := 2, slots := 24, locals := 53 } : Room).slots)
          refine own_ldcW X0 hx hown (hw _ (List.mem_of_getElem? (i := 110) rfl)) wS hEL OW0 e0 (by decide) (vs := [.int (100 : Int32), .int (101 : Int32), .int (110 : Int32), .int (121 : Int32)]) (z := (4 : Int32)) ⟨by decide, by decide⟩ (by decide) (by decide) (pc := 51) (Ls := #[.val (.int k), .val (.int (Int32.ofNat n)), .val (.int mm), .val (.long j), .second, .val (.int (((((j.toUInt64 >>> (((8 : Int32) * (Int32.ofNat n)) &&& 0x3f).toInt64.toUInt64).toInt64) &&& (255 : Int64)).toInt32).toUInt32.toUInt16.toUInt32.toInt32))]) (st := []) (hb hby own_d_method_2_code_51) (n := 16) (by decide) (by decide) (by decide) (by decide) ?_
          intro zd zdb kb9 T9 X9 E9 OW9 hZ hown CH9 Es9 Fc9 Fv9 Av9 Ns9
          have sz9 : n0 ≤ T9.heap.size := Nat.le_trans Z0 E9.1
          show OGo p e below (T9.setTop (mkF m 53 #[.val (.int k), .val (.int (Int32.ofNat n)), .val (.int mm), .val (.long j), .second, .val (.int (((((j.toUInt64 >>> (((8 : Int32) * (Int32.ofNat n)) &&& 0x3f).toInt64.toUInt64).toInt64) &&& (255 : Int64)).toInt32).toUInt32.toUInt16.toUInt32.toInt32))] [(.ref zd)])) (OEndW s Z consts_1 (fun v h L => ∃ ch, v = some (.int ch) ∧ Fr n0 L ∧ Ext h0 h ∧ ¬ ch < 0 ∧ ¬ (255 : Int32) < ch) ({ frames := 4, cells := 2, slots := 24, locals := 53 } : Room).cells ({ frames := 4, cells := 2, slots := 24, locals := 53 } : Room).slots)
          have cd9 : StrChars.Road.CodA ([100, 101, 110, 121] : List Int32) 0 (4 : Int32) [.int (100 : Int32), .int (101 : Int32), .int (110 : Int32), .int (121 : Int32)] := StrChars.Road.codOf (cs := [100, 101, 110, 121]) (n := 4) rfl (by decide)
          have O9 : OStr Z T9.heap zd ([100, 101, 110, 121] : List Int32) := ⟨zdb, kb9, 0, (4 : Int32), _, Es9, Fv9, Fc9, Av9, cd9, by decide, by decide⟩
          refine OGo.step (fun _ kk => XS.iloadN X9.here hx rfl (hb hby own_d_method_2_code_53) rfl kk) ?_
          show OGo p e below (T9.setTop (mkF m 54 #[.val (.int k), .val (.int (Int32.ofNat n)), .val (.int mm), .val (.long j), .second, .val (.int (((((j.toUInt64 >>> (((8 : Int32) * (Int32.ofNat n)) &&& 0x3f).toInt64.toUInt64).toInt64) &&& (255 : Int64)).toInt32).toUInt32.toUInt16.toUInt32.toInt32))] [(.int (Int32.ofNat n)), (.ref zd)])) (OEndW s Z consts_1 (fun v h L => ∃ ch, v = some (.int ch) ∧ Fr n0 L ∧ Ext h0 h ∧ ¬ ch < 0 ∧ ¬ (255 : Int32) < ch) ({ frames := 4, cells := 2, slots := 24, locals := 53 } : Room).cells ({ frames := 4, cells := 2, slots := 24, locals := 53 } : Room).slots)
          obtain ⟨ta, kb, cd, N2, vs, a1, a2, a3, a4, a5, a6, a7⟩ := id O9
          have fx10 := SC.ext E9
          have fx11 := SF.ext E9
          refine own_virtualK X9 hx hZ (y := (⟨"java/lang/String", "charAt", "(I)C"⟩ : MethodName)) (z := (⟨"java/lang/String", "charAt", "(I)C"⟩ : MethodName)) hown (hw _ (List.mem_of_getElem? (i := 13) rfl)) (hw _ (List.mem_of_getElem? (i := 14) rfl)) (notFace_of_selects (args := #[]) (mvT hZ (hw _ (List.mem_of_getElem? (i := 16) rfl)))) (hw _ (List.mem_of_getElem? (i := 16) rfl)) (hw _ (List.mem_of_getElem? (i := 15) rfl)) (by decide) (b := zd) O9.exa (W := 0) (own_chN (W := 0) hZ (fun d hd => hw d ((by decide +kernel : ∀ d ∈ StrChars.Road.wordsChN, d ∈ tables_1) d hd)) (kI := 4) (hw _ (List.mem_of_getElem? (i := 7) rfl)) (cs := ([100, 101, 110, 121] : List Int32)) (i := n) Es9 Fv9 Fc9 Av9 cd9 a6 fx10 hzc fx11 hfm a7 (own_lt4 n hn h4) n0 (by decide) (by decide)) rfl (pc := 54) (Ls := #[.val (.int k), .val (.int (Int32.ofNat n)), .val (.int mm), .val (.long j), .second, .val (.int (((((j.toUInt64 >>> (((8 : Int32) * (Int32.ofNat n)) &&& 0x3f).toInt64.toUInt64).toInt64) &&& (255 : Int64)).toInt32).toUInt32.toUInt16.toUInt32.toInt32))]) (argsL := [(.int (Int32.ofNat n))]) (rest := []) (by rw [hml]; rfl) (lenOf own_pd0 rfl) rfl (hb hby own_d_method_2_code_54) (by decide) (by decide) ?_
          intro v12 T12 L12 X12 hQ12
          obtain ⟨rfl, N12, e12⟩ := hQ12
          show OGo p e below (T12.setTop (mkF m 57 #[.val (.int k), .val (.int (Int32.ofNat n)), .val (.int mm), .val (.long j), .second, .val (.int (((((j.toUInt64 >>> (((8 : Int32) * (Int32.ofNat n)) &&& 0x3f).toInt64.toUInt64).toInt64) &&& (255 : Int64)).toInt32).toUInt32.toUInt16.toUInt32.toInt32))] [(.int (([100, 101, 110, 121] : List Int32).getD n 0))])) (OEndW s Z consts_1 (fun v h L => ∃ ch, v = some (.int ch) ∧ Fr n0 L ∧ Ext h0 h ∧ ¬ ch < 0 ∧ ¬ (255 : Int32) < ch) ({ frames := 4, cells := 2, slots := 24, locals := 53 } : Room).cells ({ frames := 4, cells := 2, slots := 24, locals := 53 } : Room).slots)
          exact own_retNW X12 hx hlk hEL OW9 e12 hret (by simp) (hb hby own_d_method_2_code_57) (by rw [e12]; exact ⟨_, rfl, Fr.app (Fr.nil n0) N12, E9, own_gD n (own_lt4 n hn h4)⟩) (by decide) (by decide)
        · refine OGo.step (fun _ kk => XS.icmpYes X0.here hx rfl (pc0 := 48) (pc' := 58) rfl (hb hby own_d_method_2_code_48) rfl (flt h4).2.1 (by decide) (by decide) kk) ?_
          show OGo p e below (s₁.setTop (mkF m 58 #[.val (.int k), .val (.int (Int32.ofNat n)), .val (.int mm), .val (.long j), .second, .val (.int (((((j.toUInt64 >>> (((8 : Int32) * (Int32.ofNat n)) &&& 0x3f).toInt64.toUInt64).toInt64) &&& (255 : Int64)).toInt32).toUInt32.toUInt16.toUInt32.toInt32))] [])) (OEndW s Z consts_1 (fun v h L => ∃ ch, v = some (.int ch) ∧ Fr n0 L ∧ Ext h0 h ∧ ¬ ch < 0 ∧ ¬ (255 : Int32) < ch) ({ frames := 4, cells := 2, slots := 24, locals := 53 } : Room).cells ({ frames := 4, cells := 2, slots := 24, locals := 53 } : Room).slots)
          refine OGo.step (fun _ kk => XS.iload X0.here hx rfl (hb hby own_d_method_2_code_58) rfl kk) ?_
          show OGo p e below (s₁.setTop (mkF m 60 #[.val (.int k), .val (.int (Int32.ofNat n)), .val (.int mm), .val (.long j), .second, .val (.int (((((j.toUInt64 >>> (((8 : Int32) * (Int32.ofNat n)) &&& 0x3f).toInt64.toUInt64).toInt64) &&& (255 : Int64)).toInt32).toUInt32.toUInt16.toUInt32.toInt32))] [(.int (((((j.toUInt64 >>> (((8 : Int32) * (Int32.ofNat n)) &&& 0x3f).toInt64.toUInt64).toInt64) &&& (255 : Int64)).toInt32).toUInt32.toUInt16.toUInt32.toInt32))])) (OEndW s Z consts_1 (fun v h L => ∃ ch, v = some (.int ch) ∧ Fr n0 L ∧ Ext h0 h ∧ ¬ ch < 0 ∧ ¬ (255 : Int32) < ch) ({ frames := 4, cells := 2, slots := 24, locals := 53 } : Room).cells ({ frames := 4, cells := 2, slots := 24, locals := 53 } : Room).slots)
          exact own_retNW X0 hx hlk hEL OW0 e0 hret (by simp) (hb hby own_d_method_2_code_60) (by rw [e0]; exact ⟨_, rfl, (Fr.nil n0), (own_ext_refl _), own_chL _⟩) (by decide) (by decide)
      · refine OGo.step (fun _ kk => XS.icmpYes X0.here hx rfl (pc0 := 43) (pc' := 58) rfl (hb hby own_d_method_2_code_43) rfl (feq hk1).2 (by decide) (by decide) kk) ?_
        show OGo p e below (s₁.setTop (mkF m 58 #[.val (.int k), .val (.int (Int32.ofNat n)), .val (.int mm), .val (.long j), .second, .val (.int (((((j.toUInt64 >>> (((8 : Int32) * (Int32.ofNat n)) &&& 0x3f).toInt64.toUInt64).toInt64) &&& (255 : Int64)).toInt32).toUInt32.toUInt16.toUInt32.toInt32))] [])) (OEndW s Z consts_1 (fun v h L => ∃ ch, v = some (.int ch) ∧ Fr n0 L ∧ Ext h0 h ∧ ¬ ch < 0 ∧ ¬ (255 : Int32) < ch) ({ frames := 4, cells := 2, slots := 24, locals := 53 } : Room).cells ({ frames := 4, cells := 2, slots := 24, locals := 53 } : Room).slots)
        refine OGo.step (fun _ kk => XS.iload X0.here hx rfl (hb hby own_d_method_2_code_58) rfl kk) ?_
        show OGo p e below (s₁.setTop (mkF m 60 #[.val (.int k), .val (.int (Int32.ofNat n)), .val (.int mm), .val (.long j), .second, .val (.int (((((j.toUInt64 >>> (((8 : Int32) * (Int32.ofNat n)) &&& 0x3f).toInt64.toUInt64).toInt64) &&& (255 : Int64)).toInt32).toUInt32.toUInt16.toUInt32.toInt32))] [(.int (((((j.toUInt64 >>> (((8 : Int32) * (Int32.ofNat n)) &&& 0x3f).toInt64.toUInt64).toInt64) &&& (255 : Int64)).toInt32).toUInt32.toUInt16.toUInt32.toInt32))])) (OEndW s Z consts_1 (fun v h L => ∃ ch, v = some (.int ch) ∧ Fr n0 L ∧ Ext h0 h ∧ ¬ ch < 0 ∧ ¬ (255 : Int32) < ch) ({ frames := 4, cells := 2, slots := 24, locals := 53 } : Room).cells ({ frames := 4, cells := 2, slots := 24, locals := 53 } : Room).slots)
        exact own_retNW X0 hx hlk hEL OW0 e0 hret (by simp) (hb hby own_d_method_2_code_60) (by rw [e0]; exact ⟨_, rfl, (Fr.nil n0), (own_ext_refl _), own_chL _⟩) (by decide) (by decide)
  · refine OGo.step (fun _ kk => XS.ifNo X0.here hx rfl (hb hby own_d_method_2_code_19) rfl ((if0 _ _).trans (feq hbit).1) kk) ?_
    show OGo p e below (s₁.setTop (mkF m 22 #[.val (.int k), .val (.int (Int32.ofNat n)), .val (.int mm), .val (.long j), .second, .val (.int (((((j.toUInt64 >>> (((8 : Int32) * (Int32.ofNat n)) &&& 0x3f).toInt64.toUInt64).toInt64) &&& (255 : Int64)).toInt32).toUInt32.toUInt16.toUInt32.toInt32))] [])) (OEndW s Z consts_1 (fun v h L => ∃ ch, v = some (.int ch) ∧ Fr n0 L ∧ Ext h0 h ∧ ¬ ch < 0 ∧ ¬ (255 : Int32) < ch) ({ frames := 4, cells := 2, slots := 24, locals := 53 } : Room).cells ({ frames := 4, cells := 2, slots := 24, locals := 53 } : Room).slots)
    refine OGo.step (fun _ kk => XS.iload X0.here hx rfl (hb hby own_d_method_2_code_22) rfl kk) ?_
    show OGo p e below (s₁.setTop (mkF m 24 #[.val (.int k), .val (.int (Int32.ofNat n)), .val (.int mm), .val (.long j), .second, .val (.int (((((j.toUInt64 >>> (((8 : Int32) * (Int32.ofNat n)) &&& 0x3f).toInt64.toUInt64).toInt64) &&& (255 : Int64)).toInt32).toUInt32.toUInt16.toUInt32.toInt32))] [(.int (((((j.toUInt64 >>> (((8 : Int32) * (Int32.ofNat n)) &&& 0x3f).toInt64.toUInt64).toInt64) &&& (255 : Int64)).toInt32).toUInt32.toUInt16.toUInt32.toInt32))])) (OEndW s Z consts_1 (fun v h L => ∃ ch, v = some (.int ch) ∧ Fr n0 L ∧ Ext h0 h ∧ ¬ ch < 0 ∧ ¬ (255 : Int32) < ch) ({ frames := 4, cells := 2, slots := 24, locals := 53 } : Room).cells ({ frames := 4, cells := 2, slots := 24, locals := 53 } : Room).slots)
    exact own_retNW X0 hx hlk hEL OW0 e0 hret (by simp) (hb hby own_d_method_2_code_24) (by rw [e0]; exact ⟨_, rfl, (Fr.nil n0), (own_ext_refl _), own_chL _⟩) (by decide) (by decide)

set_option maxRecDepth 65536 in
set_option maxHeartbeats 40000000 in
theorem own_mkc (l : Launch) (Z : State) (a0 : Array Value) (hw : ∀ d ∈ tables_1, d.before a0 Z = true) (ws : List Jvm.Cond) (n c0_ c1_ c2_ c3_ c4_ c5_ c6_ zc : Int32) (h0 : Heap) (n0 : Nat) (Z0 : n0 ≤ h0.size) (SC : Sta Z h0 "java/lang/String" "COMPACT_STRINGS" "Z" (.int zc)) (hzc : ¬ zc = 0) (hb0 : ¬ c0_ < 0 ∧ ¬ (255 : Int32) < c0_) (hb1 : ¬ c1_ < 0 ∧ ¬ (255 : Int32) < c1_) (hb2 : ¬ c2_ < 0 ∧ ¬ (255 : Int32) < c2_) (hb3 : ¬ c3_ < 0 ∧ ¬ (255 : Int32) < c3_) (hb4 : ¬ c4_ < 0 ∧ ¬ (255 : Int32) < c4_) (hb5 : ¬ c5_ < 0 ∧ ¬ (255 : Int32) < c5_) (hb6 : ¬ c6_ < 0 ∧ ¬ (255 : Int32) < c6_) :
    OMetW l Z consts_1 (⟨"com/example/tenantd/tenantd/PermissionOfTextPinLaw", "mk", "(ICCCCCCC)Ljava/lang/String;"⟩ : MethodName) method_3_code 8 (some (.object "java/lang/String")) ws ({ frames := 4, cells := 6, slots := 18, locals := 66 } : Room) #[(.int n), (.int c0_), (.int c1_), (.int c2_), (.int c3_), (.int c4_), (.int c5_), (.int c6_)] h0 (fun v h L => ∃ x : Addr, v = some (.ref x) ∧ Fr n0 L ∧ Ext h0 h ∧ OStr Z h x (own_mk n c0_ c1_ c2_ c3_ c4_ c5_ c6_)) := by
  refine OMetW.body (plainFor_of_name own_pn0) ?_
  intro p e s m below meth c s₁ hx hby hml hown hnm hret hlk hZ X0 e0 OW0
  have hEL := own_hEL hw
  have wS := own_wS hw
  refine OGo.step (fun _ kk => castTop (show entryFrame m #[(.int n), (.int c0_), (.int c1_), (.int c2_), (.int c3_), (.int c4_), (.int c5_), (.int c6_)] 8 = (mkF m 0 #[.val (.int n), .val (.int c0_), .val (.int c1_), .val (.int c2_), .val (.int c3_), .val (.int c4_), .val (.int c5_), .val (.int c6_)] []) from by first | (simp [entryFrame, mkF, argsToLocals, Value.category]; done) | rfl) kk) ?_
  show OGo p e below (s₁.setTop (mkF m 0 #[.val (.int n), .val (.int c0_), .val (.int c1_), .val (.int c2_), .val (.int c3_), .val (.int c4_), .val (.int c5_), .val (.int c6_)] [])) (OEndW s Z consts_1 (fun v h L => ∃ x : Addr, v = some (.ref x) ∧ Fr n0 L ∧ Ext h0 h ∧ OStr Z h x (own_mk n c0_ c1_ c2_ c3_ c4_ c5_ c6_)) ({ frames := 4, cells := 6, slots := 18, locals := 66 } : Room).cells ({ frames := 4, cells := 6, slots := 18, locals := 66 } : Room).slots)
  refine OGo.step (fun _ kk => XS.iloadN X0.here hx rfl (hb hby own_d_method_3_code_0) rfl kk) ?_
  show OGo p e below (s₁.setTop (mkF m 1 #[.val (.int n), .val (.int c0_), .val (.int c1_), .val (.int c2_), .val (.int c3_), .val (.int c4_), .val (.int c5_), .val (.int c6_)] [(.int n)])) (OEndW s Z consts_1 (fun v h L => ∃ x : Addr, v = some (.ref x) ∧ Fr n0 L ∧ Ext h0 h ∧ OStr Z h x (own_mk n c0_ c1_ c2_ c3_ c4_ c5_ c6_)) ({ frames := 4, cells := 6, slots := 18, locals := 66 } : Room).cells ({ frames := 4, cells := 6, slots := 18, locals := 66 } : Room).slots)
  by_cases hn0 : n = (0 : Int32)
  · refine OGo.step (fun _ kk => XS.ifNo X0.here hx rfl (hb hby own_d_method_3_code_1) rfl ((if0 _ _).trans (teq hn0).2) kk) ?_
    show OGo p e below (s₁.setTop (mkF m 4 #[.val (.int n), .val (.int c0_), .val (.int c1_), .val (.int c2_), .val (.int c3_), .val (.int c4_), .val (.int c5_), .val (.int c6_)] [])) (OEndW s Z consts_1 (fun v h L => ∃ x : Addr, v = some (.ref x) ∧ Fr n0 L ∧ Ext h0 h ∧ OStr Z h x (own_mk n c0_ c1_ c2_ c3_ c4_ c5_ c6_)) ({ frames := 4, cells := 6, slots := 18, locals := 66 } : Room).cells ({ frames := 4, cells := 6, slots := 18, locals := 66 } : Room).slots)
    obtain ⟨T13, h13, X13, e13, E13, A13, D13, U13, st13⟩ := newO X0 hx hZ hown (hw _ (List.mem_of_getElem? (i := 41) rfl)) (hw _ (List.mem_of_getElem? (i := 7) rfl)) (hw _ (List.mem_of_getElem? (i := 6) rfl)) e0 (g := (mkF m 4 #[.val (.int n), .val (.int c0_), .val (.int c1_), .val (.int c2_), .val (.int c3_), .val (.int c4_), .val (.int c5_), .val (.int c6_)] [])) rfl (hb hby own_d_method_3_code_4) (by decide) (by decide)
    obtain ⟨x, g13⟩ : ∃ z, z = h0.size := ⟨_, rfl⟩
    rw [← g13] at A13 D13 U13 st13
    refine OGo.step st13 ?_
    show OGo p e below (T13.setTop (mkF m 7 #[.val (.int n), .val (.int c0_), .val (.int c1_), .val (.int c2_), .val (.int c3_), .val (.int c4_), .val (.int c5_), .val (.int c6_)] [(.ref x)])) (OEndW s Z consts_1 (fun v h L => ∃ x : Addr, v = some (.ref x) ∧ Fr n0 L ∧ Ext h0 h ∧ OStr Z h x (own_mk n c0_ c1_ c2_ c3_ c4_ c5_ c6_)) ({ frames := 4, cells := 6, slots := 18, locals := 66 } : Room).cells ({ frames := 4, cells := 6, slots := 18, locals := 66 } : Room).slots)
    have gf_x : n0 ≤ x := Nat.le_trans Z0 (Nat.le_of_eq g13.symm)
    have sz13 : n0 ≤ h13.size := Nat.le_trans Z0 E13.1
    have OW14 := OW0.ext E13
    have F13_value : Fld Z h13 x "java/lang/String" "value" "[B" .null := D13 (Or.inr (hw _ (List.mem_of_getElem? (i := 9) rfl))) (ty := (.array .byte)) (by decide)
    have F13_coder : Fld Z h13 x "java/lang/String" "coder" "B" (.int (0 : Int32)) := D13 (Or.inr (hw _ (List.mem_of_getElem? (i := 10) rfl))) (ty := .byte) (by decide)
    have sf15 := own_safe_null (EL := consts_1) OW14.2.1.alike A13 F13_value
    refine OGo.step (fun _ kk => XS.dup X13.here hx rfl (hb hby own_d_method_3_code_7) rfl rfl kk) ?_
    show OGo p e below (T13.setTop (mkF m 8 #[.val (.int n), .val (.int c0_), .val (.int c1_), .val (.int c2_), .val (.int c3_), .val (.int c4_), .val (.int c5_), .val (.int c6_)] [(.ref x), (.ref x)])) (OEndW s Z consts_1 (fun v h L => ∃ x : Addr, v = some (.ref x) ∧ Fr n0 L ∧ Ext h0 h ∧ OStr Z h x (own_mk n c0_ c1_ c2_ c3_ c4_ c5_ c6_)) ({ frames := 4, cells := 6, slots := 18, locals := 66 } : Room).cells ({ frames := 4, cells := 6, slots := 18, locals := 66 } : Room).slots)
    refine OGo.step (fun _ kk => XS.iconst X13.here hx rfl (hb hby own_d_method_3_code_8) kk) ?_
    show OGo p e below (T13.setTop (mkF m 9 #[.val (.int n), .val (.int c0_), .val (.int c1_), .val (.int c2_), .val (.int c3_), .val (.int c4_), .val (.int c5_), .val (.int c6_)] [(.int (0 : Int32)), (.ref x), (.ref x)])) (OEndW s Z consts_1 (fun v h L => ∃ x : Addr, v = some (.ref x) ∧ Fr n0 L ∧ Ext h0 h ∧ OStr Z h x (own_mk n c0_ c1_ c2_ c3_ c4_ c5_ c6_)) ({ frames := 4, cells := 6, slots := 18, locals := 66 } : Room).cells ({ frames := 4, cells := 6, slots := 18, locals := 66 } : Room).slots)
    obtain ⟨T16, h16, k16, X16, e16, E16, A16, st16⟩ := newP X13 hx hZ (hw _ (List.mem_of_getElem? (i := 42) rfl)) e13 (g := (mkF m 9 #[.val (.int n), .val (.int c0_), .val (.int c1_), .val (.int c2_), .val (.int c3_), .val (.int c4_), .val (.int c5_), .val (.int c6_)] [(.int (0 : Int32)), (.ref x), (.ref x)])) rfl (hb hby own_d_method_3_code_9) rfl (by decide) (cap := 0) (by decide) (by decide) (by decide) (by decide)
    obtain ⟨b, g16⟩ : ∃ z, z = h13.size := ⟨_, rfl⟩
    rw [← g16] at A16 st16
    refine OGo.step st16 ?_
    show OGo p e below (T16.setTop (mkF m 11 #[.val (.int n), .val (.int c0_), .val (.int c1_), .val (.int c2_), .val (.int c3_), .val (.int c4_), .val (.int c5_), .val (.int c6_)] [(.ref b), (.ref x), (.ref x)])) (OEndW s Z consts_1 (fun v h L => ∃ x : Addr, v = some (.ref x) ∧ Fr n0 L ∧ Ext h0 h ∧ OStr Z h x (own_mk n c0_ c1_ c2_ c3_ c4_ c5_ c6_)) ({ frames := 4, cells := 6, slots := 18, locals := 66 } : Room).cells ({ frames := 4, cells := 6, slots := 18, locals := 66 } : Room).slots)
    have ne_x_b : x ≠ b := Nat.ne_of_lt (Nat.lt_of_lt_of_le A13.lt (Nat.le_of_eq g16.symm))
    have gf_b : n0 ≤ b := Nat.le_trans sz13 (Nat.le_of_eq g16.symm)
    have sz16 : n0 ≤ h16.size := Nat.le_trans sz13 E16.1
    have sf17 := Safe.ext E16 OW14.chv sf15
    have OW18 := OW14.ext E16
    have Va19 : Arv Z h16 b k16 .char (0 : Int32) [] (.int (0 : Int32)) := (Arv.new A16 (by decide)).pad (pad_rep [] (.int (0 : Int32)) 0)
    have fc20 := (A13.ext E16)
    have fc21 := (F13_value.ext E16)
    have fc22 := (F13_coder.ext E16)
    refine own_specialW X16 hx hZ (y := (⟨"java/lang/String", "<init>", "([C)V"⟩ : MethodName)) rfl hown (hw _ (List.mem_of_getElem? (i := 43) rfl)) (hw _ (List.mem_of_getElem? (i := 44) rfl)) (hw _ (List.mem_of_getElem? (i := 45) rfl)) (hw _ (List.mem_of_getElem? (i := 6) rfl)) (by decide) hEL OW18 (a := x) (W := 1) (own_new1E l Z a0 hw [] x b _ h16 n0 sz16 fc20 fc21 fc22 gf_x Va19) e16  (pc := 11) (Ls := #[.val (.int n), .val (.int c0_), .val (.int c1_), .val (.int c2_), .val (.int c3_), .val (.int c4_), .val (.int c5_), .val (.int c6_)]) (argsL := [(.ref b)]) (rest := [(.ref x)]) (by rw [hml]; rfl) (lenOf own_pd1 rfl) rfl (hb hby own_d_method_3_code_11) (by decide) (by decide) (by decide) (by decide) ?_
    intro v23 T23 L23 X23 hQ23 OW23 hZ hown CH23
    obtain ⟨rfl, N23, K23, O23⟩ := hQ23
    have sf24 := CH23.safe (fc20).lt sf17
    show OGo p e below (T23.setTop (mkF m 14 #[.val (.int n), .val (.int c0_), .val (.int c1_), .val (.int c2_), .val (.int c3_), .val (.int c4_), .val (.int c5_), .val (.int c6_)] [(.ref x)])) (OEndW s Z consts_1 (fun v h L => ∃ x : Addr, v = some (.ref x) ∧ Fr n0 L ∧ Ext h0 h ∧ OStr Z h x (own_mk n c0_ c1_ c2_ c3_ c4_ c5_ c6_)) ({ frames := 4, cells := 6, slots := 18, locals := 66 } : Room).cells ({ frames := 4, cells := 6, slots := 18, locals := 66 } : Room).slots)
    have Nc23 := Fr.app (Fr.nil n0) N23
    have sz23 : n0 ≤ T23.heap.size := Nat.le_trans sz16 K23.1
    have xt25 := (own_ext_trans E13 E16)
    have xt26 := (own_ext_keep xt25 K23 (allS (Nat.le_of_eq g13.symm) all0))
    exact own_retW X23 hx hlk hEL OW23 rfl hret rfl (Or.inr (Or.inr (Or.inr (Or.inr ⟨rfl, rfl, rfl⟩)))) (hb hby own_d_method_3_code_14) ⟨x, rfl, Nc23, xt26, by rw [own_mk, if_pos hn0]; exact O23⟩ (by decide) (by decide)
  · refine OGo.step (fun _ kk => XS.ifYes X0.here hx rfl (pc0 := 1) (pc' := 15) rfl (hb hby own_d_method_3_code_1) rfl ((if0 _ _).trans (feq hn0).2) (by decide) (by decide) kk) ?_
    show OGo p e below (s₁.setTop (mkF m 15 #[.val (.int n), .val (.int c0_), .val (.int c1_), .val (.int c2_), .val (.int c3_), .val (.int c4_), .val (.int c5_), .val (.int c6_)] [])) (OEndW s Z consts_1 (fun v h L => ∃ x : Addr, v = some (.ref x) ∧ Fr n0 L ∧ Ext h0 h ∧ OStr Z h x (own_mk n c0_ c1_ c2_ c3_ c4_ c5_ c6_)) ({ frames := 4, cells := 6, slots := 18, locals := 66 } : Room).cells ({ frames := 4, cells := 6, slots := 18, locals := 66 } : Room).slots)
    refine OGo.step (fun _ kk => XS.iloadN X0.here hx rfl (hb hby own_d_method_3_code_15) rfl kk) ?_
    show OGo p e below (s₁.setTop (mkF m 16 #[.val (.int n), .val (.int c0_), .val (.int c1_), .val (.int c2_), .val (.int c3_), .val (.int c4_), .val (.int c5_), .val (.int c6_)] [(.int n)])) (OEndW s Z consts_1 (fun v h L => ∃ x : Addr, v = some (.ref x) ∧ Fr n0 L ∧ Ext h0 h ∧ OStr Z h x (own_mk n c0_ c1_ c2_ c3_ c4_ c5_ c6_)) ({ frames := 4, cells := 6, slots := 18, locals := 66 } : Room).cells ({ frames := 4, cells := 6, slots := 18, locals := 66 } : Room).slots)
    refine OGo.step (fun _ kk => XS.iconst X0.here hx rfl (hb hby own_d_method_3_code_16) kk) ?_
    show OGo p e below (s₁.setTop (mkF m 17 #[.val (.int n), .val (.int c0_), .val (.int c1_), .val (.int c2_), .val (.int c3_), .val (.int c4_), .val (.int c5_), .val (.int c6_)] [(.int (1 : Int32)), (.int n)])) (OEndW s Z consts_1 (fun v h L => ∃ x : Addr, v = some (.ref x) ∧ Fr n0 L ∧ Ext h0 h ∧ OStr Z h x (own_mk n c0_ c1_ c2_ c3_ c4_ c5_ c6_)) ({ frames := 4, cells := 6, slots := 18, locals := 66 } : Room).cells ({ frames := 4, cells := 6, slots := 18, locals := 66 } : Room).slots)
    by_cases hn1 : n = (1 : Int32)
    · refine OGo.step (fun _ kk => XS.icmpNo X0.here hx rfl (hb hby own_d_method_3_code_17) rfl (teq hn1).2 kk) ?_
      show OGo p e below (s₁.setTop (mkF m 20 #[.val (.int n), .val (.int c0_), .val (.int c1_), .val (.int c2_), .val (.int c3_), .val (.int c4_), .val (.int c5_), .val (.int c6_)] [])) (OEndW s Z consts_1 (fun v h L => ∃ x : Addr, v = some (.ref x) ∧ Fr n0 L ∧ Ext h0 h ∧ OStr Z h x (own_mk n c0_ c1_ c2_ c3_ c4_ c5_ c6_)) ({ frames := 4, cells := 6, slots := 18, locals := 66 } : Room).cells ({ frames := 4, cells := 6, slots := 18, locals := 66 } : Room).slots)
      refine OGo.step (fun _ kk => XS.iloadN X0.here hx rfl (hb hby own_d_method_3_code_20) rfl kk) ?_
      show OGo p e below (s₁.setTop (mkF m 21 #[.val (.int n), .val (.int c0_), .val (.int c1_), .val (.int c2_), .val (.int c3_), .val (.int c4_), .val (.int c5_), .val (.int c6_)] [(.int c0_)])) (OEndW s Z consts_1 (fun v h L => ∃ x : Addr, v = some (.ref x) ∧ Fr n0 L ∧ Ext h0 h ∧ OStr Z h x (own_mk n c0_ c1_ c2_ c3_ c4_ c5_ c6_)) ({ frames := 4, cells := 6, slots := 18, locals := 66 } : Room).cells ({ frames := 4, cells := 6, slots := 18, locals := 66 } : Room).slots)
      refine own_callS X0 hx hZ (y := (⟨"java/lang/String", "valueOf", "(C)Ljava/lang/String;"⟩ : MethodName)) hown (hw _ (List.mem_of_getElem? (i := 98) rfl)) (hw _ (List.mem_of_getElem? (i := 99) rfl)) (hw _ (List.mem_of_getElem? (i := 6) rfl)) (hw _ (List.mem_of_getElem? (i := 100) rfl)) (by decide) (W := 0) (own_valueOf l Z a0 hw [] c0_ zc h0 n0 Z0 SC hzc hb0) e0  (pc := 21) (Ls := #[.val (.int n), .val (.int c0_), .val (.int c1_), .val (.int c2_), .val (.int c3_), .val (.int c4_), .val (.int c5_), .val (.int c6_)]) (argsL := [(.int c0_)]) (rest := []) (by rw [hml]; rfl) (lenOf own_pd2 rfl) rfl (hb hby own_d_method_3_code_21) (by decide) (by decide) (by decide) (by decide) ?_
      intro v27 T27 L27 X27 hQ27
      obtain ⟨x, rfl, N27, Xe27, Ov27⟩ := hQ27
      show OGo p e below (T27.setTop (mkF m 24 #[.val (.int n), .val (.int c0_), .val (.int c1_), .val (.int c2_), .val (.int c3_), .val (.int c4_), .val (.int c5_), .val (.int c6_)] [(.ref x)])) (OEndW s Z consts_1 (fun v h L => ∃ x : Addr, v = some (.ref x) ∧ Fr n0 L ∧ Ext h0 h ∧ OStr Z h x (own_mk n c0_ c1_ c2_ c3_ c4_ c5_ c6_)) ({ frames := 4, cells := 6, slots := 18, locals := 66 } : Room).cells ({ frames := 4, cells := 6, slots := 18, locals := 66 } : Room).slots)
      have Nc27 := Fr.app (Fr.nil n0) N27
      have sz27 : n0 ≤ T27.heap.size := Nat.le_trans Z0 Xe27.1
      have OW28 := OW0.ext Xe27
      exact own_retW X27 hx hlk hEL OW28 rfl hret rfl (Or.inr (Or.inr (Or.inr (Or.inr ⟨rfl, rfl, rfl⟩)))) (hb hby own_d_method_3_code_24) ⟨x, rfl, Nc27, Xe27, by rw [own_mk, if_neg hn0, if_pos hn1]; exact Ov27⟩ (by decide) (by decide)
    · refine OGo.step (fun _ kk => XS.icmpYes X0.here hx rfl (pc0 := 17) (pc' := 25) rfl (hb hby own_d_method_3_code_17) rfl (feq hn1).2 (by decide) (by decide) kk) ?_
      show OGo p e below (s₁.setTop (mkF m 25 #[.val (.int n), .val (.int c0_), .val (.int c1_), .val (.int c2_), .val (.int c3_), .val (.int c4_), .val (.int c5_), .val (.int c6_)] [])) (OEndW s Z consts_1 (fun v h L => ∃ x : Addr, v = some (.ref x) ∧ Fr n0 L ∧ Ext h0 h ∧ OStr Z h x (own_mk n c0_ c1_ c2_ c3_ c4_ c5_ c6_)) ({ frames := 4, cells := 6, slots := 18, locals := 66 } : Room).cells ({ frames := 4, cells := 6, slots := 18, locals := 66 } : Room).slots)
      refine OGo.step (fun _ kk => XS.iloadN X0.here hx rfl (hb hby own_d_method_3_code_25) rfl kk) ?_
      show OGo p e below (s₁.setTop (mkF m 26 #[.val (.int n), .val (.int c0_), .val (.int c1_), .val (.int c2_), .val (.int c3_), .val (.int c4_), .val (.int c5_), .val (.int c6_)] [(.int n)])) (OEndW s Z consts_1 (fun v h L => ∃ x : Addr, v = some (.ref x) ∧ Fr n0 L ∧ Ext h0 h ∧ OStr Z h x (own_mk n c0_ c1_ c2_ c3_ c4_ c5_ c6_)) ({ frames := 4, cells := 6, slots := 18, locals := 66 } : Room).cells ({ frames := 4, cells := 6, slots := 18, locals := 66 } : Room).slots)
      refine OGo.step (fun _ kk => XS.iconst X0.here hx rfl (hb hby own_d_method_3_code_26) kk) ?_
      show OGo p e below (s₁.setTop (mkF m 27 #[.val (.int n), .val (.int c0_), .val (.int c1_), .val (.int c2_), .val (.int c3_), .val (.int c4_), .val (.int c5_), .val (.int c6_)] [(.int (2 : Int32)), (.int n)])) (OEndW s Z consts_1 (fun v h L => ∃ x : Addr, v = some (.ref x) ∧ Fr n0 L ∧ Ext h0 h ∧ OStr Z h x (own_mk n c0_ c1_ c2_ c3_ c4_ c5_ c6_)) ({ frames := 4, cells := 6, slots := 18, locals := 66 } : Room).cells ({ frames := 4, cells := 6, slots := 18, locals := 66 } : Room).slots)
      by_cases hn2 : n = (2 : Int32)
      · refine OGo.step (fun _ kk => XS.icmpNo X0.here hx rfl (hb hby own_d_method_3_code_27) rfl (teq hn2).2 kk) ?_
        show OGo p e below (s₁.setTop (mkF m 30 #[.val (.int n), .val (.int c0_), .val (.int c1_), .val (.int c2_), .val (.int c3_), .val (.int c4_), .val (.int c5_), .val (.int c6_)] [])) (OEndW s Z consts_1 (fun v h L => ∃ x : Addr, v = some (.ref x) ∧ Fr n0 L ∧ Ext h0 h ∧ OStr Z h x (own_mk n c0_ c1_ c2_ c3_ c4_ c5_ c6_)) ({ frames := 4, cells := 6, slots := 18, locals := 66 } : Room).cells ({ frames := 4, cells := 6, slots := 18, locals := 66 } : Room).slots)
        obtain ⟨T29, h29, X29, e29, E29, A29, D29, U29, st29⟩ := newO X0 hx hZ hown (hw _ (List.mem_of_getElem? (i := 41) rfl)) (hw _ (List.mem_of_getElem? (i := 7) rfl)) (hw _ (List.mem_of_getElem? (i := 6) rfl)) e0 (g := (mkF m 30 #[.val (.int n), .val (.int c0_), .val (.int c1_), .val (.int c2_), .val (.int c3_), .val (.int c4_), .val (.int c5_), .val (.int c6_)] [])) rfl (hb hby own_d_method_3_code_30) (by decide) (by decide)
        obtain ⟨x, g29⟩ : ∃ z, z = h0.size := ⟨_, rfl⟩
        rw [← g29] at A29 D29 U29 st29
        refine OGo.step st29 ?_
        show OGo p e below (T29.setTop (mkF m 33 #[.val (.int n), .val (.int c0_), .val (.int c1_), .val (.int c2_), .val (.int c3_), .val (.int c4_), .val (.int c5_), .val (.int c6_)] [(.ref x)])) (OEndW s Z consts_1 (fun v h L => ∃ x : Addr, v = some (.ref x) ∧ Fr n0 L ∧ Ext h0 h ∧ OStr Z h x (own_mk n c0_ c1_ c2_ c3_ c4_ c5_ c6_)) ({ frames := 4, cells := 6, slots := 18, locals := 66 } : Room).cells ({ frames := 4, cells := 6, slots := 18, locals := 66 } : Room).slots)
        have gf_x : n0 ≤ x := Nat.le_trans Z0 (Nat.le_of_eq g29.symm)
        have sz29 : n0 ≤ h29.size := Nat.le_trans Z0 E29.1
        have OW30 := OW0.ext E29
        have F29_value : Fld Z h29 x "java/lang/String" "value" "[B" .null := D29 (Or.inr (hw _ (List.mem_of_getElem? (i := 9) rfl))) (ty := (.array .byte)) (by decide)
        have F29_coder : Fld Z h29 x "java/lang/String" "coder" "B" (.int (0 : Int32)) := D29 (Or.inr (hw _ (List.mem_of_getElem? (i := 10) rfl))) (ty := .byte) (by decide)
        have sf31 := own_safe_null (EL := consts_1) OW30.2.1.alike A29 F29_value
        refine OGo.step (fun _ kk => XS.dup X29.here hx rfl (hb hby own_d_method_3_code_33) rfl rfl kk) ?_
        show OGo p e below (T29.setTop (mkF m 34 #[.val (.int n), .val (.int c0_), .val (.int c1_), .val (.int c2_), .val (.int c3_), .val (.int c4_), .val (.int c5_), .val (.int c6_)] [(.ref x), (.ref x)])) (OEndW s Z consts_1 (fun v h L => ∃ x : Addr, v = some (.ref x) ∧ Fr n0 L ∧ Ext h0 h ∧ OStr Z h x (own_mk n c0_ c1_ c2_ c3_ c4_ c5_ c6_)) ({ frames := 4, cells := 6, slots := 18, locals := 66 } : Room).cells ({ frames := 4, cells := 6, slots := 18, locals := 66 } : Room).slots)
        refine OGo.step (fun _ kk => XS.iconst X29.here hx rfl (hb hby own_d_method_3_code_34) kk) ?_
        show OGo p e below (T29.setTop (mkF m 35 #[.val (.int n), .val (.int c0_), .val (.int c1_), .val (.int c2_), .val (.int c3_), .val (.int c4_), .val (.int c5_), .val (.int c6_)] [(.int (2 : Int32)), (.ref x), (.ref x)])) (OEndW s Z consts_1 (fun v h L => ∃ x : Addr, v = some (.ref x) ∧ Fr n0 L ∧ Ext h0 h ∧ OStr Z h x (own_mk n c0_ c1_ c2_ c3_ c4_ c5_ c6_)) ({ frames := 4, cells := 6, slots := 18, locals := 66 } : Room).cells ({ frames := 4, cells := 6, slots := 18, locals := 66 } : Room).slots)
        obtain ⟨T32, h32, k32, X32, e32, E32, A32, st32⟩ := newP X29 hx hZ (hw _ (List.mem_of_getElem? (i := 42) rfl)) e29 (g := (mkF m 35 #[.val (.int n), .val (.int c0_), .val (.int c1_), .val (.int c2_), .val (.int c3_), .val (.int c4_), .val (.int c5_), .val (.int c6_)] [(.int (2 : Int32)), (.ref x), (.ref x)])) rfl (hb hby own_d_method_3_code_35) rfl (by decide) (cap := 2) (by decide) (by decide) (by decide) (by decide)
        obtain ⟨b, g32⟩ : ∃ z, z = h29.size := ⟨_, rfl⟩
        rw [← g32] at A32 st32
        refine OGo.step st32 ?_
        show OGo p e below (T32.setTop (mkF m 37 #[.val (.int n), .val (.int c0_), .val (.int c1_), .val (.int c2_), .val (.int c3_), .val (.int c4_), .val (.int c5_), .val (.int c6_)] [(.ref b), (.ref x), (.ref x)])) (OEndW s Z consts_1 (fun v h L => ∃ x : Addr, v = some (.ref x) ∧ Fr n0 L ∧ Ext h0 h ∧ OStr Z h x (own_mk n c0_ c1_ c2_ c3_ c4_ c5_ c6_)) ({ frames := 4, cells := 6, slots := 18, locals := 66 } : Room).cells ({ frames := 4, cells := 6, slots := 18, locals := 66 } : Room).slots)
        have ne_x_b : x ≠ b := Nat.ne_of_lt (Nat.lt_of_lt_of_le A29.lt (Nat.le_of_eq g32.symm))
        have gf_b : n0 ≤ b := Nat.le_trans sz29 (Nat.le_of_eq g32.symm)
        have sz32 : n0 ≤ h32.size := Nat.le_trans sz29 E32.1
        have sf33 := Safe.ext E32 OW30.chv sf31
        have OW34 := OW30.ext E32
        have Va35 : Arv Z h32 b k32 .char (2 : Int32) [(.int (0 : Int32)), (.int (0 : Int32))] (.int (0 : Int32)) := (Arv.new A32 (by decide)).pad (pad_rep [] (.int (0 : Int32)) 2)
        refine OGo.step (fun _ kk => XS.dup X32.here hx rfl (hb hby own_d_method_3_code_37) rfl rfl kk) ?_
        show OGo p e below (T32.setTop (mkF m 38 #[.val (.int n), .val (.int c0_), .val (.int c1_), .val (.int c2_), .val (.int c3_), .val (.int c4_), .val (.int c5_), .val (.int c6_)] [(.ref b), (.ref b), (.ref x), (.ref x)])) (OEndW s Z consts_1 (fun v h L => ∃ x : Addr, v = some (.ref x) ∧ Fr n0 L ∧ Ext h0 h ∧ OStr Z h x (own_mk n c0_ c1_ c2_ c3_ c4_ c5_ c6_)) ({ frames := 4, cells := 6, slots := 18, locals := 66 } : Room).cells ({ frames := 4, cells := 6, slots := 18, locals := 66 } : Room).slots)
        refine OGo.step (fun _ kk => XS.iconst X32.here hx rfl (hb hby own_d_method_3_code_38) kk) ?_
        show OGo p e below (T32.setTop (mkF m 39 #[.val (.int n), .val (.int c0_), .val (.int c1_), .val (.int c2_), .val (.int c3_), .val (.int c4_), .val (.int c5_), .val (.int c6_)] [(.int (0 : Int32)), (.ref b), (.ref b), (.ref x), (.ref x)])) (OEndW s Z consts_1 (fun v h L => ∃ x : Addr, v = some (.ref x) ∧ Fr n0 L ∧ Ext h0 h ∧ OStr Z h x (own_mk n c0_ c1_ c2_ c3_ c4_ c5_ c6_)) ({ frames := 4, cells := 6, slots := 18, locals := 66 } : Room).cells ({ frames := 4, cells := 6, slots := 18, locals := 66 } : Room).slots)
        refine OGo.step (fun _ kk => XS.iloadN X32.here hx rfl (hb hby own_d_method_3_code_39) rfl kk) ?_
        show OGo p e below (T32.setTop (mkF m 40 #[.val (.int n), .val (.int c0_), .val (.int c1_), .val (.int c2_), .val (.int c3_), .val (.int c4_), .val (.int c5_), .val (.int c6_)] [(.int c0_), (.int (0 : Int32)), (.ref b), (.ref b), (.ref x), (.ref x)])) (OEndW s Z consts_1 (fun v h L => ∃ x : Addr, v = some (.ref x) ∧ Fr n0 L ∧ Ext h0 h ∧ OStr Z h x (own_mk n c0_ c1_ c2_ c3_ c4_ c5_ c6_)) ({ frames := 4, cells := 6, slots := 18, locals := 66 } : Room).cells ({ frames := 4, cells := 6, slots := 18, locals := 66 } : Room).slots)
        obtain ⟨cA36, A36, q36, S36, M36, H36, G36⟩ := Va35
        obtain ⟨T37, h37, X37, e37, W37, st37⟩ := stC X32 hx hZ e32 A36 (j := (0 : Int32)) (inb_of S36 ⟨by decide, by decide⟩) (g := (mkF m 40 #[.val (.int n), .val (.int c0_), .val (.int c1_), .val (.int c2_), .val (.int c3_), .val (.int c4_), .val (.int c5_), .val (.int c6_)] [(.int c0_), (.int (0 : Int32)), (.ref b), (.ref b), (.ref x), (.ref x)])) rfl rfl (hb hby own_d_method_3_code_40)
        refine OGo.step st37 ?_
        show OGo p e below (T37.setTop (mkF m 41 #[.val (.int n), .val (.int c0_), .val (.int c1_), .val (.int c2_), .val (.int c3_), .val (.int c4_), .val (.int c5_), .val (.int c6_)] [(.ref b), (.ref x), (.ref x)])) (OEndW s Z consts_1 (fun v h L => ∃ x : Addr, v = some (.ref x) ∧ Fr n0 L ∧ Ext h0 h ∧ OStr Z h x (own_mk n c0_ c1_ c2_ c3_ c4_ c5_ c6_)) ({ frames := 4, cells := 6, slots := 18, locals := 66 } : Room).cells ({ frames := 4, cells := 6, slots := 18, locals := 66 } : Room).slots)
        have Va36 : Arv Z h37 b k32 .char (2 : Int32) [(.int (nar .char c0_)), (.int (0 : Int32))] (.int (0 : Int32)) := Arv.set A36 q36 S36 M36 H36 G36 (fits_nar_char _) W37 0 rfl (Nat.le_of_ble_eq_true rfl)
        have Nf37 := Fr.snoc X37 (Fr.nil n0) gf_b
        have sz37 : n0 ≤ h37.size := by rw [W37.size]; exact sz32
        have sw38 := (Safe.arr (EL := consts_1) OW34.2.1.alike A36 (by decide))
        have sf39 := Safe.wr W37 sw38 OW34.chv sf33
        have OW40 := OW34.wr W37 sw38
        refine OGo.step (fun _ kk => XS.dup X37.here hx rfl (hb hby own_d_method_3_code_41) rfl rfl kk) ?_
        show OGo p e below (T37.setTop (mkF m 42 #[.val (.int n), .val (.int c0_), .val (.int c1_), .val (.int c2_), .val (.int c3_), .val (.int c4_), .val (.int c5_), .val (.int c6_)] [(.ref b), (.ref b), (.ref x), (.ref x)])) (OEndW s Z consts_1 (fun v h L => ∃ x : Addr, v = some (.ref x) ∧ Fr n0 L ∧ Ext h0 h ∧ OStr Z h x (own_mk n c0_ c1_ c2_ c3_ c4_ c5_ c6_)) ({ frames := 4, cells := 6, slots := 18, locals := 66 } : Room).cells ({ frames := 4, cells := 6, slots := 18, locals := 66 } : Room).slots)
        refine OGo.step (fun _ kk => XS.iconst X37.here hx rfl (hb hby own_d_method_3_code_42) kk) ?_
        show OGo p e below (T37.setTop (mkF m 43 #[.val (.int n), .val (.int c0_), .val (.int c1_), .val (.int c2_), .val (.int c3_), .val (.int c4_), .val (.int c5_), .val (.int c6_)] [(.int (1 : Int32)), (.ref b), (.ref b), (.ref x), (.ref x)])) (OEndW s Z consts_1 (fun v h L => ∃ x : Addr, v = some (.ref x) ∧ Fr n0 L ∧ Ext h0 h ∧ OStr Z h x (own_mk n c0_ c1_ c2_ c3_ c4_ c5_ c6_)) ({ frames := 4, cells := 6, slots := 18, locals := 66 } : Room).cells ({ frames := 4, cells := 6, slots := 18, locals := 66 } : Room).slots)
        refine OGo.step (fun _ kk => XS.iloadN X37.here hx rfl (hb hby own_d_method_3_code_43) rfl kk) ?_
        show OGo p e below (T37.setTop (mkF m 44 #[.val (.int n), .val (.int c0_), .val (.int c1_), .val (.int c2_), .val (.int c3_), .val (.int c4_), .val (.int c5_), .val (.int c6_)] [(.int c1_), (.int (1 : Int32)), (.ref b), (.ref b), (.ref x), (.ref x)])) (OEndW s Z consts_1 (fun v h L => ∃ x : Addr, v = some (.ref x) ∧ Fr n0 L ∧ Ext h0 h ∧ OStr Z h x (own_mk n c0_ c1_ c2_ c3_ c4_ c5_ c6_)) ({ frames := 4, cells := 6, slots := 18, locals := 66 } : Room).cells ({ frames := 4, cells := 6, slots := 18, locals := 66 } : Room).slots)
        obtain ⟨cA41, A41, q41, S41, M41, H41, G41⟩ := Va36
        obtain ⟨T42, h42, X42, e42, W42, st42⟩ := stC X37 hx hZ e37 A41 (j := (1 : Int32)) (inb_of S41 ⟨by decide, by decide⟩) (g := (mkF m 44 #[.val (.int n), .val (.int c0_), .val (.int c1_), .val (.int c2_), .val (.int c3_), .val (.int c4_), .val (.int c5_), .val (.int c6_)] [(.int c1_), (.int (1 : Int32)), (.ref b), (.ref b), (.ref x), (.ref x)])) rfl rfl (hb hby own_d_method_3_code_44)
        refine OGo.step st42 ?_
        show OGo p e below (T42.setTop (mkF m 45 #[.val (.int n), .val (.int c0_), .val (.int c1_), .val (.int c2_), .val (.int c3_), .val (.int c4_), .val (.int c5_), .val (.int c6_)] [(.ref b), (.ref x), (.ref x)])) (OEndW s Z consts_1 (fun v h L => ∃ x : Addr, v = some (.ref x) ∧ Fr n0 L ∧ Ext h0 h ∧ OStr Z h x (own_mk n c0_ c1_ c2_ c3_ c4_ c5_ c6_)) ({ frames := 4, cells := 6, slots := 18, locals := 66 } : Room).cells ({ frames := 4, cells := 6, slots := 18, locals := 66 } : Room).slots)
        have Va41 : Arv Z h42 b k32 .char (2 : Int32) [(.int (nar .char c0_)), (.int (nar .char c1_))] (.int (0 : Int32)) := Arv.set A41 q41 S41 M41 H41 G41 (fits_nar_char _) W42 1 rfl (Nat.le_of_ble_eq_true rfl)
        have Nf42 := Fr.snoc X42 Nf37 gf_b
        have sz42 : n0 ≤ h42.size := by rw [W42.size]; exact sz37
        have sw43 := (Safe.arr (EL := consts_1) OW40.2.1.alike A41 (by decide))
        have sf44 := Safe.wr W42 sw43 OW40.chv sf39
        have OW45 := OW40.wr W42 sw43
        have fc46 := (((A29.ext E32).wr W37).wr W42)
        have fc47 := (((F29_value.ext E32).other W37 (Or.inl ne_x_b)).other W42 (Or.inl ne_x_b))
        have fc48 := (((F29_coder.ext E32).other W37 (Or.inl ne_x_b)).other W42 (Or.inl ne_x_b))
        have hpx : ∀ c ∈ ([(nar .char c0_), (nar .char c1_)] : List Int32), ¬ c < 0 ∧ ¬ (255 : Int32) < c := (own_allS (own_nc hb0) (own_allS (own_nc hb1) own_all0))
        have xt49 := (own_ext_trans E29 E32)
        have xt50 := (own_ext_wr xt49 W37 (Nat.le_trans E29.1 (Nat.le_of_eq g32.symm)))
        have xt51 := (own_ext_wr xt50 W42 (Nat.le_trans E29.1 (Nat.le_of_eq g32.symm)))
        have fx52 := SC.ext xt51
        refine own_specialK X42 hx hZ (y := (⟨"java/lang/String", "<init>", "([C)V"⟩ : MethodName)) rfl hown (hw _ (List.mem_of_getElem? (i := 43) rfl)) (hw _ (List.mem_of_getElem? (i := 44) rfl)) (hw _ (List.mem_of_getElem? (i := 45) rfl)) (by decide) (a := x) (W := 1) (StrChars.Road.backV (W := 1) hZ (fun d hd => hw d ((by decide +kernel : ∀ d ∈ StrChars.Road.words, d ∈ tables_1) d hd)) (kI := 4) (hw _ (List.mem_of_getElem? (i := 7) rfl)) (cs := ([(nar .char c0_), (nar .char c1_)] : List Int32)) (bs := (([(nar .char c0_), (nar .char c1_)] : List Int32)).map (fun c => c.toInt8.toInt32)) (n := 2) gf_x sz42 fc46 fc47 fc48 Va41 fx52 hzc rfl rfl (by decide) (by decide) hpx rfl (by decide) (by decide)) e42 (pc := 45) (Ls := #[.val (.int n), .val (.int c0_), .val (.int c1_), .val (.int c2_), .val (.int c3_), .val (.int c4_), .val (.int c5_), .val (.int c6_)]) (argsL := [(.ref b)]) (rest := [(.ref x)]) (by rw [hml]; rfl) (lenOf own_pd1 rfl) rfl (hb hby own_d_method_3_code_45) (by decide) (by decide) ?_
        intro v53 T53 L53 X53 hQ53
        obtain ⟨rfl, N53, K53, Ex53, Fc53, t53, kb53, u153, u253, u353, Fv53, Av53⟩ := hQ53
        show OGo p e below (T53.setTop (mkF m 48 #[.val (.int n), .val (.int c0_), .val (.int c1_), .val (.int c2_), .val (.int c3_), .val (.int c4_), .val (.int c5_), .val (.int c6_)] [(.ref x)])) (OEndW s Z consts_1 (fun v h L => ∃ x : Addr, v = some (.ref x) ∧ Fr n0 L ∧ Ext h0 h ∧ OStr Z h x (own_mk n c0_ c1_ c2_ c3_ c4_ c5_ c6_)) ({ frames := 4, cells := 6, slots := 18, locals := 66 } : Room).cells ({ frames := 4, cells := 6, slots := 18, locals := 66 } : Room).slots)
        have Nc53 := Fr.app Nf42 N53
        have sz53 : n0 ≤ T53.heap.size := Nat.le_trans sz42 K53.1
        have sf54 := Safe.keep K53 (sfS sf44 sf0) OW45.chv sf44
        have OW55 := OW45.keep K53 (sfS sf44 sf0)
        have O53 : OStr Z T53.heap x ([(nar .char c0_), (nar .char c1_)] : List Int32) := ⟨t53, kb53, 0, (2 : Int32), _, Ex53, Fv53, Fc53, Av53, StrChars.Road.codOf (n := 2) rfl (fun c hc => (hpx c hc).2), own_up _ hpx, Nat.le_of_ble_eq_true rfl⟩
        have xt56 := (own_ext_keep xt51 K53 (allS (Nat.le_of_eq g29.symm) all0))
        have HO : OStr Z T53.heap x [c0_, c1_] := by simpa only [own_narC hb0, own_narC hb1] using O53
        exact own_retW X53 hx hlk hEL OW55 rfl hret rfl (Or.inr (Or.inr (Or.inr (Or.inr ⟨rfl, rfl, rfl⟩)))) (hb hby own_d_method_3_code_48) ⟨x, rfl, Nc53, xt56, by rw [own_mk, if_neg hn0, if_neg hn1, if_pos hn2]; exact HO⟩ (by decide) (by decide)
      · refine OGo.step (fun _ kk => XS.icmpYes X0.here hx rfl (pc0 := 27) (pc' := 49) rfl (hb hby own_d_method_3_code_27) rfl (feq hn2).2 (by decide) (by decide) kk) ?_
        show OGo p e below (s₁.setTop (mkF m 49 #[.val (.int n), .val (.int c0_), .val (.int c1_), .val (.int c2_), .val (.int c3_), .val (.int c4_), .val (.int c5_), .val (.int c6_)] [])) (OEndW s Z consts_1 (fun v h L => ∃ x : Addr, v = some (.ref x) ∧ Fr n0 L ∧ Ext h0 h ∧ OStr Z h x (own_mk n c0_ c1_ c2_ c3_ c4_ c5_ c6_)) ({ frames := 4, cells := 6, slots := 18, locals := 66 } : Room).cells ({ frames := 4, cells := 6, slots := 18, locals := 66 } : Room).slots)
        refine OGo.step (fun _ kk => XS.iloadN X0.here hx rfl (hb hby own_d_method_3_code_49) rfl kk) ?_
        show OGo p e below (s₁.setTop (mkF m 50 #[.val (.int n), .val (.int c0_), .val (.int c1_), .val (.int c2_), .val (.int c3_), .val (.int c4_), .val (.int c5_), .val (.int c6_)] [(.int n)])) (OEndW s Z consts_1 (fun v h L => ∃ x : Addr, v = some (.ref x) ∧ Fr n0 L ∧ Ext h0 h ∧ OStr Z h x (own_mk n c0_ c1_ c2_ c3_ c4_ c5_ c6_)) ({ frames := 4, cells := 6, slots := 18, locals := 66 } : Room).cells ({ frames := 4, cells := 6, slots := 18, locals := 66 } : Room).slots)
        refine OGo.step (fun _ kk => XS.iconst X0.here hx rfl (hb hby own_d_method_3_code_50) kk) ?_
        show OGo p e below (s₁.setTop (mkF m 51 #[.val (.int n), .val (.int c0_), .val (.int c1_), .val (.int c2_), .val (.int c3_), .val (.int c4_), .val (.int c5_), .val (.int c6_)] [(.int (3 : Int32)), (.int n)])) (OEndW s Z consts_1 (fun v h L => ∃ x : Addr, v = some (.ref x) ∧ Fr n0 L ∧ Ext h0 h ∧ OStr Z h x (own_mk n c0_ c1_ c2_ c3_ c4_ c5_ c6_)) ({ frames := 4, cells := 6, slots := 18, locals := 66 } : Room).cells ({ frames := 4, cells := 6, slots := 18, locals := 66 } : Room).slots)
        by_cases hn3 : n = (3 : Int32)
        · refine OGo.step (fun _ kk => XS.icmpNo X0.here hx rfl (hb hby own_d_method_3_code_51) rfl (teq hn3).2 kk) ?_
          show OGo p e below (s₁.setTop (mkF m 54 #[.val (.int n), .val (.int c0_), .val (.int c1_), .val (.int c2_), .val (.int c3_), .val (.int c4_), .val (.int c5_), .val (.int c6_)] [])) (OEndW s Z consts_1 (fun v h L => ∃ x : Addr, v = some (.ref x) ∧ Fr n0 L ∧ Ext h0 h ∧ OStr Z h x (own_mk n c0_ c1_ c2_ c3_ c4_ c5_ c6_)) ({ frames := 4, cells := 6, slots := 18, locals := 66 } : Room).cells ({ frames := 4, cells := 6, slots := 18, locals := 66 } : Room).slots)
          obtain ⟨T57, h57, X57, e57, E57, A57, D57, U57, st57⟩ := newO X0 hx hZ hown (hw _ (List.mem_of_getElem? (i := 41) rfl)) (hw _ (List.mem_of_getElem? (i := 7) rfl)) (hw _ (List.mem_of_getElem? (i := 6) rfl)) e0 (g := (mkF m 54 #[.val (.int n), .val (.int c0_), .val (.int c1_), .val (.int c2_), .val (.int c3_), .val (.int c4_), .val (.int c5_), .val (.int c6_)] [])) rfl (hb hby own_d_method_3_code_54) (by decide) (by decide)
          obtain ⟨x, g57⟩ : ∃ z, z = h0.size := ⟨_, rfl⟩
          rw [← g57] at A57 D57 U57 st57
          refine OGo.step st57 ?_
          show OGo p e below (T57.setTop (mkF m 57 #[.val (.int n), .val (.int c0_), .val (.int c1_), .val (.int c2_), .val (.int c3_), .val (.int c4_), .val (.int c5_), .val (.int c6_)] [(.ref x)])) (OEndW s Z consts_1 (fun v h L => ∃ x : Addr, v = some (.ref x) ∧ Fr n0 L ∧ Ext h0 h ∧ OStr Z h x (own_mk n c0_ c1_ c2_ c3_ c4_ c5_ c6_)) ({ frames := 4, cells := 6, slots := 18, locals := 66 } : Room).cells ({ frames := 4, cells := 6, slots := 18, locals := 66 } : Room).slots)
          have gf_x : n0 ≤ x := Nat.le_trans Z0 (Nat.le_of_eq g57.symm)
          have sz57 : n0 ≤ h57.size := Nat.le_trans Z0 E57.1
          have OW58 := OW0.ext E57
          have F57_value : Fld Z h57 x "java/lang/String" "value" "[B" .null := D57 (Or.inr (hw _ (List.mem_of_getElem? (i := 9) rfl))) (ty := (.array .byte)) (by decide)
          have F57_coder : Fld Z h57 x "java/lang/String" "coder" "B" (.int (0 : Int32)) := D57 (Or.inr (hw _ (List.mem_of_getElem? (i := 10) rfl))) (ty := .byte) (by decide)
          have sf59 := own_safe_null (EL := consts_1) OW58.2.1.alike A57 F57_value
          refine OGo.step (fun _ kk => XS.dup X57.here hx rfl (hb hby own_d_method_3_code_57) rfl rfl kk) ?_
          show OGo p e below (T57.setTop (mkF m 58 #[.val (.int n), .val (.int c0_), .val (.int c1_), .val (.int c2_), .val (.int c3_), .val (.int c4_), .val (.int c5_), .val (.int c6_)] [(.ref x), (.ref x)])) (OEndW s Z consts_1 (fun v h L => ∃ x : Addr, v = some (.ref x) ∧ Fr n0 L ∧ Ext h0 h ∧ OStr Z h x (own_mk n c0_ c1_ c2_ c3_ c4_ c5_ c6_)) ({ frames := 4, cells := 6, slots := 18, locals := 66 } : Room).cells ({ frames := 4, cells := 6, slots := 18, locals := 66 } : Room).slots)
          refine OGo.step (fun _ kk => XS.iconst X57.here hx rfl (hb hby own_d_method_3_code_58) kk) ?_
          show OGo p e below (T57.setTop (mkF m 59 #[.val (.int n), .val (.int c0_), .val (.int c1_), .val (.int c2_), .val (.int c3_), .val (.int c4_), .val (.int c5_), .val (.int c6_)] [(.int (3 : Int32)), (.ref x), (.ref x)])) (OEndW s Z consts_1 (fun v h L => ∃ x : Addr, v = some (.ref x) ∧ Fr n0 L ∧ Ext h0 h ∧ OStr Z h x (own_mk n c0_ c1_ c2_ c3_ c4_ c5_ c6_)) ({ frames := 4, cells := 6, slots := 18, locals := 66 } : Room).cells ({ frames := 4, cells := 6, slots := 18, locals := 66 } : Room).slots)
          obtain ⟨T60, h60, k60, X60, e60, E60, A60, st60⟩ := newP X57 hx hZ (hw _ (List.mem_of_getElem? (i := 42) rfl)) e57 (g := (mkF m 59 #[.val (.int n), .val (.int c0_), .val (.int c1_), .val (.int c2_), .val (.int c3_), .val (.int c4_), .val (.int c5_), .val (.int c6_)] [(.int (3 : Int32)), (.ref x), (.ref x)])) rfl (hb hby own_d_method_3_code_59) rfl (by decide) (cap := 3) (by decide) (by decide) (by decide) (by decide)
          obtain ⟨b, g60⟩ : ∃ z, z = h57.size := ⟨_, rfl⟩
          rw [← g60] at A60 st60
          refine OGo.step st60 ?_
          show OGo p e below (T60.setTop (mkF m 61 #[.val (.int n), .val (.int c0_), .val (.int c1_), .val (.int c2_), .val (.int c3_), .val (.int c4_), .val (.int c5_), .val (.int c6_)] [(.ref b), (.ref x), (.ref x)])) (OEndW s Z consts_1 (fun v h L => ∃ x : Addr, v = some (.ref x) ∧ Fr n0 L ∧ Ext h0 h ∧ OStr Z h x (own_mk n c0_ c1_ c2_ c3_ c4_ c5_ c6_)) ({ frames := 4, cells := 6, slots := 18, locals := 66 } : Room).cells ({ frames := 4, cells := 6, slots := 18, locals := 66 } : Room).slots)
          have ne_x_b : x ≠ b := Nat.ne_of_lt (Nat.lt_of_lt_of_le A57.lt (Nat.le_of_eq g60.symm))
          have gf_b : n0 ≤ b := Nat.le_trans sz57 (Nat.le_of_eq g60.symm)
          have sz60 : n0 ≤ h60.size := Nat.le_trans sz57 E60.1
          have sf61 := Safe.ext E60 OW58.chv sf59
          have OW62 := OW58.ext E60
          have Va63 : Arv Z h60 b k60 .char (3 : Int32) [(.int (0 : Int32)), (.int (0 : Int32)), (.int (0 : Int32))] (.int (0 : Int32)) := (Arv.new A60 (by decide)).pad (pad_rep [] (.int (0 : Int32)) 3)
          refine OGo.step (fun _ kk => XS.dup X60.here hx rfl (hb hby own_d_method_3_code_61) rfl rfl kk) ?_
          show OGo p e below (T60.setTop (mkF m 62 #[.val (.int n), .val (.int c0_), .val (.int c1_), .val (.int c2_), .val (.int c3_), .val (.int c4_), .val (.int c5_), .val (.int c6_)] [(.ref b), (.ref b), (.ref x), (.ref x)])) (OEndW s Z consts_1 (fun v h L => ∃ x : Addr, v = some (.ref x) ∧ Fr n0 L ∧ Ext h0 h ∧ OStr Z h x (own_mk n c0_ c1_ c2_ c3_ c4_ c5_ c6_)) ({ frames := 4, cells := 6, slots := 18, locals := 66 } : Room).cells ({ frames := 4, cells := 6, slots := 18, locals := 66 } : Room).slots)
          refine OGo.step (fun _ kk => XS.iconst X60.here hx rfl (hb hby own_d_method_3_code_62) kk) ?_
          show OGo p e below (T60.setTop (mkF m 63 #[.val (.int n), .val (.int c0_), .val (.int c1_), .val (.int c2_), .val (.int c3_), .val (.int c4_), .val (.int c5_), .val (.int c6_)] [(.int (0 : Int32)), (.ref b), (.ref b), (.ref x), (.ref x)])) (OEndW s Z consts_1 (fun v h L => ∃ x : Addr, v = some (.ref x) ∧ Fr n0 L ∧ Ext h0 h ∧ OStr Z h x (own_mk n c0_ c1_ c2_ c3_ c4_ c5_ c6_)) ({ frames := 4, cells := 6, slots := 18, locals := 66 } : Room).cells ({ frames := 4, cells := 6, slots := 18, locals := 66 } : Room).slots)
          refine OGo.step (fun _ kk => XS.iloadN X60.here hx rfl (hb hby own_d_method_3_code_63) rfl kk) ?_
          show OGo p e below (T60.setTop (mkF m 64 #[.val (.int n), .val (.int c0_), .val (.int c1_), .val (.int c2_), .val (.int c3_), .val (.int c4_), .val (.int c5_), .val (.int c6_)] [(.int c0_), (.int (0 : Int32)), (.ref b), (.ref b), (.ref x), (.ref x)])) (OEndW s Z consts_1 (fun v h L => ∃ x : Addr, v = some (.ref x) ∧ Fr n0 L ∧ Ext h0 h ∧ OStr Z h x (own_mk n c0_ c1_ c2_ c3_ c4_ c5_ c6_)) ({ frames := 4, cells := 6, slots := 18, locals := 66 } : Room).cells ({ frames := 4, cells := 6, slots := 18, locals := 66 } : Room).slots)
          obtain ⟨cA64, A64, q64, S64, M64, H64, G64⟩ := Va63
          obtain ⟨T65, h65, X65, e65, W65, st65⟩ := stC X60 hx hZ e60 A64 (j := (0 : Int32)) (inb_of S64 ⟨by decide, by decide⟩) (g := (mkF m 64 #[.val (.int n), .val (.int c0_), .val (.int c1_), .val (.int c2_), .val (.int c3_), .val (.int c4_), .val (.int c5_), .val (.int c6_)] [(.int c0_), (.int (0 : Int32)), (.ref b), (.ref b), (.ref x), (.ref x)])) rfl rfl (hb hby own_d_method_3_code_64)
          refine OGo.step st65 ?_
          show OGo p e below (T65.setTop (mkF m 65 #[.val (.int n), .val (.int c0_), .val (.int c1_), .val (.int c2_), .val (.int c3_), .val (.int c4_), .val (.int c5_), .val (.int c6_)] [(.ref b), (.ref x), (.ref x)])) (OEndW s Z consts_1 (fun v h L => ∃ x : Addr, v = some (.ref x) ∧ Fr n0 L ∧ Ext h0 h ∧ OStr Z h x (own_mk n c0_ c1_ c2_ c3_ c4_ c5_ c6_)) ({ frames := 4, cells := 6, slots := 18, locals := 66 } : Room).cells ({ frames := 4, cells := 6, slots := 18, locals := 66 } : Room).slots)
          have Va64 : Arv Z h65 b k60 .char (3 : Int32) [(.int (nar .char c0_)), (.int (0 : Int32)), (.int (0 : Int32))] (.int (0 : Int32)) := Arv.set A64 q64 S64 M64 H64 G64 (fits_nar_char _) W65 0 rfl (Nat.le_of_ble_eq_true rfl)
          have Nf65 := Fr.snoc X65 (Fr.nil n0) gf_b
          have sz65 : n0 ≤ h65.size := by rw [W65.size]; exact sz60
          have sw66 := (Safe.arr (EL := consts_1) OW62.2.1.alike A64 (by decide))
          have sf67 := Safe.wr W65 sw66 OW62.chv sf61
          have OW68 := OW62.wr W65 sw66
          refine OGo.step (fun _ kk => XS.dup X65.here hx rfl (hb hby own_d_method_3_code_65) rfl rfl kk) ?_
          show OGo p e below (T65.setTop (mkF m 66 #[.val (.int n), .val (.int c0_), .val (.int c1_), .val (.int c2_), .val (.int c3_), .val (.int c4_), .val (.int c5_), .val (.int c6_)] [(.ref b), (.ref b), (.ref x), (.ref x)])) (OEndW s Z consts_1 (fun v h L => ∃ x : Addr, v = some (.ref x) ∧ Fr n0 L ∧ Ext h0 h ∧ OStr Z h x (own_mk n c0_ c1_ c2_ c3_ c4_ c5_ c6_)) ({ frames := 4, cells := 6, slots := 18, locals := 66 } : Room).cells ({ frames := 4, cells := 6, slots := 18, locals := 66 } : Room).slots)
          refine OGo.step (fun _ kk => XS.iconst X65.here hx rfl (hb hby own_d_method_3_code_66) kk) ?_
          show OGo p e below (T65.setTop (mkF m 67 #[.val (.int n), .val (.int c0_), .val (.int c1_), .val (.int c2_), .val (.int c3_), .val (.int c4_), .val (.int c5_), .val (.int c6_)] [(.int (1 : Int32)), (.ref b), (.ref b), (.ref x), (.ref x)])) (OEndW s Z consts_1 (fun v h L => ∃ x : Addr, v = some (.ref x) ∧ Fr n0 L ∧ Ext h0 h ∧ OStr Z h x (own_mk n c0_ c1_ c2_ c3_ c4_ c5_ c6_)) ({ frames := 4, cells := 6, slots := 18, locals := 66 } : Room).cells ({ frames := 4, cells := 6, slots := 18, locals := 66 } : Room).slots)
          refine OGo.step (fun _ kk => XS.iloadN X65.here hx rfl (hb hby own_d_method_3_code_67) rfl kk) ?_
          show OGo p e below (T65.setTop (mkF m 68 #[.val (.int n), .val (.int c0_), .val (.int c1_), .val (.int c2_), .val (.int c3_), .val (.int c4_), .val (.int c5_), .val (.int c6_)] [(.int c1_), (.int (1 : Int32)), (.ref b), (.ref b), (.ref x), (.ref x)])) (OEndW s Z consts_1 (fun v h L => ∃ x : Addr, v = some (.ref x) ∧ Fr n0 L ∧ Ext h0 h ∧ OStr Z h x (own_mk n c0_ c1_ c2_ c3_ c4_ c5_ c6_)) ({ frames := 4, cells := 6, slots := 18, locals := 66 } : Room).cells ({ frames := 4, cells := 6, slots := 18, locals := 66 } : Room).slots)
          obtain ⟨cA69, A69, q69, S69, M69, H69, G69⟩ := Va64
          obtain ⟨T70, h70, X70, e70, W70, st70⟩ := stC X65 hx hZ e65 A69 (j := (1 : Int32)) (inb_of S69 ⟨by decide, by decide⟩) (g := (mkF m 68 #[.val (.int n), .val (.int c0_), .val (.int c1_), .val (.int c2_), .val (.int c3_), .val (.int c4_), .val (.int c5_), .val (.int c6_)] [(.int c1_), (.int (1 : Int32)), (.ref b), (.ref b), (.ref x), (.ref x)])) rfl rfl (hb hby own_d_method_3_code_68)
          refine OGo.step st70 ?_
          show OGo p e below (T70.setTop (mkF m 69 #[.val (.int n), .val (.int c0_), .val (.int c1_), .val (.int c2_), .val (.int c3_), .val (.int c4_), .val (.int c5_), .val (.int c6_)] [(.ref b), (.ref x), (.ref x)])) (OEndW s Z consts_1 (fun v h L => ∃ x : Addr, v = some (.ref x) ∧ Fr n0 L ∧ Ext h0 h ∧ OStr Z h x (own_mk n c0_ c1_ c2_ c3_ c4_ c5_ c6_)) ({ frames := 4, cells := 6, slots := 18, locals := 66 } : Room).cells ({ frames := 4, cells := 6, slots := 18, locals := 66 } : Room).slots)
          have Va69 : Arv Z h70 b k60 .char (3 : Int32) [(.int (nar .char c0_)), (.int (nar .char c1_)), (.int (0 : Int32))] (.int (0 : Int32)) := Arv.set A69 q69 S69 M69 H69 G69 (fits_nar_char _) W70 1 rfl (Nat.le_of_ble_eq_true rfl)
          have Nf70 := Fr.snoc X70 Nf65 gf_b
          have sz70 : n0 ≤ h70.size := by rw [W70.size]; exact sz65
          have sw71 := (Safe.arr (EL := consts_1) OW68.2.1.alike A69 (by decide))
          have sf72 := Safe.wr W70 sw71 OW68.chv sf67
          have OW73 := OW68.wr W70 sw71
          refine OGo.step (fun _ kk => XS.dup X70.here hx rfl (hb hby own_d_method_3_code_69) rfl rfl kk) ?_
          show OGo p e below (T70.setTop (mkF m 70 #[.val (.int n), .val (.int c0_), .val (.int c1_), .val (.int c2_), .val (.int c3_), .val (.int c4_), .val (.int c5_), .val (.int c6_)] [(.ref b), (.ref b), (.ref x), (.ref x)])) (OEndW s Z consts_1 (fun v h L => ∃ x : Addr, v = some (.ref x) ∧ Fr n0 L ∧ Ext h0 h ∧ OStr Z h x (own_mk n c0_ c1_ c2_ c3_ c4_ c5_ c6_)) ({ frames := 4, cells := 6, slots := 18, locals := 66 } : Room).cells ({ frames := 4, cells := 6, slots := 18, locals := 66 } : Room).slots)
          refine OGo.step (fun _ kk => XS.iconst X70.here hx rfl (hb hby own_d_method_3_code_70) kk) ?_
          show OGo p e below (T70.setTop (mkF m 71 #[.val (.int n), .val (.int c0_), .val (.int c1_), .val (.int c2_), .val (.int c3_), .val (.int c4_), .val (.int c5_), .val (.int c6_)] [(.int (2 : Int32)), (.ref b), (.ref b), (.ref x), (.ref x)])) (OEndW s Z consts_1 (fun v h L => ∃ x : Addr, v = some (.ref x) ∧ Fr n0 L ∧ Ext h0 h ∧ OStr Z h x (own_mk n c0_ c1_ c2_ c3_ c4_ c5_ c6_)) ({ frames := 4, cells := 6, slots := 18, locals := 66 } : Room).cells ({ frames := 4, cells := 6, slots := 18, locals := 66 } : Room).slots)
          refine OGo.step (fun _ kk => XS.iloadN X70.here hx rfl (hb hby own_d_method_3_code_71) rfl kk) ?_
          show OGo p e below (T70.setTop (mkF m 72 #[.val (.int n), .val (.int c0_), .val (.int c1_), .val (.int c2_), .val (.int c3_), .val (.int c4_), .val (.int c5_), .val (.int c6_)] [(.int c2_), (.int (2 : Int32)), (.ref b), (.ref b), (.ref x), (.ref x)])) (OEndW s Z consts_1 (fun v h L => ∃ x : Addr, v = some (.ref x) ∧ Fr n0 L ∧ Ext h0 h ∧ OStr Z h x (own_mk n c0_ c1_ c2_ c3_ c4_ c5_ c6_)) ({ frames := 4, cells := 6, slots := 18, locals := 66 } : Room).cells ({ frames := 4, cells := 6, slots := 18, locals := 66 } : Room).slots)
          obtain ⟨cA74, A74, q74, S74, M74, H74, G74⟩ := Va69
          obtain ⟨T75, h75, X75, e75, W75, st75⟩ := stC X70 hx hZ e70 A74 (j := (2 : Int32)) (inb_of S74 ⟨by decide, by decide⟩) (g := (mkF m 72 #[.val (.int n), .val (.int c0_), .val (.int c1_), .val (.int c2_), .val (.int c3_), .val (.int c4_), .val (.int c5_), .val (.int c6_)] [(.int c2_), (.int (2 : Int32)), (.ref b), (.ref b), (.ref x), (.ref x)])) rfl rfl (hb hby own_d_method_3_code_72)
          refine OGo.step st75 ?_
          show OGo p e below (T75.setTop (mkF m 73 #[.val (.int n), .val (.int c0_), .val (.int c1_), .val (.int c2_), .val (.int c3_), .val (.int c4_), .val (.int c5_), .val (.int c6_)] [(.ref b), (.ref x), (.ref x)])) (OEndW s Z consts_1 (fun v h L => ∃ x : Addr, v = some (.ref x) ∧ Fr n0 L ∧ Ext h0 h ∧ OStr Z h x (own_mk n c0_ c1_ c2_ c3_ c4_ c5_ c6_)) ({ frames := 4, cells := 6, slots := 18, locals := 66 } : Room).cells ({ frames := 4, cells := 6, slots := 18, locals := 66 } : Room).slots)
          have Va74 : Arv Z h75 b k60 .char (3 : Int32) [(.int (nar .char c0_)), (.int (nar .char c1_)), (.int (nar .char c2_))] (.int (0 : Int32)) := Arv.set A74 q74 S74 M74 H74 G74 (fits_nar_char _) W75 2 rfl (Nat.le_of_ble_eq_true rfl)
          have Nf75 := Fr.snoc X75 Nf70 gf_b
          have sz75 : n0 ≤ h75.size := by rw [W75.size]; exact sz70
          have sw76 := (Safe.arr (EL := consts_1) OW73.2.1.alike A74 (by decide))
          have sf77 := Safe.wr W75 sw76 OW73.chv sf72
          have OW78 := OW73.wr W75 sw76
          have fc79 := ((((A57.ext E60).wr W65).wr W70).wr W75)
          have fc80 := ((((F57_value.ext E60).other W65 (Or.inl ne_x_b)).other W70 (Or.inl ne_x_b)).other W75 (Or.inl ne_x_b))
          have fc81 := ((((F57_coder.ext E60).other W65 (Or.inl ne_x_b)).other W70 (Or.inl ne_x_b)).other W75 (Or.inl ne_x_b))
          have hpx : ∀ c ∈ ([(nar .char c0_), (nar .char c1_), (nar .char c2_)] : List Int32), ¬ c < 0 ∧ ¬ (255 : Int32) < c := (own_allS (own_nc hb0) (own_allS (own_nc hb1) (own_allS (own_nc hb2) own_all0)))
          have xt82 := (own_ext_trans E57 E60)
          have xt83 := (own_ext_wr xt82 W65 (Nat.le_trans E57.1 (Nat.le_of_eq g60.symm)))
          have xt84 := (own_ext_wr xt83 W70 (Nat.le_trans E57.1 (Nat.le_of_eq g60.symm)))
          have xt85 := (own_ext_wr xt84 W75 (Nat.le_trans E57.1 (Nat.le_of_eq g60.symm)))
          have fx86 := SC.ext xt85
          refine own_specialK X75 hx hZ (y := (⟨"java/lang/String", "<init>", "([C)V"⟩ : MethodName)) rfl hown (hw _ (List.mem_of_getElem? (i := 43) rfl)) (hw _ (List.mem_of_getElem? (i := 44) rfl)) (hw _ (List.mem_of_getElem? (i := 45) rfl)) (by decide) (a := x) (W := 1) (StrChars.Road.backV (W := 1) hZ (fun d hd => hw d ((by decide +kernel : ∀ d ∈ StrChars.Road.words, d ∈ tables_1) d hd)) (kI := 4) (hw _ (List.mem_of_getElem? (i := 7) rfl)) (cs := ([(nar .char c0_), (nar .char c1_), (nar .char c2_)] : List Int32)) (bs := (([(nar .char c0_), (nar .char c1_), (nar .char c2_)] : List Int32)).map (fun c => c.toInt8.toInt32)) (n := 3) gf_x sz75 fc79 fc80 fc81 Va74 fx86 hzc rfl rfl (by decide) (by decide) hpx rfl (by decide) (by decide)) e75 (pc := 73) (Ls := #[.val (.int n), .val (.int c0_), .val (.int c1_), .val (.int c2_), .val (.int c3_), .val (.int c4_), .val (.int c5_), .val (.int c6_)]) (argsL := [(.ref b)]) (rest := [(.ref x)]) (by rw [hml]; rfl) (lenOf own_pd1 rfl) rfl (hb hby own_d_method_3_code_73) (by decide) (by decide) ?_
          intro v87 T87 L87 X87 hQ87
          obtain ⟨rfl, N87, K87, Ex87, Fc87, t87, kb87, u187, u287, u387, Fv87, Av87⟩ := hQ87
          show OGo p e below (T87.setTop (mkF m 76 #[.val (.int n), .val (.int c0_), .val (.int c1_), .val (.int c2_), .val (.int c3_), .val (.int c4_), .val (.int c5_), .val (.int c6_)] [(.ref x)])) (OEndW s Z consts_1 (fun v h L => ∃ x : Addr, v = some (.ref x) ∧ Fr n0 L ∧ Ext h0 h ∧ OStr Z h x (own_mk n c0_ c1_ c2_ c3_ c4_ c5_ c6_)) ({ frames := 4, cells := 6, slots := 18, locals := 66 } : Room).cells ({ frames := 4, cells := 6, slots := 18, locals := 66 } : Room).slots)
          have Nc87 := Fr.app Nf75 N87
          have sz87 : n0 ≤ T87.heap.size := Nat.le_trans sz75 K87.1
          have sf88 := Safe.keep K87 (sfS sf77 sf0) OW78.chv sf77
          have OW89 := OW78.keep K87 (sfS sf77 sf0)
          have O87 : OStr Z T87.heap x ([(nar .char c0_), (nar .char c1_), (nar .char c2_)] : List Int32) := ⟨t87, kb87, 0, (3 : Int32), _, Ex87, Fv87, Fc87, Av87, StrChars.Road.codOf (n := 3) rfl (fun c hc => (hpx c hc).2), own_up _ hpx, Nat.le_of_ble_eq_true rfl⟩
          have xt90 := (own_ext_keep xt85 K87 (allS (Nat.le_of_eq g57.symm) all0))
          have HO : OStr Z T87.heap x [c0_, c1_, c2_] := by simpa only [own_narC hb0, own_narC hb1, own_narC hb2] using O87
          exact own_retW X87 hx hlk hEL OW89 rfl hret rfl (Or.inr (Or.inr (Or.inr (Or.inr ⟨rfl, rfl, rfl⟩)))) (hb hby own_d_method_3_code_76) ⟨x, rfl, Nc87, xt90, by rw [own_mk, if_neg hn0, if_neg hn1, if_neg hn2, if_pos hn3]; exact HO⟩ (by decide) (by decide)
        · refine OGo.step (fun _ kk => XS.icmpYes X0.here hx rfl (pc0 := 51) (pc' := 77) rfl (hb hby own_d_method_3_code_51) rfl (feq hn3).2 (by decide) (by decide) kk) ?_
          show OGo p e below (s₁.setTop (mkF m 77 #[.val (.int n), .val (.int c0_), .val (.int c1_), .val (.int c2_), .val (.int c3_), .val (.int c4_), .val (.int c5_), .val (.int c6_)] [])) (OEndW s Z consts_1 (fun v h L => ∃ x : Addr, v = some (.ref x) ∧ Fr n0 L ∧ Ext h0 h ∧ OStr Z h x (own_mk n c0_ c1_ c2_ c3_ c4_ c5_ c6_)) ({ frames := 4, cells := 6, slots := 18, locals := 66 } : Room).cells ({ frames := 4, cells := 6, slots := 18, locals := 66 } : Room).slots)
          refine OGo.step (fun _ kk => XS.iloadN X0.here hx rfl (hb hby own_d_method_3_code_77) rfl kk) ?_
          show OGo p e below (s₁.setTop (mkF m 78 #[.val (.int n), .val (.int c0_), .val (.int c1_), .val (.int c2_), .val (.int c3_), .val (.int c4_), .val (.int c5_), .val (.int c6_)] [(.int n)])) (OEndW s Z consts_1 (fun v h L => ∃ x : Addr, v = some (.ref x) ∧ Fr n0 L ∧ Ext h0 h ∧ OStr Z h x (own_mk n c0_ c1_ c2_ c3_ c4_ c5_ c6_)) ({ frames := 4, cells := 6, slots := 18, locals := 66 } : Room).cells ({ frames := 4, cells := 6, slots := 18, locals := 66 } : Room).slots)
          refine OGo.step (fun _ kk => XS.iconst X0.here hx rfl (hb hby own_d_method_3_code_78) kk) ?_
          show OGo p e below (s₁.setTop (mkF m 79 #[.val (.int n), .val (.int c0_), .val (.int c1_), .val (.int c2_), .val (.int c3_), .val (.int c4_), .val (.int c5_), .val (.int c6_)] [(.int (4 : Int32)), (.int n)])) (OEndW s Z consts_1 (fun v h L => ∃ x : Addr, v = some (.ref x) ∧ Fr n0 L ∧ Ext h0 h ∧ OStr Z h x (own_mk n c0_ c1_ c2_ c3_ c4_ c5_ c6_)) ({ frames := 4, cells := 6, slots := 18, locals := 66 } : Room).cells ({ frames := 4, cells := 6, slots := 18, locals := 66 } : Room).slots)
          by_cases hn4 : n = (4 : Int32)
          · refine OGo.step (fun _ kk => XS.icmpNo X0.here hx rfl (hb hby own_d_method_3_code_79) rfl (teq hn4).2 kk) ?_
            show OGo p e below (s₁.setTop (mkF m 82 #[.val (.int n), .val (.int c0_), .val (.int c1_), .val (.int c2_), .val (.int c3_), .val (.int c4_), .val (.int c5_), .val (.int c6_)] [])) (OEndW s Z consts_1 (fun v h L => ∃ x : Addr, v = some (.ref x) ∧ Fr n0 L ∧ Ext h0 h ∧ OStr Z h x (own_mk n c0_ c1_ c2_ c3_ c4_ c5_ c6_)) ({ frames := 4, cells := 6, slots := 18, locals := 66 } : Room).cells ({ frames := 4, cells := 6, slots := 18, locals := 66 } : Room).slots)
            obtain ⟨T91, h91, X91, e91, E91, A91, D91, U91, st91⟩ := newO X0 hx hZ hown (hw _ (List.mem_of_getElem? (i := 41) rfl)) (hw _ (List.mem_of_getElem? (i := 7) rfl)) (hw _ (List.mem_of_getElem? (i := 6) rfl)) e0 (g := (mkF m 82 #[.val (.int n), .val (.int c0_), .val (.int c1_), .val (.int c2_), .val (.int c3_), .val (.int c4_), .val (.int c5_), .val (.int c6_)] [])) rfl (hb hby own_d_method_3_code_82) (by decide) (by decide)
            obtain ⟨x, g91⟩ : ∃ z, z = h0.size := ⟨_, rfl⟩
            rw [← g91] at A91 D91 U91 st91
            refine OGo.step st91 ?_
            show OGo p e below (T91.setTop (mkF m 85 #[.val (.int n), .val (.int c0_), .val (.int c1_), .val (.int c2_), .val (.int c3_), .val (.int c4_), .val (.int c5_), .val (.int c6_)] [(.ref x)])) (OEndW s Z consts_1 (fun v h L => ∃ x : Addr, v = some (.ref x) ∧ Fr n0 L ∧ Ext h0 h ∧ OStr Z h x (own_mk n c0_ c1_ c2_ c3_ c4_ c5_ c6_)) ({ frames := 4, cells := 6, slots := 18, locals := 66 } : Room).cells ({ frames := 4, cells := 6, slots := 18, locals := 66 } : Room).slots)
            have gf_x : n0 ≤ x := Nat.le_trans Z0 (Nat.le_of_eq g91.symm)
            have sz91 : n0 ≤ h91.size := Nat.le_trans Z0 E91.1
            have OW92 := OW0.ext E91
            have F91_value : Fld Z h91 x "java/lang/String" "value" "[B" .null := D91 (Or.inr (hw _ (List.mem_of_getElem? (i := 9) rfl))) (ty := (.array .byte)) (by decide)
            have F91_coder : Fld Z h91 x "java/lang/String" "coder" "B" (.int (0 : Int32)) := D91 (Or.inr (hw _ (List.mem_of_getElem? (i := 10) rfl))) (ty := .byte) (by decide)
            have sf93 := own_safe_null (EL := consts_1) OW92.2.1.alike A91 F91_value
            refine OGo.step (fun _ kk => XS.dup X91.here hx rfl (hb hby own_d_method_3_code_85) rfl rfl kk) ?_
            show OGo p e below (T91.setTop (mkF m 86 #[.val (.int n), .val (.int c0_), .val (.int c1_), .val (.int c2_), .val (.int c3_), .val (.int c4_), .val (.int c5_), .val (.int c6_)] [(.ref x), (.ref x)])) (OEndW s Z consts_1 (fun v h L => ∃ x : Addr, v = some (.ref x) ∧ Fr n0 L ∧ Ext h0 h ∧ OStr Z h x (own_mk n c0_ c1_ c2_ c3_ c4_ c5_ c6_)) ({ frames := 4, cells := 6, slots := 18, locals := 66 } : Room).cells ({ frames := 4, cells := 6, slots := 18, locals := 66 } : Room).slots)
            refine OGo.step (fun _ kk => XS.iconst X91.here hx rfl (hb hby own_d_method_3_code_86) kk) ?_
            show OGo p e below (T91.setTop (mkF m 87 #[.val (.int n), .val (.int c0_), .val (.int c1_), .val (.int c2_), .val (.int c3_), .val (.int c4_), .val (.int c5_), .val (.int c6_)] [(.int (4 : Int32)), (.ref x), (.ref x)])) (OEndW s Z consts_1 (fun v h L => ∃ x : Addr, v = some (.ref x) ∧ Fr n0 L ∧ Ext h0 h ∧ OStr Z h x (own_mk n c0_ c1_ c2_ c3_ c4_ c5_ c6_)) ({ frames := 4, cells := 6, slots := 18, locals := 66 } : Room).cells ({ frames := 4, cells := 6, slots := 18, locals := 66 } : Room).slots)
            obtain ⟨T94, h94, k94, X94, e94, E94, A94, st94⟩ := newP X91 hx hZ (hw _ (List.mem_of_getElem? (i := 42) rfl)) e91 (g := (mkF m 87 #[.val (.int n), .val (.int c0_), .val (.int c1_), .val (.int c2_), .val (.int c3_), .val (.int c4_), .val (.int c5_), .val (.int c6_)] [(.int (4 : Int32)), (.ref x), (.ref x)])) rfl (hb hby own_d_method_3_code_87) rfl (by decide) (cap := 4) (by decide) (by decide) (by decide) (by decide)
            obtain ⟨b, g94⟩ : ∃ z, z = h91.size := ⟨_, rfl⟩
            rw [← g94] at A94 st94
            refine OGo.step st94 ?_
            show OGo p e below (T94.setTop (mkF m 89 #[.val (.int n), .val (.int c0_), .val (.int c1_), .val (.int c2_), .val (.int c3_), .val (.int c4_), .val (.int c5_), .val (.int c6_)] [(.ref b), (.ref x), (.ref x)])) (OEndW s Z consts_1 (fun v h L => ∃ x : Addr, v = some (.ref x) ∧ Fr n0 L ∧ Ext h0 h ∧ OStr Z h x (own_mk n c0_ c1_ c2_ c3_ c4_ c5_ c6_)) ({ frames := 4, cells := 6, slots := 18, locals := 66 } : Room).cells ({ frames := 4, cells := 6, slots := 18, locals := 66 } : Room).slots)
            have ne_x_b : x ≠ b := Nat.ne_of_lt (Nat.lt_of_lt_of_le A91.lt (Nat.le_of_eq g94.symm))
            have gf_b : n0 ≤ b := Nat.le_trans sz91 (Nat.le_of_eq g94.symm)
            have sz94 : n0 ≤ h94.size := Nat.le_trans sz91 E94.1
            have sf95 := Safe.ext E94 OW92.chv sf93
            have OW96 := OW92.ext E94
            have Va97 : Arv Z h94 b k94 .char (4 : Int32) [(.int (0 : Int32)), (.int (0 : Int32)), (.int (0 : Int32)), (.int (0 : Int32))] (.int (0 : Int32)) := (Arv.new A94 (by decide)).pad (pad_rep [] (.int (0 : Int32)) 4)
            refine OGo.step (fun _ kk => XS.dup X94.here hx rfl (hb hby own_d_method_3_code_89) rfl rfl kk) ?_
            show OGo p e below (T94.setTop (mkF m 90 #[.val (.int n), .val (.int c0_), .val (.int c1_), .val (.int c2_), .val (.int c3_), .val (.int c4_), .val (.int c5_), .val (.int c6_)] [(.ref b), (.ref b), (.ref x), (.ref x)])) (OEndW s Z consts_1 (fun v h L => ∃ x : Addr, v = some (.ref x) ∧ Fr n0 L ∧ Ext h0 h ∧ OStr Z h x (own_mk n c0_ c1_ c2_ c3_ c4_ c5_ c6_)) ({ frames := 4, cells := 6, slots := 18, locals := 66 } : Room).cells ({ frames := 4, cells := 6, slots := 18, locals := 66 } : Room).slots)
            refine OGo.step (fun _ kk => XS.iconst X94.here hx rfl (hb hby own_d_method_3_code_90) kk) ?_
            show OGo p e below (T94.setTop (mkF m 91 #[.val (.int n), .val (.int c0_), .val (.int c1_), .val (.int c2_), .val (.int c3_), .val (.int c4_), .val (.int c5_), .val (.int c6_)] [(.int (0 : Int32)), (.ref b), (.ref b), (.ref x), (.ref x)])) (OEndW s Z consts_1 (fun v h L => ∃ x : Addr, v = some (.ref x) ∧ Fr n0 L ∧ Ext h0 h ∧ OStr Z h x (own_mk n c0_ c1_ c2_ c3_ c4_ c5_ c6_)) ({ frames := 4, cells := 6, slots := 18, locals := 66 } : Room).cells ({ frames := 4, cells := 6, slots := 18, locals := 66 } : Room).slots)
            refine OGo.step (fun _ kk => XS.iloadN X94.here hx rfl (hb hby own_d_method_3_code_91) rfl kk) ?_
            show OGo p e below (T94.setTop (mkF m 92 #[.val (.int n), .val (.int c0_), .val (.int c1_), .val (.int c2_), .val (.int c3_), .val (.int c4_), .val (.int c5_), .val (.int c6_)] [(.int c0_), (.int (0 : Int32)), (.ref b), (.ref b), (.ref x), (.ref x)])) (OEndW s Z consts_1 (fun v h L => ∃ x : Addr, v = some (.ref x) ∧ Fr n0 L ∧ Ext h0 h ∧ OStr Z h x (own_mk n c0_ c1_ c2_ c3_ c4_ c5_ c6_)) ({ frames := 4, cells := 6, slots := 18, locals := 66 } : Room).cells ({ frames := 4, cells := 6, slots := 18, locals := 66 } : Room).slots)
            obtain ⟨cA98, A98, q98, S98, M98, H98, G98⟩ := Va97
            obtain ⟨T99, h99, X99, e99, W99, st99⟩ := stC X94 hx hZ e94 A98 (j := (0 : Int32)) (inb_of S98 ⟨by decide, by decide⟩) (g := (mkF m 92 #[.val (.int n), .val (.int c0_), .val (.int c1_), .val (.int c2_), .val (.int c3_), .val (.int c4_), .val (.int c5_), .val (.int c6_)] [(.int c0_), (.int (0 : Int32)), (.ref b), (.ref b), (.ref x), (.ref x)])) rfl rfl (hb hby own_d_method_3_code_92)
            refine OGo.step st99 ?_
            show OGo p e below (T99.setTop (mkF m 93 #[.val (.int n), .val (.int c0_), .val (.int c1_), .val (.int c2_), .val (.int c3_), .val (.int c4_), .val (.int c5_), .val (.int c6_)] [(.ref b), (.ref x), (.ref x)])) (OEndW s Z consts_1 (fun v h L => ∃ x : Addr, v = some (.ref x) ∧ Fr n0 L ∧ Ext h0 h ∧ OStr Z h x (own_mk n c0_ c1_ c2_ c3_ c4_ c5_ c6_)) ({ frames := 4, cells := 6, slots := 18, locals := 66 } : Room).cells ({ frames := 4, cells := 6, slots := 18, locals := 66 } : Room).slots)
            have Va98 : Arv Z h99 b k94 .char (4 : Int32) [(.int (nar .char c0_)), (.int (0 : Int32)), (.int (0 : Int32)), (.int (0 : Int32))] (.int (0 : Int32)) := Arv.set A98 q98 S98 M98 H98 G98 (fits_nar_char _) W99 0 rfl (Nat.le_of_ble_eq_true rfl)
            have Nf99 := Fr.snoc X99 (Fr.nil n0) gf_b
            have sz99 : n0 ≤ h99.size := by rw [W99.size]; exact sz94
            have sw100 := (Safe.arr (EL := consts_1) OW96.2.1.alike A98 (by decide))
            have sf101 := Safe.wr W99 sw100 OW96.chv sf95
            have OW102 := OW96.wr W99 sw100
            refine OGo.step (fun _ kk => XS.dup X99.here hx rfl (hb hby own_d_method_3_code_93) rfl rfl kk) ?_
            show OGo p e below (T99.setTop (mkF m 94 #[.val (.int n), .val (.int c0_), .val (.int c1_), .val (.int c2_), .val (.int c3_), .val (.int c4_), .val (.int c5_), .val (.int c6_)] [(.ref b), (.ref b), (.ref x), (.ref x)])) (OEndW s Z consts_1 (fun v h L => ∃ x : Addr, v = some (.ref x) ∧ Fr n0 L ∧ Ext h0 h ∧ OStr Z h x (own_mk n c0_ c1_ c2_ c3_ c4_ c5_ c6_)) ({ frames := 4, cells := 6, slots := 18, locals := 66 } : Room).cells ({ frames := 4, cells := 6, slots := 18, locals := 66 } : Room).slots)
            refine OGo.step (fun _ kk => XS.iconst X99.here hx rfl (hb hby own_d_method_3_code_94) kk) ?_
            show OGo p e below (T99.setTop (mkF m 95 #[.val (.int n), .val (.int c0_), .val (.int c1_), .val (.int c2_), .val (.int c3_), .val (.int c4_), .val (.int c5_), .val (.int c6_)] [(.int (1 : Int32)), (.ref b), (.ref b), (.ref x), (.ref x)])) (OEndW s Z consts_1 (fun v h L => ∃ x : Addr, v = some (.ref x) ∧ Fr n0 L ∧ Ext h0 h ∧ OStr Z h x (own_mk n c0_ c1_ c2_ c3_ c4_ c5_ c6_)) ({ frames := 4, cells := 6, slots := 18, locals := 66 } : Room).cells ({ frames := 4, cells := 6, slots := 18, locals := 66 } : Room).slots)
            refine OGo.step (fun _ kk => XS.iloadN X99.here hx rfl (hb hby own_d_method_3_code_95) rfl kk) ?_
            show OGo p e below (T99.setTop (mkF m 96 #[.val (.int n), .val (.int c0_), .val (.int c1_), .val (.int c2_), .val (.int c3_), .val (.int c4_), .val (.int c5_), .val (.int c6_)] [(.int c1_), (.int (1 : Int32)), (.ref b), (.ref b), (.ref x), (.ref x)])) (OEndW s Z consts_1 (fun v h L => ∃ x : Addr, v = some (.ref x) ∧ Fr n0 L ∧ Ext h0 h ∧ OStr Z h x (own_mk n c0_ c1_ c2_ c3_ c4_ c5_ c6_)) ({ frames := 4, cells := 6, slots := 18, locals := 66 } : Room).cells ({ frames := 4, cells := 6, slots := 18, locals := 66 } : Room).slots)
            obtain ⟨cA103, A103, q103, S103, M103, H103, G103⟩ := Va98
            obtain ⟨T104, h104, X104, e104, W104, st104⟩ := stC X99 hx hZ e99 A103 (j := (1 : Int32)) (inb_of S103 ⟨by decide, by decide⟩) (g := (mkF m 96 #[.val (.int n), .val (.int c0_), .val (.int c1_), .val (.int c2_), .val (.int c3_), .val (.int c4_), .val (.int c5_), .val (.int c6_)] [(.int c1_), (.int (1 : Int32)), (.ref b), (.ref b), (.ref x), (.ref x)])) rfl rfl (hb hby own_d_method_3_code_96)
            refine OGo.step st104 ?_
            show OGo p e below (T104.setTop (mkF m 97 #[.val (.int n), .val (.int c0_), .val (.int c1_), .val (.int c2_), .val (.int c3_), .val (.int c4_), .val (.int c5_), .val (.int c6_)] [(.ref b), (.ref x), (.ref x)])) (OEndW s Z consts_1 (fun v h L => ∃ x : Addr, v = some (.ref x) ∧ Fr n0 L ∧ Ext h0 h ∧ OStr Z h x (own_mk n c0_ c1_ c2_ c3_ c4_ c5_ c6_)) ({ frames := 4, cells := 6, slots := 18, locals := 66 } : Room).cells ({ frames := 4, cells := 6, slots := 18, locals := 66 } : Room).slots)
            have Va103 : Arv Z h104 b k94 .char (4 : Int32) [(.int (nar .char c0_)), (.int (nar .char c1_)), (.int (0 : Int32)), (.int (0 : Int32))] (.int (0 : Int32)) := Arv.set A103 q103 S103 M103 H103 G103 (fits_nar_char _) W104 1 rfl (Nat.le_of_ble_eq_true rfl)
            have Nf104 := Fr.snoc X104 Nf99 gf_b
            have sz104 : n0 ≤ h104.size := by rw [W104.size]; exact sz99
            have sw105 := (Safe.arr (EL := consts_1) OW102.2.1.alike A103 (by decide))
            have sf106 := Safe.wr W104 sw105 OW102.chv sf101
            have OW107 := OW102.wr W104 sw105
            refine OGo.step (fun _ kk => XS.dup X104.here hx rfl (hb hby own_d_method_3_code_97) rfl rfl kk) ?_
            show OGo p e below (T104.setTop (mkF m 98 #[.val (.int n), .val (.int c0_), .val (.int c1_), .val (.int c2_), .val (.int c3_), .val (.int c4_), .val (.int c5_), .val (.int c6_)] [(.ref b), (.ref b), (.ref x), (.ref x)])) (OEndW s Z consts_1 (fun v h L => ∃ x : Addr, v = some (.ref x) ∧ Fr n0 L ∧ Ext h0 h ∧ OStr Z h x (own_mk n c0_ c1_ c2_ c3_ c4_ c5_ c6_)) ({ frames := 4, cells := 6, slots := 18, locals := 66 } : Room).cells ({ frames := 4, cells := 6, slots := 18, locals := 66 } : Room).slots)
            refine OGo.step (fun _ kk => XS.iconst X104.here hx rfl (hb hby own_d_method_3_code_98) kk) ?_
            show OGo p e below (T104.setTop (mkF m 99 #[.val (.int n), .val (.int c0_), .val (.int c1_), .val (.int c2_), .val (.int c3_), .val (.int c4_), .val (.int c5_), .val (.int c6_)] [(.int (2 : Int32)), (.ref b), (.ref b), (.ref x), (.ref x)])) (OEndW s Z consts_1 (fun v h L => ∃ x : Addr, v = some (.ref x) ∧ Fr n0 L ∧ Ext h0 h ∧ OStr Z h x (own_mk n c0_ c1_ c2_ c3_ c4_ c5_ c6_)) ({ frames := 4, cells := 6, slots := 18, locals := 66 } : Room).cells ({ frames := 4, cells := 6, slots := 18, locals := 66 } : Room).slots)
            refine OGo.step (fun _ kk => XS.iloadN X104.here hx rfl (hb hby own_d_method_3_code_99) rfl kk) ?_
            show OGo p e below (T104.setTop (mkF m 100 #[.val (.int n), .val (.int c0_), .val (.int c1_), .val (.int c2_), .val (.int c3_), .val (.int c4_), .val (.int c5_), .val (.int c6_)] [(.int c2_), (.int (2 : Int32)), (.ref b), (.ref b), (.ref x), (.ref x)])) (OEndW s Z consts_1 (fun v h L => ∃ x : Addr, v = some (.ref x) ∧ Fr n0 L ∧ Ext h0 h ∧ OStr Z h x (own_mk n c0_ c1_ c2_ c3_ c4_ c5_ c6_)) ({ frames := 4, cells := 6, slots := 18, locals := 66 } : Room).cells ({ frames := 4, cells := 6, slots := 18, locals := 66 } : Room).slots)
            obtain ⟨cA108, A108, q108, S108, M108, H108, G108⟩ := Va103
            obtain ⟨T109, h109, X109, e109, W109, st109⟩ := stC X104 hx hZ e104 A108 (j := (2 : Int32)) (inb_of S108 ⟨by decide, by decide⟩) (g := (mkF m 100 #[.val (.int n), .val (.int c0_), .val (.int c1_), .val (.int c2_), .val (.int c3_), .val (.int c4_), .val (.int c5_), .val (.int c6_)] [(.int c2_), (.int (2 : Int32)), (.ref b), (.ref b), (.ref x), (.ref x)])) rfl rfl (hb hby own_d_method_3_code_100)
            refine OGo.step st109 ?_
            show OGo p e below (T109.setTop (mkF m 101 #[.val (.int n), .val (.int c0_), .val (.int c1_), .val (.int c2_), .val (.int c3_), .val (.int c4_), .val (.int c5_), .val (.int c6_)] [(.ref b), (.ref x), (.ref x)])) (OEndW s Z consts_1 (fun v h L => ∃ x : Addr, v = some (.ref x) ∧ Fr n0 L ∧ Ext h0 h ∧ OStr Z h x (own_mk n c0_ c1_ c2_ c3_ c4_ c5_ c6_)) ({ frames := 4, cells := 6, slots := 18, locals := 66 } : Room).cells ({ frames := 4, cells := 6, slots := 18, locals := 66 } : Room).slots)
            have Va108 : Arv Z h109 b k94 .char (4 : Int32) [(.int (nar .char c0_)), (.int (nar .char c1_)), (.int (nar .char c2_)), (.int (0 : Int32))] (.int (0 : Int32)) := Arv.set A108 q108 S108 M108 H108 G108 (fits_nar_char _) W109 2 rfl (Nat.le_of_ble_eq_true rfl)
            have Nf109 := Fr.snoc X109 Nf104 gf_b
            have sz109 : n0 ≤ h109.size := by rw [W109.size]; exact sz104
            have sw110 := (Safe.arr (EL := consts_1) OW107.2.1.alike A108 (by decide))
            have sf111 := Safe.wr W109 sw110 OW107.chv sf106
            have OW112 := OW107.wr W109 sw110
            refine OGo.step (fun _ kk => XS.dup X109.here hx rfl (hb hby own_d_method_3_code_101) rfl rfl kk) ?_
            show OGo p e below (T109.setTop (mkF m 102 #[.val (.int n), .val (.int c0_), .val (.int c1_), .val (.int c2_), .val (.int c3_), .val (.int c4_), .val (.int c5_), .val (.int c6_)] [(.ref b), (.ref b), (.ref x), (.ref x)])) (OEndW s Z consts_1 (fun v h L => ∃ x : Addr, v = some (.ref x) ∧ Fr n0 L ∧ Ext h0 h ∧ OStr Z h x (own_mk n c0_ c1_ c2_ c3_ c4_ c5_ c6_)) ({ frames := 4, cells := 6, slots := 18, locals := 66 } : Room).cells ({ frames := 4, cells := 6, slots := 18, locals := 66 } : Room).slots)
            refine OGo.step (fun _ kk => XS.iconst X109.here hx rfl (hb hby own_d_method_3_code_102) kk) ?_
            show OGo p e below (T109.setTop (mkF m 103 #[.val (.int n), .val (.int c0_), .val (.int c1_), .val (.int c2_), .val (.int c3_), .val (.int c4_), .val (.int c5_), .val (.int c6_)] [(.int (3 : Int32)), (.ref b), (.ref b), (.ref x), (.ref x)])) (OEndW s Z consts_1 (fun v h L => ∃ x : Addr, v = some (.ref x) ∧ Fr n0 L ∧ Ext h0 h ∧ OStr Z h x (own_mk n c0_ c1_ c2_ c3_ c4_ c5_ c6_)) ({ frames := 4, cells := 6, slots := 18, locals := 66 } : Room).cells ({ frames := 4, cells := 6, slots := 18, locals := 66 } : Room).slots)
            refine OGo.step (fun _ kk => XS.iload X109.here hx rfl (hb hby own_d_method_3_code_103) rfl kk) ?_
            show OGo p e below (T109.setTop (mkF m 105 #[.val (.int n), .val (.int c0_), .val (.int c1_), .val (.int c2_), .val (.int c3_), .val (.int c4_), .val (.int c5_), .val (.int c6_)] [(.int c3_), (.int (3 : Int32)), (.ref b), (.ref b), (.ref x), (.ref x)])) (OEndW s Z consts_1 (fun v h L => ∃ x : Addr, v = some (.ref x) ∧ Fr n0 L ∧ Ext h0 h ∧ OStr Z h x (own_mk n c0_ c1_ c2_ c3_ c4_ c5_ c6_)) ({ frames := 4, cells := 6, slots := 18, locals := 66 } : Room).cells ({ frames := 4, cells := 6, slots := 18, locals := 66 } : Room).slots)
            obtain ⟨cA113, A113, q113, S113, M113, H113, G113⟩ := Va108
            obtain ⟨T114, h114, X114, e114, W114, st114⟩ := stC X109 hx hZ e109 A113 (j := (3 : Int32)) (inb_of S113 ⟨by decide, by decide⟩) (g := (mkF m 105 #[.val (.int n), .val (.int c0_), .val (.int c1_), .val (.int c2_), .val (.int c3_), .val (.int c4_), .val (.int c5_), .val (.int c6_)] [(.int c3_), (.int (3 : Int32)), (.ref b), (.ref b), (.ref x), (.ref x)])) rfl rfl (hb hby own_d_method_3_code_105)
            refine OGo.step st114 ?_
            show OGo p e below (T114.setTop (mkF m 106 #[.val (.int n), .val (.int c0_), .val (.int c1_), .val (.int c2_), .val (.int c3_), .val (.int c4_), .val (.int c5_), .val (.int c6_)] [(.ref b), (.ref x), (.ref x)])) (OEndW s Z consts_1 (fun v h L => ∃ x : Addr, v = some (.ref x) ∧ Fr n0 L ∧ Ext h0 h ∧ OStr Z h x (own_mk n c0_ c1_ c2_ c3_ c4_ c5_ c6_)) ({ frames := 4, cells := 6, slots := 18, locals := 66 } : Room).cells ({ frames := 4, cells := 6, slots := 18, locals := 66 } : Room).slots)
            have Va113 : Arv Z h114 b k94 .char (4 : Int32) [(.int (nar .char c0_)), (.int (nar .char c1_)), (.int (nar .char c2_)), (.int (nar .char c3_))] (.int (0 : Int32)) := Arv.set A113 q113 S113 M113 H113 G113 (fits_nar_char _) W114 3 rfl (Nat.le_of_ble_eq_true rfl)
            have Nf114 := Fr.snoc X114 Nf109 gf_b
            have sz114 : n0 ≤ h114.size := by rw [W114.size]; exact sz109
            have sw115 := (Safe.arr (EL := consts_1) OW112.2.1.alike A113 (by decide))
            have sf116 := Safe.wr W114 sw115 OW112.chv sf111
            have OW117 := OW112.wr W114 sw115
            have fc118 := (((((A91.ext E94).wr W99).wr W104).wr W109).wr W114)
            have fc119 := (((((F91_value.ext E94).other W99 (Or.inl ne_x_b)).other W104 (Or.inl ne_x_b)).other W109 (Or.inl ne_x_b)).other W114 (Or.inl ne_x_b))
            have fc120 := (((((F91_coder.ext E94).other W99 (Or.inl ne_x_b)).other W104 (Or.inl ne_x_b)).other W109 (Or.inl ne_x_b)).other W114 (Or.inl ne_x_b))
            have hpx : ∀ c ∈ ([(nar .char c0_), (nar .char c1_), (nar .char c2_), (nar .char c3_)] : List Int32), ¬ c < 0 ∧ ¬ (255 : Int32) < c := (own_allS (own_nc hb0) (own_allS (own_nc hb1) (own_allS (own_nc hb2) (own_allS (own_nc hb3) own_all0))))
            have xt121 := (own_ext_trans E91 E94)
            have xt122 := (own_ext_wr xt121 W99 (Nat.le_trans E91.1 (Nat.le_of_eq g94.symm)))
            have xt123 := (own_ext_wr xt122 W104 (Nat.le_trans E91.1 (Nat.le_of_eq g94.symm)))
            have xt124 := (own_ext_wr xt123 W109 (Nat.le_trans E91.1 (Nat.le_of_eq g94.symm)))
            have xt125 := (own_ext_wr xt124 W114 (Nat.le_trans E91.1 (Nat.le_of_eq g94.symm)))
            have fx126 := SC.ext xt125
            refine own_specialK X114 hx hZ (y := (⟨"java/lang/String", "<init>", "([C)V"⟩ : MethodName)) rfl hown (hw _ (List.mem_of_getElem? (i := 43) rfl)) (hw _ (List.mem_of_getElem? (i := 44) rfl)) (hw _ (List.mem_of_getElem? (i := 45) rfl)) (by decide) (a := x) (W := 1) (StrChars.Road.backV (W := 1) hZ (fun d hd => hw d ((by decide +kernel : ∀ d ∈ StrChars.Road.words, d ∈ tables_1) d hd)) (kI := 4) (hw _ (List.mem_of_getElem? (i := 7) rfl)) (cs := ([(nar .char c0_), (nar .char c1_), (nar .char c2_), (nar .char c3_)] : List Int32)) (bs := (([(nar .char c0_), (nar .char c1_), (nar .char c2_), (nar .char c3_)] : List Int32)).map (fun c => c.toInt8.toInt32)) (n := 4) gf_x sz114 fc118 fc119 fc120 Va113 fx126 hzc rfl rfl (by decide) (by decide) hpx rfl (by decide) (by decide)) e114 (pc := 106) (Ls := #[.val (.int n), .val (.int c0_), .val (.int c1_), .val (.int c2_), .val (.int c3_), .val (.int c4_), .val (.int c5_), .val (.int c6_)]) (argsL := [(.ref b)]) (rest := [(.ref x)]) (by rw [hml]; rfl) (lenOf own_pd1 rfl) rfl (hb hby own_d_method_3_code_106) (by decide) (by decide) ?_
            intro v127 T127 L127 X127 hQ127
            obtain ⟨rfl, N127, K127, Ex127, Fc127, t127, kb127, u1127, u2127, u3127, Fv127, Av127⟩ := hQ127
            show OGo p e below (T127.setTop (mkF m 109 #[.val (.int n), .val (.int c0_), .val (.int c1_), .val (.int c2_), .val (.int c3_), .val (.int c4_), .val (.int c5_), .val (.int c6_)] [(.ref x)])) (OEndW s Z consts_1 (fun v h L => ∃ x : Addr, v = some (.ref x) ∧ Fr n0 L ∧ Ext h0 h ∧ OStr Z h x (own_mk n c0_ c1_ c2_ c3_ c4_ c5_ c6_)) ({ frames := 4, cells := 6, slots := 18, locals := 66 } : Room).cells ({ frames := 4, cells := 6, slots := 18, locals := 66 } : Room).slots)
            have Nc127 := Fr.app Nf114 N127
            have sz127 : n0 ≤ T127.heap.size := Nat.le_trans sz114 K127.1
            have sf128 := Safe.keep K127 (sfS sf116 sf0) OW117.chv sf116
            have OW129 := OW117.keep K127 (sfS sf116 sf0)
            have O127 : OStr Z T127.heap x ([(nar .char c0_), (nar .char c1_), (nar .char c2_), (nar .char c3_)] : List Int32) := ⟨t127, kb127, 0, (4 : Int32), _, Ex127, Fv127, Fc127, Av127, StrChars.Road.codOf (n := 4) rfl (fun c hc => (hpx c hc).2), own_up _ hpx, Nat.le_of_ble_eq_true rfl⟩
            have xt130 := (own_ext_keep xt125 K127 (allS (Nat.le_of_eq g91.symm) all0))
            have HO : OStr Z T127.heap x [c0_, c1_, c2_, c3_] := by simpa only [own_narC hb0, own_narC hb1, own_narC hb2, own_narC hb3] using O127
            exact own_retW X127 hx hlk hEL OW129 rfl hret rfl (Or.inr (Or.inr (Or.inr (Or.inr ⟨rfl, rfl, rfl⟩)))) (hb hby own_d_method_3_code_109) ⟨x, rfl, Nc127, xt130, by rw [own_mk, if_neg hn0, if_neg hn1, if_neg hn2, if_neg hn3, if_pos hn4]; exact HO⟩ (by decide) (by decide)
          · refine OGo.step (fun _ kk => XS.icmpYes X0.here hx rfl (pc0 := 79) (pc' := 110) rfl (hb hby own_d_method_3_code_79) rfl (feq hn4).2 (by decide) (by decide) kk) ?_
            show OGo p e below (s₁.setTop (mkF m 110 #[.val (.int n), .val (.int c0_), .val (.int c1_), .val (.int c2_), .val (.int c3_), .val (.int c4_), .val (.int c5_), .val (.int c6_)] [])) (OEndW s Z consts_1 (fun v h L => ∃ x : Addr, v = some (.ref x) ∧ Fr n0 L ∧ Ext h0 h ∧ OStr Z h x (own_mk n c0_ c1_ c2_ c3_ c4_ c5_ c6_)) ({ frames := 4, cells := 6, slots := 18, locals := 66 } : Room).cells ({ frames := 4, cells := 6, slots := 18, locals := 66 } : Room).slots)
            refine OGo.step (fun _ kk => XS.iloadN X0.here hx rfl (hb hby own_d_method_3_code_110) rfl kk) ?_
            show OGo p e below (s₁.setTop (mkF m 111 #[.val (.int n), .val (.int c0_), .val (.int c1_), .val (.int c2_), .val (.int c3_), .val (.int c4_), .val (.int c5_), .val (.int c6_)] [(.int n)])) (OEndW s Z consts_1 (fun v h L => ∃ x : Addr, v = some (.ref x) ∧ Fr n0 L ∧ Ext h0 h ∧ OStr Z h x (own_mk n c0_ c1_ c2_ c3_ c4_ c5_ c6_)) ({ frames := 4, cells := 6, slots := 18, locals := 66 } : Room).cells ({ frames := 4, cells := 6, slots := 18, locals := 66 } : Room).slots)
            refine OGo.step (fun _ kk => XS.iconst X0.here hx rfl (hb hby own_d_method_3_code_111) kk) ?_
            show OGo p e below (s₁.setTop (mkF m 112 #[.val (.int n), .val (.int c0_), .val (.int c1_), .val (.int c2_), .val (.int c3_), .val (.int c4_), .val (.int c5_), .val (.int c6_)] [(.int (5 : Int32)), (.int n)])) (OEndW s Z consts_1 (fun v h L => ∃ x : Addr, v = some (.ref x) ∧ Fr n0 L ∧ Ext h0 h ∧ OStr Z h x (own_mk n c0_ c1_ c2_ c3_ c4_ c5_ c6_)) ({ frames := 4, cells := 6, slots := 18, locals := 66 } : Room).cells ({ frames := 4, cells := 6, slots := 18, locals := 66 } : Room).slots)
            by_cases hn5 : n = (5 : Int32)
            · refine OGo.step (fun _ kk => XS.icmpNo X0.here hx rfl (hb hby own_d_method_3_code_112) rfl (teq hn5).2 kk) ?_
              show OGo p e below (s₁.setTop (mkF m 115 #[.val (.int n), .val (.int c0_), .val (.int c1_), .val (.int c2_), .val (.int c3_), .val (.int c4_), .val (.int c5_), .val (.int c6_)] [])) (OEndW s Z consts_1 (fun v h L => ∃ x : Addr, v = some (.ref x) ∧ Fr n0 L ∧ Ext h0 h ∧ OStr Z h x (own_mk n c0_ c1_ c2_ c3_ c4_ c5_ c6_)) ({ frames := 4, cells := 6, slots := 18, locals := 66 } : Room).cells ({ frames := 4, cells := 6, slots := 18, locals := 66 } : Room).slots)
              obtain ⟨T131, h131, X131, e131, E131, A131, D131, U131, st131⟩ := newO X0 hx hZ hown (hw _ (List.mem_of_getElem? (i := 41) rfl)) (hw _ (List.mem_of_getElem? (i := 7) rfl)) (hw _ (List.mem_of_getElem? (i := 6) rfl)) e0 (g := (mkF m 115 #[.val (.int n), .val (.int c0_), .val (.int c1_), .val (.int c2_), .val (.int c3_), .val (.int c4_), .val (.int c5_), .val (.int c6_)] [])) rfl (hb hby own_d_method_3_code_115) (by decide) (by decide)
              obtain ⟨x, g131⟩ : ∃ z, z = h0.size := ⟨_, rfl⟩
              rw [← g131] at A131 D131 U131 st131
              refine OGo.step st131 ?_
              show OGo p e below (T131.setTop (mkF m 118 #[.val (.int n), .val (.int c0_), .val (.int c1_), .val (.int c2_), .val (.int c3_), .val (.int c4_), .val (.int c5_), .val (.int c6_)] [(.ref x)])) (OEndW s Z consts_1 (fun v h L => ∃ x : Addr, v = some (.ref x) ∧ Fr n0 L ∧ Ext h0 h ∧ OStr Z h x (own_mk n c0_ c1_ c2_ c3_ c4_ c5_ c6_)) ({ frames := 4, cells := 6, slots := 18, locals := 66 } : Room).cells ({ frames := 4, cells := 6, slots := 18, locals := 66 } : Room).slots)
              have gf_x : n0 ≤ x := Nat.le_trans Z0 (Nat.le_of_eq g131.symm)
              have sz131 : n0 ≤ h131.size := Nat.le_trans Z0 E131.1
              have OW132 := OW0.ext E131
              have F131_value : Fld Z h131 x "java/lang/String" "value" "[B" .null := D131 (Or.inr (hw _ (List.mem_of_getElem? (i := 9) rfl))) (ty := (.array .byte)) (by decide)
              have F131_coder : Fld Z h131 x "java/lang/String" "coder" "B" (.int (0 : Int32)) := D131 (Or.inr (hw _ (List.mem_of_getElem? (i := 10) rfl))) (ty := .byte) (by decide)
              have sf133 := own_safe_null (EL := consts_1) OW132.2.1.alike A131 F131_value
              refine OGo.step (fun _ kk => XS.dup X131.here hx rfl (hb hby own_d_method_3_code_118) rfl rfl kk) ?_
              show OGo p e below (T131.setTop (mkF m 119 #[.val (.int n), .val (.int c0_), .val (.int c1_), .val (.int c2_), .val (.int c3_), .val (.int c4_), .val (.int c5_), .val (.int c6_)] [(.ref x), (.ref x)])) (OEndW s Z consts_1 (fun v h L => ∃ x : Addr, v = some (.ref x) ∧ Fr n0 L ∧ Ext h0 h ∧ OStr Z h x (own_mk n c0_ c1_ c2_ c3_ c4_ c5_ c6_)) ({ frames := 4, cells := 6, slots := 18, locals := 66 } : Room).cells ({ frames := 4, cells := 6, slots := 18, locals := 66 } : Room).slots)
              refine OGo.step (fun _ kk => XS.iconst X131.here hx rfl (hb hby own_d_method_3_code_119) kk) ?_
              show OGo p e below (T131.setTop (mkF m 120 #[.val (.int n), .val (.int c0_), .val (.int c1_), .val (.int c2_), .val (.int c3_), .val (.int c4_), .val (.int c5_), .val (.int c6_)] [(.int (5 : Int32)), (.ref x), (.ref x)])) (OEndW s Z consts_1 (fun v h L => ∃ x : Addr, v = some (.ref x) ∧ Fr n0 L ∧ Ext h0 h ∧ OStr Z h x (own_mk n c0_ c1_ c2_ c3_ c4_ c5_ c6_)) ({ frames := 4, cells := 6, slots := 18, locals := 66 } : Room).cells ({ frames := 4, cells := 6, slots := 18, locals := 66 } : Room).slots)
              obtain ⟨T134, h134, k134, X134, e134, E134, A134, st134⟩ := newP X131 hx hZ (hw _ (List.mem_of_getElem? (i := 42) rfl)) e131 (g := (mkF m 120 #[.val (.int n), .val (.int c0_), .val (.int c1_), .val (.int c2_), .val (.int c3_), .val (.int c4_), .val (.int c5_), .val (.int c6_)] [(.int (5 : Int32)), (.ref x), (.ref x)])) rfl (hb hby own_d_method_3_code_120) rfl (by decide) (cap := 5) (by decide) (by decide) (by decide) (by decide)
              obtain ⟨b, g134⟩ : ∃ z, z = h131.size := ⟨_, rfl⟩
              rw [← g134] at A134 st134
              refine OGo.step st134 ?_
              show OGo p e below (T134.setTop (mkF m 122 #[.val (.int n), .val (.int c0_), .val (.int c1_), .val (.int c2_), .val (.int c3_), .val (.int c4_), .val (.int c5_), .val (.int c6_)] [(.ref b), (.ref x), (.ref x)])) (OEndW s Z consts_1 (fun v h L => ∃ x : Addr, v = some (.ref x) ∧ Fr n0 L ∧ Ext h0 h ∧ OStr Z h x (own_mk n c0_ c1_ c2_ c3_ c4_ c5_ c6_)) ({ frames := 4, cells := 6, slots := 18, locals := 66 } : Room).cells ({ frames := 4, cells := 6, slots := 18, locals := 66 } : Room).slots)
              have ne_x_b : x ≠ b := Nat.ne_of_lt (Nat.lt_of_lt_of_le A131.lt (Nat.le_of_eq g134.symm))
              have gf_b : n0 ≤ b := Nat.le_trans sz131 (Nat.le_of_eq g134.symm)
              have sz134 : n0 ≤ h134.size := Nat.le_trans sz131 E134.1
              have sf135 := Safe.ext E134 OW132.chv sf133
              have OW136 := OW132.ext E134
              have Va137 : Arv Z h134 b k134 .char (5 : Int32) [(.int (0 : Int32)), (.int (0 : Int32)), (.int (0 : Int32)), (.int (0 : Int32)), (.int (0 : Int32))] (.int (0 : Int32)) := (Arv.new A134 (by decide)).pad (pad_rep [] (.int (0 : Int32)) 5)
              refine OGo.step (fun _ kk => XS.dup X134.here hx rfl (hb hby own_d_method_3_code_122) rfl rfl kk) ?_
              show OGo p e below (T134.setTop (mkF m 123 #[.val (.int n), .val (.int c0_), .val (.int c1_), .val (.int c2_), .val (.int c3_), .val (.int c4_), .val (.int c5_), .val (.int c6_)] [(.ref b), (.ref b), (.ref x), (.ref x)])) (OEndW s Z consts_1 (fun v h L => ∃ x : Addr, v = some (.ref x) ∧ Fr n0 L ∧ Ext h0 h ∧ OStr Z h x (own_mk n c0_ c1_ c2_ c3_ c4_ c5_ c6_)) ({ frames := 4, cells := 6, slots := 18, locals := 66 } : Room).cells ({ frames := 4, cells := 6, slots := 18, locals := 66 } : Room).slots)
              refine OGo.step (fun _ kk => XS.iconst X134.here hx rfl (hb hby own_d_method_3_code_123) kk) ?_
              show OGo p e below (T134.setTop (mkF m 124 #[.val (.int n), .val (.int c0_), .val (.int c1_), .val (.int c2_), .val (.int c3_), .val (.int c4_), .val (.int c5_), .val (.int c6_)] [(.int (0 : Int32)), (.ref b), (.ref b), (.ref x), (.ref x)])) (OEndW s Z consts_1 (fun v h L => ∃ x : Addr, v = some (.ref x) ∧ Fr n0 L ∧ Ext h0 h ∧ OStr Z h x (own_mk n c0_ c1_ c2_ c3_ c4_ c5_ c6_)) ({ frames := 4, cells := 6, slots := 18, locals := 66 } : Room).cells ({ frames := 4, cells := 6, slots := 18, locals := 66 } : Room).slots)
              refine OGo.step (fun _ kk => XS.iloadN X134.here hx rfl (hb hby own_d_method_3_code_124) rfl kk) ?_
              show OGo p e below (T134.setTop (mkF m 125 #[.val (.int n), .val (.int c0_), .val (.int c1_), .val (.int c2_), .val (.int c3_), .val (.int c4_), .val (.int c5_), .val (.int c6_)] [(.int c0_), (.int (0 : Int32)), (.ref b), (.ref b), (.ref x), (.ref x)])) (OEndW s Z consts_1 (fun v h L => ∃ x : Addr, v = some (.ref x) ∧ Fr n0 L ∧ Ext h0 h ∧ OStr Z h x (own_mk n c0_ c1_ c2_ c3_ c4_ c5_ c6_)) ({ frames := 4, cells := 6, slots := 18, locals := 66 } : Room).cells ({ frames := 4, cells := 6, slots := 18, locals := 66 } : Room).slots)
              obtain ⟨cA138, A138, q138, S138, M138, H138, G138⟩ := Va137
              obtain ⟨T139, h139, X139, e139, W139, st139⟩ := stC X134 hx hZ e134 A138 (j := (0 : Int32)) (inb_of S138 ⟨by decide, by decide⟩) (g := (mkF m 125 #[.val (.int n), .val (.int c0_), .val (.int c1_), .val (.int c2_), .val (.int c3_), .val (.int c4_), .val (.int c5_), .val (.int c6_)] [(.int c0_), (.int (0 : Int32)), (.ref b), (.ref b), (.ref x), (.ref x)])) rfl rfl (hb hby own_d_method_3_code_125)
              refine OGo.step st139 ?_
              show OGo p e below (T139.setTop (mkF m 126 #[.val (.int n), .val (.int c0_), .val (.int c1_), .val (.int c2_), .val (.int c3_), .val (.int c4_), .val (.int c5_), .val (.int c6_)] [(.ref b), (.ref x), (.ref x)])) (OEndW s Z consts_1 (fun v h L => ∃ x : Addr, v = some (.ref x) ∧ Fr n0 L ∧ Ext h0 h ∧ OStr Z h x (own_mk n c0_ c1_ c2_ c3_ c4_ c5_ c6_)) ({ frames := 4, cells := 6, slots := 18, locals := 66 } : Room).cells ({ frames := 4, cells := 6, slots := 18, locals := 66 } : Room).slots)
              have Va138 : Arv Z h139 b k134 .char (5 : Int32) [(.int (nar .char c0_)), (.int (0 : Int32)), (.int (0 : Int32)), (.int (0 : Int32)), (.int (0 : Int32))] (.int (0 : Int32)) := Arv.set A138 q138 S138 M138 H138 G138 (fits_nar_char _) W139 0 rfl (Nat.le_of_ble_eq_true rfl)
              have Nf139 := Fr.snoc X139 (Fr.nil n0) gf_b
              have sz139 : n0 ≤ h139.size := by rw [W139.size]; exact sz134
              have sw140 := (Safe.arr (EL := consts_1) OW136.2.1.alike A138 (by decide))
              have sf141 := Safe.wr W139 sw140 OW136.chv sf135
              have OW142 := OW136.wr W139 sw140
              refine OGo.step (fun _ kk => XS.dup X139.here hx rfl (hb hby own_d_method_3_code_126) rfl rfl kk) ?_
              show OGo p e below (T139.setTop (mkF m 127 #[.val (.int n), .val (.int c0_), .val (.int c1_), .val (.int c2_), .val (.int c3_), .val (.int c4_), .val (.int c5_), .val (.int c6_)] [(.ref b), (.ref b), (.ref x), (.ref x)])) (OEndW s Z consts_1 (fun v h L => ∃ x : Addr, v = some (.ref x) ∧ Fr n0 L ∧ Ext h0 h ∧ OStr Z h x (own_mk n c0_ c1_ c2_ c3_ c4_ c5_ c6_)) ({ frames := 4, cells := 6, slots := 18, locals := 66 } : Room).cells ({ frames := 4, cells := 6, slots := 18, locals := 66 } : Room).slots)
              refine OGo.step (fun _ kk => XS.iconst X139.here hx rfl (hb hby own_d_method_3_code_127) kk) ?_
              show OGo p e below (T139.setTop (mkF m 128 #[.val (.int n), .val (.int c0_), .val (.int c1_), .val (.int c2_), .val (.int c3_), .val (.int c4_), .val (.int c5_), .val (.int c6_)] [(.int (1 : Int32)), (.ref b), (.ref b), (.ref x), (.ref x)])) (OEndW s Z consts_1 (fun v h L => ∃ x : Addr, v = some (.ref x) ∧ Fr n0 L ∧ Ext h0 h ∧ OStr Z h x (own_mk n c0_ c1_ c2_ c3_ c4_ c5_ c6_)) ({ frames := 4, cells := 6, slots := 18, locals := 66 } : Room).cells ({ frames := 4, cells := 6, slots := 18, locals := 66 } : Room).slots)
              refine OGo.step (fun _ kk => XS.iloadN X139.here hx rfl (hb hby own_d_method_3_code_128) rfl kk) ?_
              show OGo p e below (T139.setTop (mkF m 129 #[.val (.int n), .val (.int c0_), .val (.int c1_), .val (.int c2_), .val (.int c3_), .val (.int c4_), .val (.int c5_), .val (.int c6_)] [(.int c1_), (.int (1 : Int32)), (.ref b), (.ref b), (.ref x), (.ref x)])) (OEndW s Z consts_1 (fun v h L => ∃ x : Addr, v = some (.ref x) ∧ Fr n0 L ∧ Ext h0 h ∧ OStr Z h x (own_mk n c0_ c1_ c2_ c3_ c4_ c5_ c6_)) ({ frames := 4, cells := 6, slots := 18, locals := 66 } : Room).cells ({ frames := 4, cells := 6, slots := 18, locals := 66 } : Room).slots)
              obtain ⟨cA143, A143, q143, S143, M143, H143, G143⟩ := Va138
              obtain ⟨T144, h144, X144, e144, W144, st144⟩ := stC X139 hx hZ e139 A143 (j := (1 : Int32)) (inb_of S143 ⟨by decide, by decide⟩) (g := (mkF m 129 #[.val (.int n), .val (.int c0_), .val (.int c1_), .val (.int c2_), .val (.int c3_), .val (.int c4_), .val (.int c5_), .val (.int c6_)] [(.int c1_), (.int (1 : Int32)), (.ref b), (.ref b), (.ref x), (.ref x)])) rfl rfl (hb hby own_d_method_3_code_129)
              refine OGo.step st144 ?_
              show OGo p e below (T144.setTop (mkF m 130 #[.val (.int n), .val (.int c0_), .val (.int c1_), .val (.int c2_), .val (.int c3_), .val (.int c4_), .val (.int c5_), .val (.int c6_)] [(.ref b), (.ref x), (.ref x)])) (OEndW s Z consts_1 (fun v h L => ∃ x : Addr, v = some (.ref x) ∧ Fr n0 L ∧ Ext h0 h ∧ OStr Z h x (own_mk n c0_ c1_ c2_ c3_ c4_ c5_ c6_)) ({ frames := 4, cells := 6, slots := 18, locals := 66 } : Room).cells ({ frames := 4, cells := 6, slots := 18, locals := 66 } : Room).slots)
              have Va143 : Arv Z h144 b k134 .char (5 : Int32) [(.int (nar .char c0_)), (.int (nar .char c1_)), (.int (0 : Int32)), (.int (0 : Int32)), (.int (0 : Int32))] (.int (0 : Int32)) := Arv.set A143 q143 S143 M143 H143 G143 (fits_nar_char _) W144 1 rfl (Nat.le_of_ble_eq_true rfl)
              have Nf144 := Fr.snoc X144 Nf139 gf_b
              have sz144 : n0 ≤ h144.size := by rw [W144.size]; exact sz139
              have sw145 := (Safe.arr (EL := consts_1) OW142.2.1.alike A143 (by decide))
              have sf146 := Safe.wr W144 sw145 OW142.chv sf141
              have OW147 := OW142.wr W144 sw145
              refine OGo.step (fun _ kk => XS.dup X144.here hx rfl (hb hby own_d_method_3_code_130) rfl rfl kk) ?_
              show OGo p e below (T144.setTop (mkF m 131 #[.val (.int n), .val (.int c0_), .val (.int c1_), .val (.int c2_), .val (.int c3_), .val (.int c4_), .val (.int c5_), .val (.int c6_)] [(.ref b), (.ref b), (.ref x), (.ref x)])) (OEndW s Z consts_1 (fun v h L => ∃ x : Addr, v = some (.ref x) ∧ Fr n0 L ∧ Ext h0 h ∧ OStr Z h x (own_mk n c0_ c1_ c2_ c3_ c4_ c5_ c6_)) ({ frames := 4, cells := 6, slots := 18, locals := 66 } : Room).cells ({ frames := 4, cells := 6, slots := 18, locals := 66 } : Room).slots)
              refine OGo.step (fun _ kk => XS.iconst X144.here hx rfl (hb hby own_d_method_3_code_131) kk) ?_
              show OGo p e below (T144.setTop (mkF m 132 #[.val (.int n), .val (.int c0_), .val (.int c1_), .val (.int c2_), .val (.int c3_), .val (.int c4_), .val (.int c5_), .val (.int c6_)] [(.int (2 : Int32)), (.ref b), (.ref b), (.ref x), (.ref x)])) (OEndW s Z consts_1 (fun v h L => ∃ x : Addr, v = some (.ref x) ∧ Fr n0 L ∧ Ext h0 h ∧ OStr Z h x (own_mk n c0_ c1_ c2_ c3_ c4_ c5_ c6_)) ({ frames := 4, cells := 6, slots := 18, locals := 66 } : Room).cells ({ frames := 4, cells := 6, slots := 18, locals := 66 } : Room).slots)
              refine OGo.step (fun _ kk => XS.iloadN X144.here hx rfl (hb hby own_d_method_3_code_132) rfl kk) ?_
              show OGo p e below (T144.setTop (mkF m 133 #[.val (.int n), .val (.int c0_), .val (.int c1_), .val (.int c2_), .val (.int c3_), .val (.int c4_), .val (.int c5_), .val (.int c6_)] [(.int c2_), (.int (2 : Int32)), (.ref b), (.ref b), (.ref x), (.ref x)])) (OEndW s Z consts_1 (fun v h L => ∃ x : Addr, v = some (.ref x) ∧ Fr n0 L ∧ Ext h0 h ∧ OStr Z h x (own_mk n c0_ c1_ c2_ c3_ c4_ c5_ c6_)) ({ frames := 4, cells := 6, slots := 18, locals := 66 } : Room).cells ({ frames := 4, cells := 6, slots := 18, locals := 66 } : Room).slots)
              obtain ⟨cA148, A148, q148, S148, M148, H148, G148⟩ := Va143
              obtain ⟨T149, h149, X149, e149, W149, st149⟩ := stC X144 hx hZ e144 A148 (j := (2 : Int32)) (inb_of S148 ⟨by decide, by decide⟩) (g := (mkF m 133 #[.val (.int n), .val (.int c0_), .val (.int c1_), .val (.int c2_), .val (.int c3_), .val (.int c4_), .val (.int c5_), .val (.int c6_)] [(.int c2_), (.int (2 : Int32)), (.ref b), (.ref b), (.ref x), (.ref x)])) rfl rfl (hb hby own_d_method_3_code_133)
              refine OGo.step st149 ?_
              show OGo p e below (T149.setTop (mkF m 134 #[.val (.int n), .val (.int c0_), .val (.int c1_), .val (.int c2_), .val (.int c3_), .val (.int c4_), .val (.int c5_), .val (.int c6_)] [(.ref b), (.ref x), (.ref x)])) (OEndW s Z consts_1 (fun v h L => ∃ x : Addr, v = some (.ref x) ∧ Fr n0 L ∧ Ext h0 h ∧ OStr Z h x (own_mk n c0_ c1_ c2_ c3_ c4_ c5_ c6_)) ({ frames := 4, cells := 6, slots := 18, locals := 66 } : Room).cells ({ frames := 4, cells := 6, slots := 18, locals := 66 } : Room).slots)
              have Va148 : Arv Z h149 b k134 .char (5 : Int32) [(.int (nar .char c0_)), (.int (nar .char c1_)), (.int (nar .char c2_)), (.int (0 : Int32)), (.int (0 : Int32))] (.int (0 : Int32)) := Arv.set A148 q148 S148 M148 H148 G148 (fits_nar_char _) W149 2 rfl (Nat.le_of_ble_eq_true rfl)
              have Nf149 := Fr.snoc X149 Nf144 gf_b
              have sz149 : n0 ≤ h149.size := by rw [W149.size]; exact sz144
              have sw150 := (Safe.arr (EL := consts_1) OW147.2.1.alike A148 (by decide))
              have sf151 := Safe.wr W149 sw150 OW147.chv sf146
              have OW152 := OW147.wr W149 sw150
              refine OGo.step (fun _ kk => XS.dup X149.here hx rfl (hb hby own_d_method_3_code_134) rfl rfl kk) ?_
              show OGo p e below (T149.setTop (mkF m 135 #[.val (.int n), .val (.int c0_), .val (.int c1_), .val (.int c2_), .val (.int c3_), .val (.int c4_), .val (.int c5_), .val (.int c6_)] [(.ref b), (.ref b), (.ref x), (.ref x)])) (OEndW s Z consts_1 (fun v h L => ∃ x : Addr, v = some (.ref x) ∧ Fr n0 L ∧ Ext h0 h ∧ OStr Z h x (own_mk n c0_ c1_ c2_ c3_ c4_ c5_ c6_)) ({ frames := 4, cells := 6, slots := 18, locals := 66 } : Room).cells ({ frames := 4, cells := 6, slots := 18, locals := 66 } : Room).slots)
              refine OGo.step (fun _ kk => XS.iconst X149.here hx rfl (hb hby own_d_method_3_code_135) kk) ?_
              show OGo p e below (T149.setTop (mkF m 136 #[.val (.int n), .val (.int c0_), .val (.int c1_), .val (.int c2_), .val (.int c3_), .val (.int c4_), .val (.int c5_), .val (.int c6_)] [(.int (3 : Int32)), (.ref b), (.ref b), (.ref x), (.ref x)])) (OEndW s Z consts_1 (fun v h L => ∃ x : Addr, v = some (.ref x) ∧ Fr n0 L ∧ Ext h0 h ∧ OStr Z h x (own_mk n c0_ c1_ c2_ c3_ c4_ c5_ c6_)) ({ frames := 4, cells := 6, slots := 18, locals := 66 } : Room).cells ({ frames := 4, cells := 6, slots := 18, locals := 66 } : Room).slots)
              refine OGo.step (fun _ kk => XS.iload X149.here hx rfl (hb hby own_d_method_3_code_136) rfl kk) ?_
              show OGo p e below (T149.setTop (mkF m 138 #[.val (.int n), .val (.int c0_), .val (.int c1_), .val (.int c2_), .val (.int c3_), .val (.int c4_), .val (.int c5_), .val (.int c6_)] [(.int c3_), (.int (3 : Int32)), (.ref b), (.ref b), (.ref x), (.ref x)])) (OEndW s Z consts_1 (fun v h L => ∃ x : Addr, v = some (.ref x) ∧ Fr n0 L ∧ Ext h0 h ∧ OStr Z h x (own_mk n c0_ c1_ c2_ c3_ c4_ c5_ c6_)) ({ frames := 4, cells := 6, slots := 18, locals := 66 } : Room).cells ({ frames := 4, cells := 6, slots := 18, locals := 66 } : Room).slots)
              obtain ⟨cA153, A153, q153, S153, M153, H153, G153⟩ := Va148
              obtain ⟨T154, h154, X154, e154, W154, st154⟩ := stC X149 hx hZ e149 A153 (j := (3 : Int32)) (inb_of S153 ⟨by decide, by decide⟩) (g := (mkF m 138 #[.val (.int n), .val (.int c0_), .val (.int c1_), .val (.int c2_), .val (.int c3_), .val (.int c4_), .val (.int c5_), .val (.int c6_)] [(.int c3_), (.int (3 : Int32)), (.ref b), (.ref b), (.ref x), (.ref x)])) rfl rfl (hb hby own_d_method_3_code_138)
              refine OGo.step st154 ?_
              show OGo p e below (T154.setTop (mkF m 139 #[.val (.int n), .val (.int c0_), .val (.int c1_), .val (.int c2_), .val (.int c3_), .val (.int c4_), .val (.int c5_), .val (.int c6_)] [(.ref b), (.ref x), (.ref x)])) (OEndW s Z consts_1 (fun v h L => ∃ x : Addr, v = some (.ref x) ∧ Fr n0 L ∧ Ext h0 h ∧ OStr Z h x (own_mk n c0_ c1_ c2_ c3_ c4_ c5_ c6_)) ({ frames := 4, cells := 6, slots := 18, locals := 66 } : Room).cells ({ frames := 4, cells := 6, slots := 18, locals := 66 } : Room).slots)
              have Va153 : Arv Z h154 b k134 .char (5 : Int32) [(.int (nar .char c0_)), (.int (nar .char c1_)), (.int (nar .char c2_)), (.int (nar .char c3_)), (.int (0 : Int32))] (.int (0 : Int32)) := Arv.set A153 q153 S153 M153 H153 G153 (fits_nar_char _) W154 3 rfl (Nat.le_of_ble_eq_true rfl)
              have Nf154 := Fr.snoc X154 Nf149 gf_b
              have sz154 : n0 ≤ h154.size := by rw [W154.size]; exact sz149
              have sw155 := (Safe.arr (EL := consts_1) OW152.2.1.alike A153 (by decide))
              have sf156 := Safe.wr W154 sw155 OW152.chv sf151
              have OW157 := OW152.wr W154 sw155
              refine OGo.step (fun _ kk => XS.dup X154.here hx rfl (hb hby own_d_method_3_code_139) rfl rfl kk) ?_
              show OGo p e below (T154.setTop (mkF m 140 #[.val (.int n), .val (.int c0_), .val (.int c1_), .val (.int c2_), .val (.int c3_), .val (.int c4_), .val (.int c5_), .val (.int c6_)] [(.ref b), (.ref b), (.ref x), (.ref x)])) (OEndW s Z consts_1 (fun v h L => ∃ x : Addr, v = some (.ref x) ∧ Fr n0 L ∧ Ext h0 h ∧ OStr Z h x (own_mk n c0_ c1_ c2_ c3_ c4_ c5_ c6_)) ({ frames := 4, cells := 6, slots := 18, locals := 66 } : Room).cells ({ frames := 4, cells := 6, slots := 18, locals := 66 } : Room).slots)
              refine OGo.step (fun _ kk => XS.iconst X154.here hx rfl (hb hby own_d_method_3_code_140) kk) ?_
              show OGo p e below (T154.setTop (mkF m 141 #[.val (.int n), .val (.int c0_), .val (.int c1_), .val (.int c2_), .val (.int c3_), .val (.int c4_), .val (.int c5_), .val (.int c6_)] [(.int (4 : Int32)), (.ref b), (.ref b), (.ref x), (.ref x)])) (OEndW s Z consts_1 (fun v h L => ∃ x : Addr, v = some (.ref x) ∧ Fr n0 L ∧ Ext h0 h ∧ OStr Z h x (own_mk n c0_ c1_ c2_ c3_ c4_ c5_ c6_)) ({ frames := 4, cells := 6, slots := 18, locals := 66 } : Room).cells ({ frames := 4, cells := 6, slots := 18, locals := 66 } : Room).slots)
              refine OGo.step (fun _ kk => XS.iload X154.here hx rfl (hb hby own_d_method_3_code_141) rfl kk) ?_
              show OGo p e below (T154.setTop (mkF m 143 #[.val (.int n), .val (.int c0_), .val (.int c1_), .val (.int c2_), .val (.int c3_), .val (.int c4_), .val (.int c5_), .val (.int c6_)] [(.int c4_), (.int (4 : Int32)), (.ref b), (.ref b), (.ref x), (.ref x)])) (OEndW s Z consts_1 (fun v h L => ∃ x : Addr, v = some (.ref x) ∧ Fr n0 L ∧ Ext h0 h ∧ OStr Z h x (own_mk n c0_ c1_ c2_ c3_ c4_ c5_ c6_)) ({ frames := 4, cells := 6, slots := 18, locals := 66 } : Room).cells ({ frames := 4, cells := 6, slots := 18, locals := 66 } : Room).slots)
              obtain ⟨cA158, A158, q158, S158, M158, H158, G158⟩ := Va153
              obtain ⟨T159, h159, X159, e159, W159, st159⟩ := stC X154 hx hZ e154 A158 (j := (4 : Int32)) (inb_of S158 ⟨by decide, by decide⟩) (g := (mkF m 143 #[.val (.int n), .val (.int c0_), .val (.int c1_), .val (.int c2_), .val (.int c3_), .val (.int c4_), .val (.int c5_), .val (.int c6_)] [(.int c4_), (.int (4 : Int32)), (.ref b), (.ref b), (.ref x), (.ref x)])) rfl rfl (hb hby own_d_method_3_code_143)
              refine OGo.step st159 ?_
              show OGo p e below (T159.setTop (mkF m 144 #[.val (.int n), .val (.int c0_), .val (.int c1_), .val (.int c2_), .val (.int c3_), .val (.int c4_), .val (.int c5_), .val (.int c6_)] [(.ref b), (.ref x), (.ref x)])) (OEndW s Z consts_1 (fun v h L => ∃ x : Addr, v = some (.ref x) ∧ Fr n0 L ∧ Ext h0 h ∧ OStr Z h x (own_mk n c0_ c1_ c2_ c3_ c4_ c5_ c6_)) ({ frames := 4, cells := 6, slots := 18, locals := 66 } : Room).cells ({ frames := 4, cells := 6, slots := 18, locals := 66 } : Room).slots)
              have Va158 : Arv Z h159 b k134 .char (5 : Int32) [(.int (nar .char c0_)), (.int (nar .char c1_)), (.int (nar .char c2_)), (.int (nar .char c3_)), (.int (nar .char c4_))] (.int (0 : Int32)) := Arv.set A158 q158 S158 M158 H158 G158 (fits_nar_char _) W159 4 rfl (Nat.le_of_ble_eq_true rfl)
              have Nf159 := Fr.snoc X159 Nf154 gf_b
              have sz159 : n0 ≤ h159.size := by rw [W159.size]; exact sz154
              have sw160 := (Safe.arr (EL := consts_1) OW157.2.1.alike A158 (by decide))
              have sf161 := Safe.wr W159 sw160 OW157.chv sf156
              have OW162 := OW157.wr W159 sw160
              have fc163 := ((((((A131.ext E134).wr W139).wr W144).wr W149).wr W154).wr W159)
              have fc164 := ((((((F131_value.ext E134).other W139 (Or.inl ne_x_b)).other W144 (Or.inl ne_x_b)).other W149 (Or.inl ne_x_b)).other W154 (Or.inl ne_x_b)).other W159 (Or.inl ne_x_b))
              have fc165 := ((((((F131_coder.ext E134).other W139 (Or.inl ne_x_b)).other W144 (Or.inl ne_x_b)).other W149 (Or.inl ne_x_b)).other W154 (Or.inl ne_x_b)).other W159 (Or.inl ne_x_b))
              have hpx : ∀ c ∈ ([(nar .char c0_), (nar .char c1_), (nar .char c2_), (nar .char c3_), (nar .char c4_)] : List Int32), ¬ c < 0 ∧ ¬ (255 : Int32) < c := (own_allS (own_nc hb0) (own_allS (own_nc hb1) (own_allS (own_nc hb2) (own_allS (own_nc hb3) (own_allS (own_nc hb4) own_all0)))))
              have xt166 := (own_ext_trans E131 E134)
              have xt167 := (own_ext_wr xt166 W139 (Nat.le_trans E131.1 (Nat.le_of_eq g134.symm)))
              have xt168 := (own_ext_wr xt167 W144 (Nat.le_trans E131.1 (Nat.le_of_eq g134.symm)))
              have xt169 := (own_ext_wr xt168 W149 (Nat.le_trans E131.1 (Nat.le_of_eq g134.symm)))
              have xt170 := (own_ext_wr xt169 W154 (Nat.le_trans E131.1 (Nat.le_of_eq g134.symm)))
              have xt171 := (own_ext_wr xt170 W159 (Nat.le_trans E131.1 (Nat.le_of_eq g134.symm)))
              have fx172 := SC.ext xt171
              refine own_specialK X159 hx hZ (y := (⟨"java/lang/String", "<init>", "([C)V"⟩ : MethodName)) rfl hown (hw _ (List.mem_of_getElem? (i := 43) rfl)) (hw _ (List.mem_of_getElem? (i := 44) rfl)) (hw _ (List.mem_of_getElem? (i := 45) rfl)) (by decide) (a := x) (W := 1) (StrChars.Road.backV (W := 1) hZ (fun d hd => hw d ((by decide +kernel : ∀ d ∈ StrChars.Road.words, d ∈ tables_1) d hd)) (kI := 4) (hw _ (List.mem_of_getElem? (i := 7) rfl)) (cs := ([(nar .char c0_), (nar .char c1_), (nar .char c2_), (nar .char c3_), (nar .char c4_)] : List Int32)) (bs := (([(nar .char c0_), (nar .char c1_), (nar .char c2_), (nar .char c3_), (nar .char c4_)] : List Int32)).map (fun c => c.toInt8.toInt32)) (n := 5) gf_x sz159 fc163 fc164 fc165 Va158 fx172 hzc rfl rfl (by decide) (by decide) hpx rfl (by decide) (by decide)) e159 (pc := 144) (Ls := #[.val (.int n), .val (.int c0_), .val (.int c1_), .val (.int c2_), .val (.int c3_), .val (.int c4_), .val (.int c5_), .val (.int c6_)]) (argsL := [(.ref b)]) (rest := [(.ref x)]) (by rw [hml]; rfl) (lenOf own_pd1 rfl) rfl (hb hby own_d_method_3_code_144) (by decide) (by decide) ?_
              intro v173 T173 L173 X173 hQ173
              obtain ⟨rfl, N173, K173, Ex173, Fc173, t173, kb173, u1173, u2173, u3173, Fv173, Av173⟩ := hQ173
              show OGo p e below (T173.setTop (mkF m 147 #[.val (.int n), .val (.int c0_), .val (.int c1_), .val (.int c2_), .val (.int c3_), .val (.int c4_), .val (.int c5_), .val (.int c6_)] [(.ref x)])) (OEndW s Z consts_1 (fun v h L => ∃ x : Addr, v = some (.ref x) ∧ Fr n0 L ∧ Ext h0 h ∧ OStr Z h x (own_mk n c0_ c1_ c2_ c3_ c4_ c5_ c6_)) ({ frames := 4, cells := 6, slots := 18, locals := 66 } : Room).cells ({ frames := 4, cells := 6, slots := 18, locals := 66 } : Room).slots)
              have Nc173 := Fr.app Nf159 N173
              have sz173 : n0 ≤ T173.heap.size := Nat.le_trans sz159 K173.1
              have sf174 := Safe.keep K173 (sfS sf161 sf0) OW162.chv sf161
              have OW175 := OW162.keep K173 (sfS sf161 sf0)
              have O173 : OStr Z T173.heap x ([(nar .char c0_), (nar .char c1_), (nar .char c2_), (nar .char c3_), (nar .char c4_)] : List Int32) := ⟨t173, kb173, 0, (5 : Int32), _, Ex173, Fv173, Fc173, Av173, StrChars.Road.codOf (n := 5) rfl (fun c hc => (hpx c hc).2), own_up _ hpx, Nat.le_of_ble_eq_true rfl⟩
              have xt176 := (own_ext_keep xt171 K173 (allS (Nat.le_of_eq g131.symm) all0))
              have HO : OStr Z T173.heap x [c0_, c1_, c2_, c3_, c4_] := by simpa only [own_narC hb0, own_narC hb1, own_narC hb2, own_narC hb3, own_narC hb4] using O173
              exact own_retW X173 hx hlk hEL OW175 rfl hret rfl (Or.inr (Or.inr (Or.inr (Or.inr ⟨rfl, rfl, rfl⟩)))) (hb hby own_d_method_3_code_147) ⟨x, rfl, Nc173, xt176, by rw [own_mk, if_neg hn0, if_neg hn1, if_neg hn2, if_neg hn3, if_neg hn4, if_pos hn5]; exact HO⟩ (by decide) (by decide)
            · refine OGo.step (fun _ kk => XS.icmpYes X0.here hx rfl (pc0 := 112) (pc' := 148) rfl (hb hby own_d_method_3_code_112) rfl (feq hn5).2 (by decide) (by decide) kk) ?_
              show OGo p e below (s₁.setTop (mkF m 148 #[.val (.int n), .val (.int c0_), .val (.int c1_), .val (.int c2_), .val (.int c3_), .val (.int c4_), .val (.int c5_), .val (.int c6_)] [])) (OEndW s Z consts_1 (fun v h L => ∃ x : Addr, v = some (.ref x) ∧ Fr n0 L ∧ Ext h0 h ∧ OStr Z h x (own_mk n c0_ c1_ c2_ c3_ c4_ c5_ c6_)) ({ frames := 4, cells := 6, slots := 18, locals := 66 } : Room).cells ({ frames := 4, cells := 6, slots := 18, locals := 66 } : Room).slots)
              refine OGo.step (fun _ kk => XS.iloadN X0.here hx rfl (hb hby own_d_method_3_code_148) rfl kk) ?_
              show OGo p e below (s₁.setTop (mkF m 149 #[.val (.int n), .val (.int c0_), .val (.int c1_), .val (.int c2_), .val (.int c3_), .val (.int c4_), .val (.int c5_), .val (.int c6_)] [(.int n)])) (OEndW s Z consts_1 (fun v h L => ∃ x : Addr, v = some (.ref x) ∧ Fr n0 L ∧ Ext h0 h ∧ OStr Z h x (own_mk n c0_ c1_ c2_ c3_ c4_ c5_ c6_)) ({ frames := 4, cells := 6, slots := 18, locals := 66 } : Room).cells ({ frames := 4, cells := 6, slots := 18, locals := 66 } : Room).slots)
              refine OGo.step (fun _ kk => XS.bipush X0.here hx rfl (hb hby own_d_method_3_code_149) kk) ?_
              show OGo p e below (s₁.setTop (mkF m 151 #[.val (.int n), .val (.int c0_), .val (.int c1_), .val (.int c2_), .val (.int c3_), .val (.int c4_), .val (.int c5_), .val (.int c6_)] [(.int (6 : Int32)), (.int n)])) (OEndW s Z consts_1 (fun v h L => ∃ x : Addr, v = some (.ref x) ∧ Fr n0 L ∧ Ext h0 h ∧ OStr Z h x (own_mk n c0_ c1_ c2_ c3_ c4_ c5_ c6_)) ({ frames := 4, cells := 6, slots := 18, locals := 66 } : Room).cells ({ frames := 4, cells := 6, slots := 18, locals := 66 } : Room).slots)
              by_cases hn6 : n = (6 : Int32)
              · refine OGo.step (fun _ kk => XS.icmpNo X0.here hx rfl (hb hby own_d_method_3_code_151) rfl (teq hn6).2 kk) ?_
                show OGo p e below (s₁.setTop (mkF m 154 #[.val (.int n), .val (.int c0_), .val (.int c1_), .val (.int c2_), .val (.int c3_), .val (.int c4_), .val (.int c5_), .val (.int c6_)] [])) (OEndW s Z consts_1 (fun v h L => ∃ x : Addr, v = some (.ref x) ∧ Fr n0 L ∧ Ext h0 h ∧ OStr Z h x (own_mk n c0_ c1_ c2_ c3_ c4_ c5_ c6_)) ({ frames := 4, cells := 6, slots := 18, locals := 66 } : Room).cells ({ frames := 4, cells := 6, slots := 18, locals := 66 } : Room).slots)
                obtain ⟨T177, h177, X177, e177, E177, A177, D177, U177, st177⟩ := newO X0 hx hZ hown (hw _ (List.mem_of_getElem? (i := 41) rfl)) (hw _ (List.mem_of_getElem? (i := 7) rfl)) (hw _ (List.mem_of_getElem? (i := 6) rfl)) e0 (g := (mkF m 154 #[.val (.int n), .val (.int c0_), .val (.int c1_), .val (.int c2_), .val (.int c3_), .val (.int c4_), .val (.int c5_), .val (.int c6_)] [])) rfl (hb hby own_d_method_3_code_154) (by decide) (by decide)
                obtain ⟨x, g177⟩ : ∃ z, z = h0.size := ⟨_, rfl⟩
                rw [← g177] at A177 D177 U177 st177
                refine OGo.step st177 ?_
                show OGo p e below (T177.setTop (mkF m 157 #[.val (.int n), .val (.int c0_), .val (.int c1_), .val (.int c2_), .val (.int c3_), .val (.int c4_), .val (.int c5_), .val (.int c6_)] [(.ref x)])) (OEndW s Z consts_1 (fun v h L => ∃ x : Addr, v = some (.ref x) ∧ Fr n0 L ∧ Ext h0 h ∧ OStr Z h x (own_mk n c0_ c1_ c2_ c3_ c4_ c5_ c6_)) ({ frames := 4, cells := 6, slots := 18, locals := 66 } : Room).cells ({ frames := 4, cells := 6, slots := 18, locals := 66 } : Room).slots)
                have gf_x : n0 ≤ x := Nat.le_trans Z0 (Nat.le_of_eq g177.symm)
                have sz177 : n0 ≤ h177.size := Nat.le_trans Z0 E177.1
                have OW178 := OW0.ext E177
                have F177_value : Fld Z h177 x "java/lang/String" "value" "[B" .null := D177 (Or.inr (hw _ (List.mem_of_getElem? (i := 9) rfl))) (ty := (.array .byte)) (by decide)
                have F177_coder : Fld Z h177 x "java/lang/String" "coder" "B" (.int (0 : Int32)) := D177 (Or.inr (hw _ (List.mem_of_getElem? (i := 10) rfl))) (ty := .byte) (by decide)
                have sf179 := own_safe_null (EL := consts_1) OW178.2.1.alike A177 F177_value
                refine OGo.step (fun _ kk => XS.dup X177.here hx rfl (hb hby own_d_method_3_code_157) rfl rfl kk) ?_
                show OGo p e below (T177.setTop (mkF m 158 #[.val (.int n), .val (.int c0_), .val (.int c1_), .val (.int c2_), .val (.int c3_), .val (.int c4_), .val (.int c5_), .val (.int c6_)] [(.ref x), (.ref x)])) (OEndW s Z consts_1 (fun v h L => ∃ x : Addr, v = some (.ref x) ∧ Fr n0 L ∧ Ext h0 h ∧ OStr Z h x (own_mk n c0_ c1_ c2_ c3_ c4_ c5_ c6_)) ({ frames := 4, cells := 6, slots := 18, locals := 66 } : Room).cells ({ frames := 4, cells := 6, slots := 18, locals := 66 } : Room).slots)
                refine OGo.step (fun _ kk => XS.bipush X177.here hx rfl (hb hby own_d_method_3_code_158) kk) ?_
                show OGo p e below (T177.setTop (mkF m 160 #[.val (.int n), .val (.int c0_), .val (.int c1_), .val (.int c2_), .val (.int c3_), .val (.int c4_), .val (.int c5_), .val (.int c6_)] [(.int (6 : Int32)), (.ref x), (.ref x)])) (OEndW s Z consts_1 (fun v h L => ∃ x : Addr, v = some (.ref x) ∧ Fr n0 L ∧ Ext h0 h ∧ OStr Z h x (own_mk n c0_ c1_ c2_ c3_ c4_ c5_ c6_)) ({ frames := 4, cells := 6, slots := 18, locals := 66 } : Room).cells ({ frames := 4, cells := 6, slots := 18, locals := 66 } : Room).slots)
                obtain ⟨T180, h180, k180, X180, e180, E180, A180, st180⟩ := newP X177 hx hZ (hw _ (List.mem_of_getElem? (i := 42) rfl)) e177 (g := (mkF m 160 #[.val (.int n), .val (.int c0_), .val (.int c1_), .val (.int c2_), .val (.int c3_), .val (.int c4_), .val (.int c5_), .val (.int c6_)] [(.int (6 : Int32)), (.ref x), (.ref x)])) rfl (hb hby own_d_method_3_code_160) rfl (by decide) (cap := 6) (by decide) (by decide) (by decide) (by decide)
                obtain ⟨b, g180⟩ : ∃ z, z = h177.size := ⟨_, rfl⟩
                rw [← g180] at A180 st180
                refine OGo.step st180 ?_
                show OGo p e below (T180.setTop (mkF m 162 #[.val (.int n), .val (.int c0_), .val (.int c1_), .val (.int c2_), .val (.int c3_), .val (.int c4_), .val (.int c5_), .val (.int c6_)] [(.ref b), (.ref x), (.ref x)])) (OEndW s Z consts_1 (fun v h L => ∃ x : Addr, v = some (.ref x) ∧ Fr n0 L ∧ Ext h0 h ∧ OStr Z h x (own_mk n c0_ c1_ c2_ c3_ c4_ c5_ c6_)) ({ frames := 4, cells := 6, slots := 18, locals := 66 } : Room).cells ({ frames := 4, cells := 6, slots := 18, locals := 66 } : Room).slots)
                have ne_x_b : x ≠ b := Nat.ne_of_lt (Nat.lt_of_lt_of_le A177.lt (Nat.le_of_eq g180.symm))
                have gf_b : n0 ≤ b := Nat.le_trans sz177 (Nat.le_of_eq g180.symm)
                have sz180 : n0 ≤ h180.size := Nat.le_trans sz177 E180.1
                have sf181 := Safe.ext E180 OW178.chv sf179
                have OW182 := OW178.ext E180
                have Va183 : Arv Z h180 b k180 .char (6 : Int32) [(.int (0 : Int32)), (.int (0 : Int32)), (.int (0 : Int32)), (.int (0 : Int32)), (.int (0 : Int32)), (.int (0 : Int32))] (.int (0 : Int32)) := (Arv.new A180 (by decide)).pad (pad_rep [] (.int (0 : Int32)) 6)
                refine OGo.step (fun _ kk => XS.dup X180.here hx rfl (hb hby own_d_method_3_code_162) rfl rfl kk) ?_
                show OGo p e below (T180.setTop (mkF m 163 #[.val (.int n), .val (.int c0_), .val (.int c1_), .val (.int c2_), .val (.int c3_), .val (.int c4_), .val (.int c5_), .val (.int c6_)] [(.ref b), (.ref b), (.ref x), (.ref x)])) (OEndW s Z consts_1 (fun v h L => ∃ x : Addr, v = some (.ref x) ∧ Fr n0 L ∧ Ext h0 h ∧ OStr Z h x (own_mk n c0_ c1_ c2_ c3_ c4_ c5_ c6_)) ({ frames := 4, cells := 6, slots := 18, locals := 66 } : Room).cells ({ frames := 4, cells := 6, slots := 18, locals := 66 } : Room).slots)
                refine OGo.step (fun _ kk => XS.iconst X180.here hx rfl (hb hby own_d_method_3_code_163) kk) ?_
                show OGo p e below (T180.setTop (mkF m 164 #[.val (.int n), .val (.int c0_), .val (.int c1_), .val (.int c2_), .val (.int c3_), .val (.int c4_), .val (.int c5_), .val (.int c6_)] [(.int (0 : Int32)), (.ref b), (.ref b), (.ref x), (.ref x)])) (OEndW s Z consts_1 (fun v h L => ∃ x : Addr, v = some (.ref x) ∧ Fr n0 L ∧ Ext h0 h ∧ OStr Z h x (own_mk n c0_ c1_ c2_ c3_ c4_ c5_ c6_)) ({ frames := 4, cells := 6, slots := 18, locals := 66 } : Room).cells ({ frames := 4, cells := 6, slots := 18, locals := 66 } : Room).slots)
                refine OGo.step (fun _ kk => XS.iloadN X180.here hx rfl (hb hby own_d_method_3_code_164) rfl kk) ?_
                show OGo p e below (T180.setTop (mkF m 165 #[.val (.int n), .val (.int c0_), .val (.int c1_), .val (.int c2_), .val (.int c3_), .val (.int c4_), .val (.int c5_), .val (.int c6_)] [(.int c0_), (.int (0 : Int32)), (.ref b), (.ref b), (.ref x), (.ref x)])) (OEndW s Z consts_1 (fun v h L => ∃ x : Addr, v = some (.ref x) ∧ Fr n0 L ∧ Ext h0 h ∧ OStr Z h x (own_mk n c0_ c1_ c2_ c3_ c4_ c5_ c6_)) ({ frames := 4, cells := 6, slots := 18, locals := 66 } : Room).cells ({ frames := 4, cells := 6, slots := 18, locals := 66 } : Room).slots)
                obtain ⟨cA184, A184, q184, S184, M184, H184, G184⟩ := Va183
                obtain ⟨T185, h185, X185, e185, W185, st185⟩ := stC X180 hx hZ e180 A184 (j := (0 : Int32)) (inb_of S184 ⟨by decide, by decide⟩) (g := (mkF m 165 #[.val (.int n), .val (.int c0_), .val (.int c1_), .val (.int c2_), .val (.int c3_), .val (.int c4_), .val (.int c5_), .val (.int c6_)] [(.int c0_), (.int (0 : Int32)), (.ref b), (.ref b), (.ref x), (.ref x)])) rfl rfl (hb hby own_d_method_3_code_165)
                refine OGo.step st185 ?_
                show OGo p e below (T185.setTop (mkF m 166 #[.val (.int n), .val (.int c0_), .val (.int c1_), .val (.int c2_), .val (.int c3_), .val (.int c4_), .val (.int c5_), .val (.int c6_)] [(.ref b), (.ref x), (.ref x)])) (OEndW s Z consts_1 (fun v h L => ∃ x : Addr, v = some (.ref x) ∧ Fr n0 L ∧ Ext h0 h ∧ OStr Z h x (own_mk n c0_ c1_ c2_ c3_ c4_ c5_ c6_)) ({ frames := 4, cells := 6, slots := 18, locals := 66 } : Room).cells ({ frames := 4, cells := 6, slots := 18, locals := 66 } : Room).slots)
                have Va184 : Arv Z h185 b k180 .char (6 : Int32) [(.int (nar .char c0_)), (.int (0 : Int32)), (.int (0 : Int32)), (.int (0 : Int32)), (.int (0 : Int32)), (.int (0 : Int32))] (.int (0 : Int32)) := Arv.set A184 q184 S184 M184 H184 G184 (fits_nar_char _) W185 0 rfl (Nat.le_of_ble_eq_true rfl)
                have Nf185 := Fr.snoc X185 (Fr.nil n0) gf_b
                have sz185 : n0 ≤ h185.size := by rw [W185.size]; exact sz180
                have sw186 := (Safe.arr (EL := consts_1) OW182.2.1.alike A184 (by decide))
                have sf187 := Safe.wr W185 sw186 OW182.chv sf181
                have OW188 := OW182.wr W185 sw186
                refine OGo.step (fun _ kk => XS.dup X185.here hx rfl (hb hby own_d_method_3_code_166) rfl rfl kk) ?_
                show OGo p e below (T185.setTop (mkF m 167 #[.val (.int n), .val (.int c0_), .val (.int c1_), .val (.int c2_), .val (.int c3_), .val (.int c4_), .val (.int c5_), .val (.int c6_)] [(.ref b), (.ref b), (.ref x), (.ref x)])) (OEndW s Z consts_1 (fun v h L => ∃ x : Addr, v = some (.ref x) ∧ Fr n0 L ∧ Ext h0 h ∧ OStr Z h x (own_mk n c0_ c1_ c2_ c3_ c4_ c5_ c6_)) ({ frames := 4, cells := 6, slots := 18, locals := 66 } : Room).cells ({ frames := 4, cells := 6, slots := 18, locals := 66 } : Room).slots)
                refine OGo.step (fun _ kk => XS.iconst X185.here hx rfl (hb hby own_d_method_3_code_167) kk) ?_
                show OGo p e below (T185.setTop (mkF m 168 #[.val (.int n), .val (.int c0_), .val (.int c1_), .val (.int c2_), .val (.int c3_), .val (.int c4_), .val (.int c5_), .val (.int c6_)] [(.int (1 : Int32)), (.ref b), (.ref b), (.ref x), (.ref x)])) (OEndW s Z consts_1 (fun v h L => ∃ x : Addr, v = some (.ref x) ∧ Fr n0 L ∧ Ext h0 h ∧ OStr Z h x (own_mk n c0_ c1_ c2_ c3_ c4_ c5_ c6_)) ({ frames := 4, cells := 6, slots := 18, locals := 66 } : Room).cells ({ frames := 4, cells := 6, slots := 18, locals := 66 } : Room).slots)
                refine OGo.step (fun _ kk => XS.iloadN X185.here hx rfl (hb hby own_d_method_3_code_168) rfl kk) ?_
                show OGo p e below (T185.setTop (mkF m 169 #[.val (.int n), .val (.int c0_), .val (.int c1_), .val (.int c2_), .val (.int c3_), .val (.int c4_), .val (.int c5_), .val (.int c6_)] [(.int c1_), (.int (1 : Int32)), (.ref b), (.ref b), (.ref x), (.ref x)])) (OEndW s Z consts_1 (fun v h L => ∃ x : Addr, v = some (.ref x) ∧ Fr n0 L ∧ Ext h0 h ∧ OStr Z h x (own_mk n c0_ c1_ c2_ c3_ c4_ c5_ c6_)) ({ frames := 4, cells := 6, slots := 18, locals := 66 } : Room).cells ({ frames := 4, cells := 6, slots := 18, locals := 66 } : Room).slots)
                obtain ⟨cA189, A189, q189, S189, M189, H189, G189⟩ := Va184
                obtain ⟨T190, h190, X190, e190, W190, st190⟩ := stC X185 hx hZ e185 A189 (j := (1 : Int32)) (inb_of S189 ⟨by decide, by decide⟩) (g := (mkF m 169 #[.val (.int n), .val (.int c0_), .val (.int c1_), .val (.int c2_), .val (.int c3_), .val (.int c4_), .val (.int c5_), .val (.int c6_)] [(.int c1_), (.int (1 : Int32)), (.ref b), (.ref b), (.ref x), (.ref x)])) rfl rfl (hb hby own_d_method_3_code_169)
                refine OGo.step st190 ?_
                show OGo p e below (T190.setTop (mkF m 170 #[.val (.int n), .val (.int c0_), .val (.int c1_), .val (.int c2_), .val (.int c3_), .val (.int c4_), .val (.int c5_), .val (.int c6_)] [(.ref b), (.ref x), (.ref x)])) (OEndW s Z consts_1 (fun v h L => ∃ x : Addr, v = some (.ref x) ∧ Fr n0 L ∧ Ext h0 h ∧ OStr Z h x (own_mk n c0_ c1_ c2_ c3_ c4_ c5_ c6_)) ({ frames := 4, cells := 6, slots := 18, locals := 66 } : Room).cells ({ frames := 4, cells := 6, slots := 18, locals := 66 } : Room).slots)
                have Va189 : Arv Z h190 b k180 .char (6 : Int32) [(.int (nar .char c0_)), (.int (nar .char c1_)), (.int (0 : Int32)), (.int (0 : Int32)), (.int (0 : Int32)), (.int (0 : Int32))] (.int (0 : Int32)) := Arv.set A189 q189 S189 M189 H189 G189 (fits_nar_char _) W190 1 rfl (Nat.le_of_ble_eq_true rfl)
                have Nf190 := Fr.snoc X190 Nf185 gf_b
                have sz190 : n0 ≤ h190.size := by rw [W190.size]; exact sz185
                have sw191 := (Safe.arr (EL := consts_1) OW188.2.1.alike A189 (by decide))
                have sf192 := Safe.wr W190 sw191 OW188.chv sf187
                have OW193 := OW188.wr W190 sw191
                refine OGo.step (fun _ kk => XS.dup X190.here hx rfl (hb hby own_d_method_3_code_170) rfl rfl kk) ?_
                show OGo p e below (T190.setTop (mkF m 171 #[.val (.int n), .val (.int c0_), .val (.int c1_), .val (.int c2_), .val (.int c3_), .val (.int c4_), .val (.int c5_), .val (.int c6_)] [(.ref b), (.ref b), (.ref x), (.ref x)])) (OEndW s Z consts_1 (fun v h L => ∃ x : Addr, v = some (.ref x) ∧ Fr n0 L ∧ Ext h0 h ∧ OStr Z h x (own_mk n c0_ c1_ c2_ c3_ c4_ c5_ c6_)) ({ frames := 4, cells := 6, slots := 18, locals := 66 } : Room).cells ({ frames := 4, cells := 6, slots := 18, locals := 66 } : Room).slots)
                refine OGo.step (fun _ kk => XS.iconst X190.here hx rfl (hb hby own_d_method_3_code_171) kk) ?_
                show OGo p e below (T190.setTop (mkF m 172 #[.val (.int n), .val (.int c0_), .val (.int c1_), .val (.int c2_), .val (.int c3_), .val (.int c4_), .val (.int c5_), .val (.int c6_)] [(.int (2 : Int32)), (.ref b), (.ref b), (.ref x), (.ref x)])) (OEndW s Z consts_1 (fun v h L => ∃ x : Addr, v = some (.ref x) ∧ Fr n0 L ∧ Ext h0 h ∧ OStr Z h x (own_mk n c0_ c1_ c2_ c3_ c4_ c5_ c6_)) ({ frames := 4, cells := 6, slots := 18, locals := 66 } : Room).cells ({ frames := 4, cells := 6, slots := 18, locals := 66 } : Room).slots)
                refine OGo.step (fun _ kk => XS.iloadN X190.here hx rfl (hb hby own_d_method_3_code_172) rfl kk) ?_
                show OGo p e below (T190.setTop (mkF m 173 #[.val (.int n), .val (.int c0_), .val (.int c1_), .val (.int c2_), .val (.int c3_), .val (.int c4_), .val (.int c5_), .val (.int c6_)] [(.int c2_), (.int (2 : Int32)), (.ref b), (.ref b), (.ref x), (.ref x)])) (OEndW s Z consts_1 (fun v h L => ∃ x : Addr, v = some (.ref x) ∧ Fr n0 L ∧ Ext h0 h ∧ OStr Z h x (own_mk n c0_ c1_ c2_ c3_ c4_ c5_ c6_)) ({ frames := 4, cells := 6, slots := 18, locals := 66 } : Room).cells ({ frames := 4, cells := 6, slots := 18, locals := 66 } : Room).slots)
                obtain ⟨cA194, A194, q194, S194, M194, H194, G194⟩ := Va189
                obtain ⟨T195, h195, X195, e195, W195, st195⟩ := stC X190 hx hZ e190 A194 (j := (2 : Int32)) (inb_of S194 ⟨by decide, by decide⟩) (g := (mkF m 173 #[.val (.int n), .val (.int c0_), .val (.int c1_), .val (.int c2_), .val (.int c3_), .val (.int c4_), .val (.int c5_), .val (.int c6_)] [(.int c2_), (.int (2 : Int32)), (.ref b), (.ref b), (.ref x), (.ref x)])) rfl rfl (hb hby own_d_method_3_code_173)
                refine OGo.step st195 ?_
                show OGo p e below (T195.setTop (mkF m 174 #[.val (.int n), .val (.int c0_), .val (.int c1_), .val (.int c2_), .val (.int c3_), .val (.int c4_), .val (.int c5_), .val (.int c6_)] [(.ref b), (.ref x), (.ref x)])) (OEndW s Z consts_1 (fun v h L => ∃ x : Addr, v = some (.ref x) ∧ Fr n0 L ∧ Ext h0 h ∧ OStr Z h x (own_mk n c0_ c1_ c2_ c3_ c4_ c5_ c6_)) ({ frames := 4, cells := 6, slots := 18, locals := 66 } : Room).cells ({ frames := 4, cells := 6, slots := 18, locals := 66 } : Room).slots)
                have Va194 : Arv Z h195 b k180 .char (6 : Int32) [(.int (nar .char c0_)), (.int (nar .char c1_)), (.int (nar .char c2_)), (.int (0 : Int32)), (.int (0 : Int32)), (.int (0 : Int32))] (.int (0 : Int32)) := Arv.set A194 q194 S194 M194 H194 G194 (fits_nar_char _) W195 2 rfl (Nat.le_of_ble_eq_true rfl)
                have Nf195 := Fr.snoc X195 Nf190 gf_b
                have sz195 : n0 ≤ h195.size := by rw [W195.size]; exact sz190
                have sw196 := (Safe.arr (EL := consts_1) OW193.2.1.alike A194 (by decide))
                have sf197 := Safe.wr W195 sw196 OW193.chv sf192
                have OW198 := OW193.wr W195 sw196
                refine OGo.step (fun _ kk => XS.dup X195.here hx rfl (hb hby own_d_method_3_code_174) rfl rfl kk) ?_
                show OGo p e below (T195.setTop (mkF m 175 #[.val (.int n), .val (.int c0_), .val (.int c1_), .val (.int c2_), .val (.int c3_), .val (.int c4_), .val (.int c5_), .val (.int c6_)] [(.ref b), (.ref b), (.ref x), (.ref x)])) (OEndW s Z consts_1 (fun v h L => ∃ x : Addr, v = some (.ref x) ∧ Fr n0 L ∧ Ext h0 h ∧ OStr Z h x (own_mk n c0_ c1_ c2_ c3_ c4_ c5_ c6_)) ({ frames := 4, cells := 6, slots := 18, locals := 66 } : Room).cells ({ frames := 4, cells := 6, slots := 18, locals := 66 } : Room).slots)
                refine OGo.step (fun _ kk => XS.iconst X195.here hx rfl (hb hby own_d_method_3_code_175) kk) ?_
                show OGo p e below (T195.setTop (mkF m 176 #[.val (.int n), .val (.int c0_), .val (.int c1_), .val (.int c2_), .val (.int c3_), .val (.int c4_), .val (.int c5_), .val (.int c6_)] [(.int (3 : Int32)), (.ref b), (.ref b), (.ref x), (.ref x)])) (OEndW s Z consts_1 (fun v h L => ∃ x : Addr, v = some (.ref x) ∧ Fr n0 L ∧ Ext h0 h ∧ OStr Z h x (own_mk n c0_ c1_ c2_ c3_ c4_ c5_ c6_)) ({ frames := 4, cells := 6, slots := 18, locals := 66 } : Room).cells ({ frames := 4, cells := 6, slots := 18, locals := 66 } : Room).slots)
                refine OGo.step (fun _ kk => XS.iload X195.here hx rfl (hb hby own_d_method_3_code_176) rfl kk) ?_
                show OGo p e below (T195.setTop (mkF m 178 #[.val (.int n), .val (.int c0_), .val (.int c1_), .val (.int c2_), .val (.int c3_), .val (.int c4_), .val (.int c5_), .val (.int c6_)] [(.int c3_), (.int (3 : Int32)), (.ref b), (.ref b), (.ref x), (.ref x)])) (OEndW s Z consts_1 (fun v h L => ∃ x : Addr, v = some (.ref x) ∧ Fr n0 L ∧ Ext h0 h ∧ OStr Z h x (own_mk n c0_ c1_ c2_ c3_ c4_ c5_ c6_)) ({ frames := 4, cells := 6, slots := 18, locals := 66 } : Room).cells ({ frames := 4, cells := 6, slots := 18, locals := 66 } : Room).slots)
                obtain ⟨cA199, A199, q199, S199, M199, H199, G199⟩ := Va194
                obtain ⟨T200, h200, X200, e200, W200, st200⟩ := stC X195 hx hZ e195 A199 (j := (3 : Int32)) (inb_of S199 ⟨by decide, by decide⟩) (g := (mkF m 178 #[.val (.int n), .val (.int c0_), .val (.int c1_), .val (.int c2_), .val (.int c3_), .val (.int c4_), .val (.int c5_), .val (.int c6_)] [(.int c3_), (.int (3 : Int32)), (.ref b), (.ref b), (.ref x), (.ref x)])) rfl rfl (hb hby own_d_method_3_code_178)
                refine OGo.step st200 ?_
                show OGo p e below (T200.setTop (mkF m 179 #[.val (.int n), .val (.int c0_), .val (.int c1_), .val (.int c2_), .val (.int c3_), .val (.int c4_), .val (.int c5_), .val (.int c6_)] [(.ref b), (.ref x), (.ref x)])) (OEndW s Z consts_1 (fun v h L => ∃ x : Addr, v = some (.ref x) ∧ Fr n0 L ∧ Ext h0 h ∧ OStr Z h x (own_mk n c0_ c1_ c2_ c3_ c4_ c5_ c6_)) ({ frames := 4, cells := 6, slots := 18, locals := 66 } : Room).cells ({ frames := 4, cells := 6, slots := 18, locals := 66 } : Room).slots)
                have Va199 : Arv Z h200 b k180 .char (6 : Int32) [(.int (nar .char c0_)), (.int (nar .char c1_)), (.int (nar .char c2_)), (.int (nar .char c3_)), (.int (0 : Int32)), (.int (0 : Int32))] (.int (0 : Int32)) := Arv.set A199 q199 S199 M199 H199 G199 (fits_nar_char _) W200 3 rfl (Nat.le_of_ble_eq_true rfl)
                have Nf200 := Fr.snoc X200 Nf195 gf_b
                have sz200 : n0 ≤ h200.size := by rw [W200.size]; exact sz195
                have sw201 := (Safe.arr (EL := consts_1) OW198.2.1.alike A199 (by decide))
                have sf202 := Safe.wr W200 sw201 OW198.chv sf197
                have OW203 := OW198.wr W200 sw201
                refine OGo.step (fun _ kk => XS.dup X200.here hx rfl (hb hby own_d_method_3_code_179) rfl rfl kk) ?_
                show OGo p e below (T200.setTop (mkF m 180 #[.val (.int n), .val (.int c0_), .val (.int c1_), .val (.int c2_), .val (.int c3_), .val (.int c4_), .val (.int c5_), .val (.int c6_)] [(.ref b), (.ref b), (.ref x), (.ref x)])) (OEndW s Z consts_1 (fun v h L => ∃ x : Addr, v = some (.ref x) ∧ Fr n0 L ∧ Ext h0 h ∧ OStr Z h x (own_mk n c0_ c1_ c2_ c3_ c4_ c5_ c6_)) ({ frames := 4, cells := 6, slots := 18, locals := 66 } : Room).cells ({ frames := 4, cells := 6, slots := 18, locals := 66 } : Room).slots)
                refine OGo.step (fun _ kk => XS.iconst X200.here hx rfl (hb hby own_d_method_3_code_180) kk) ?_
                show OGo p e below (T200.setTop (mkF m 181 #[.val (.int n), .val (.int c0_), .val (.int c1_), .val (.int c2_), .val (.int c3_), .val (.int c4_), .val (.int c5_), .val (.int c6_)] [(.int (4 : Int32)), (.ref b), (.ref b), (.ref x), (.ref x)])) (OEndW s Z consts_1 (fun v h L => ∃ x : Addr, v = some (.ref x) ∧ Fr n0 L ∧ Ext h0 h ∧ OStr Z h x (own_mk n c0_ c1_ c2_ c3_ c4_ c5_ c6_)) ({ frames := 4, cells := 6, slots := 18, locals := 66 } : Room).cells ({ frames := 4, cells := 6, slots := 18, locals := 66 } : Room).slots)
                refine OGo.step (fun _ kk => XS.iload X200.here hx rfl (hb hby own_d_method_3_code_181) rfl kk) ?_
                show OGo p e below (T200.setTop (mkF m 183 #[.val (.int n), .val (.int c0_), .val (.int c1_), .val (.int c2_), .val (.int c3_), .val (.int c4_), .val (.int c5_), .val (.int c6_)] [(.int c4_), (.int (4 : Int32)), (.ref b), (.ref b), (.ref x), (.ref x)])) (OEndW s Z consts_1 (fun v h L => ∃ x : Addr, v = some (.ref x) ∧ Fr n0 L ∧ Ext h0 h ∧ OStr Z h x (own_mk n c0_ c1_ c2_ c3_ c4_ c5_ c6_)) ({ frames := 4, cells := 6, slots := 18, locals := 66 } : Room).cells ({ frames := 4, cells := 6, slots := 18, locals := 66 } : Room).slots)
                obtain ⟨cA204, A204, q204, S204, M204, H204, G204⟩ := Va199
                obtain ⟨T205, h205, X205, e205, W205, st205⟩ := stC X200 hx hZ e200 A204 (j := (4 : Int32)) (inb_of S204 ⟨by decide, by decide⟩) (g := (mkF m 183 #[.val (.int n), .val (.int c0_), .val (.int c1_), .val (.int c2_), .val (.int c3_), .val (.int c4_), .val (.int c5_), .val (.int c6_)] [(.int c4_), (.int (4 : Int32)), (.ref b), (.ref b), (.ref x), (.ref x)])) rfl rfl (hb hby own_d_method_3_code_183)
                refine OGo.step st205 ?_
                show OGo p e below (T205.setTop (mkF m 184 #[.val (.int n), .val (.int c0_), .val (.int c1_), .val (.int c2_), .val (.int c3_), .val (.int c4_), .val (.int c5_), .val (.int c6_)] [(.ref b), (.ref x), (.ref x)])) (OEndW s Z consts_1 (fun v h L => ∃ x : Addr, v = some (.ref x) ∧ Fr n0 L ∧ Ext h0 h ∧ OStr Z h x (own_mk n c0_ c1_ c2_ c3_ c4_ c5_ c6_)) ({ frames := 4, cells := 6, slots := 18, locals := 66 } : Room).cells ({ frames := 4, cells := 6, slots := 18, locals := 66 } : Room).slots)
                have Va204 : Arv Z h205 b k180 .char (6 : Int32) [(.int (nar .char c0_)), (.int (nar .char c1_)), (.int (nar .char c2_)), (.int (nar .char c3_)), (.int (nar .char c4_)), (.int (0 : Int32))] (.int (0 : Int32)) := Arv.set A204 q204 S204 M204 H204 G204 (fits_nar_char _) W205 4 rfl (Nat.le_of_ble_eq_true rfl)
                have Nf205 := Fr.snoc X205 Nf200 gf_b
                have sz205 : n0 ≤ h205.size := by rw [W205.size]; exact sz200
                have sw206 := (Safe.arr (EL := consts_1) OW203.2.1.alike A204 (by decide))
                have sf207 := Safe.wr W205 sw206 OW203.chv sf202
                have OW208 := OW203.wr W205 sw206
                refine OGo.step (fun _ kk => XS.dup X205.here hx rfl (hb hby own_d_method_3_code_184) rfl rfl kk) ?_
                show OGo p e below (T205.setTop (mkF m 185 #[.val (.int n), .val (.int c0_), .val (.int c1_), .val (.int c2_), .val (.int c3_), .val (.int c4_), .val (.int c5_), .val (.int c6_)] [(.ref b), (.ref b), (.ref x), (.ref x)])) (OEndW s Z consts_1 (fun v h L => ∃ x : Addr, v = some (.ref x) ∧ Fr n0 L ∧ Ext h0 h ∧ OStr Z h x (own_mk n c0_ c1_ c2_ c3_ c4_ c5_ c6_)) ({ frames := 4, cells := 6, slots := 18, locals := 66 } : Room).cells ({ frames := 4, cells := 6, slots := 18, locals := 66 } : Room).slots)
                refine OGo.step (fun _ kk => XS.iconst X205.here hx rfl (hb hby own_d_method_3_code_185) kk) ?_
                show OGo p e below (T205.setTop (mkF m 186 #[.val (.int n), .val (.int c0_), .val (.int c1_), .val (.int c2_), .val (.int c3_), .val (.int c4_), .val (.int c5_), .val (.int c6_)] [(.int (5 : Int32)), (.ref b), (.ref b), (.ref x), (.ref x)])) (OEndW s Z consts_1 (fun v h L => ∃ x : Addr, v = some (.ref x) ∧ Fr n0 L ∧ Ext h0 h ∧ OStr Z h x (own_mk n c0_ c1_ c2_ c3_ c4_ c5_ c6_)) ({ frames := 4, cells := 6, slots := 18, locals := 66 } : Room).cells ({ frames := 4, cells := 6, slots := 18, locals := 66 } : Room).slots)
                refine OGo.step (fun _ kk => XS.iload X205.here hx rfl (hb hby own_d_method_3_code_186) rfl kk) ?_
                show OGo p e below (T205.setTop (mkF m 188 #[.val (.int n), .val (.int c0_), .val (.int c1_), .val (.int c2_), .val (.int c3_), .val (.int c4_), .val (.int c5_), .val (.int c6_)] [(.int c5_), (.int (5 : Int32)), (.ref b), (.ref b), (.ref x), (.ref x)])) (OEndW s Z consts_1 (fun v h L => ∃ x : Addr, v = some (.ref x) ∧ Fr n0 L ∧ Ext h0 h ∧ OStr Z h x (own_mk n c0_ c1_ c2_ c3_ c4_ c5_ c6_)) ({ frames := 4, cells := 6, slots := 18, locals := 66 } : Room).cells ({ frames := 4, cells := 6, slots := 18, locals := 66 } : Room).slots)
                obtain ⟨cA209, A209, q209, S209, M209, H209, G209⟩ := Va204
                obtain ⟨T210, h210, X210, e210, W210, st210⟩ := stC X205 hx hZ e205 A209 (j := (5 : Int32)) (inb_of S209 ⟨by decide, by decide⟩) (g := (mkF m 188 #[.val (.int n), .val (.int c0_), .val (.int c1_), .val (.int c2_), .val (.int c3_), .val (.int c4_), .val (.int c5_), .val (.int c6_)] [(.int c5_), (.int (5 : Int32)), (.ref b), (.ref b), (.ref x), (.ref x)])) rfl rfl (hb hby own_d_method_3_code_188)
                refine OGo.step st210 ?_
                show OGo p e below (T210.setTop (mkF m 189 #[.val (.int n), .val (.int c0_), .val (.int c1_), .val (.int c2_), .val (.int c3_), .val (.int c4_), .val (.int c5_), .val (.int c6_)] [(.ref b), (.ref x), (.ref x)])) (OEndW s Z consts_1 (fun v h L => ∃ x : Addr, v = some (.ref x) ∧ Fr n0 L ∧ Ext h0 h ∧ OStr Z h x (own_mk n c0_ c1_ c2_ c3_ c4_ c5_ c6_)) ({ frames := 4, cells := 6, slots := 18, locals := 66 } : Room).cells ({ frames := 4, cells := 6, slots := 18, locals := 66 } : Room).slots)
                have Va209 : Arv Z h210 b k180 .char (6 : Int32) [(.int (nar .char c0_)), (.int (nar .char c1_)), (.int (nar .char c2_)), (.int (nar .char c3_)), (.int (nar .char c4_)), (.int (nar .char c5_))] (.int (0 : Int32)) := Arv.set A209 q209 S209 M209 H209 G209 (fits_nar_char _) W210 5 rfl (Nat.le_of_ble_eq_true rfl)
                have Nf210 := Fr.snoc X210 Nf205 gf_b
                have sz210 : n0 ≤ h210.size := by rw [W210.size]; exact sz205
                have sw211 := (Safe.arr (EL := consts_1) OW208.2.1.alike A209 (by decide))
                have sf212 := Safe.wr W210 sw211 OW208.chv sf207
                have OW213 := OW208.wr W210 sw211
                have fc214 := (((((((A177.ext E180).wr W185).wr W190).wr W195).wr W200).wr W205).wr W210)
                have fc215 := (((((((F177_value.ext E180).other W185 (Or.inl ne_x_b)).other W190 (Or.inl ne_x_b)).other W195 (Or.inl ne_x_b)).other W200 (Or.inl ne_x_b)).other W205 (Or.inl ne_x_b)).other W210 (Or.inl ne_x_b))
                have fc216 := (((((((F177_coder.ext E180).other W185 (Or.inl ne_x_b)).other W190 (Or.inl ne_x_b)).other W195 (Or.inl ne_x_b)).other W200 (Or.inl ne_x_b)).other W205 (Or.inl ne_x_b)).other W210 (Or.inl ne_x_b))
                have hpx : ∀ c ∈ ([(nar .char c0_), (nar .char c1_), (nar .char c2_), (nar .char c3_), (nar .char c4_), (nar .char c5_)] : List Int32), ¬ c < 0 ∧ ¬ (255 : Int32) < c := (own_allS (own_nc hb0) (own_allS (own_nc hb1) (own_allS (own_nc hb2) (own_allS (own_nc hb3) (own_allS (own_nc hb4) (own_allS (own_nc hb5) own_all0))))))
                have xt217 := (own_ext_trans E177 E180)
                have xt218 := (own_ext_wr xt217 W185 (Nat.le_trans E177.1 (Nat.le_of_eq g180.symm)))
                have xt219 := (own_ext_wr xt218 W190 (Nat.le_trans E177.1 (Nat.le_of_eq g180.symm)))
                have xt220 := (own_ext_wr xt219 W195 (Nat.le_trans E177.1 (Nat.le_of_eq g180.symm)))
                have xt221 := (own_ext_wr xt220 W200 (Nat.le_trans E177.1 (Nat.le_of_eq g180.symm)))
                have xt222 := (own_ext_wr xt221 W205 (Nat.le_trans E177.1 (Nat.le_of_eq g180.symm)))
                have xt223 := (own_ext_wr xt222 W210 (Nat.le_trans E177.1 (Nat.le_of_eq g180.symm)))
                have fx224 := SC.ext xt223
                refine own_specialK X210 hx hZ (y := (⟨"java/lang/String", "<init>", "([C)V"⟩ : MethodName)) rfl hown (hw _ (List.mem_of_getElem? (i := 43) rfl)) (hw _ (List.mem_of_getElem? (i := 44) rfl)) (hw _ (List.mem_of_getElem? (i := 45) rfl)) (by decide) (a := x) (W := 1) (StrChars.Road.backV (W := 1) hZ (fun d hd => hw d ((by decide +kernel : ∀ d ∈ StrChars.Road.words, d ∈ tables_1) d hd)) (kI := 4) (hw _ (List.mem_of_getElem? (i := 7) rfl)) (cs := ([(nar .char c0_), (nar .char c1_), (nar .char c2_), (nar .char c3_), (nar .char c4_), (nar .char c5_)] : List Int32)) (bs := (([(nar .char c0_), (nar .char c1_), (nar .char c2_), (nar .char c3_), (nar .char c4_), (nar .char c5_)] : List Int32)).map (fun c => c.toInt8.toInt32)) (n := 6) gf_x sz210 fc214 fc215 fc216 Va209 fx224 hzc rfl rfl (by decide) (by decide) hpx rfl (by decide) (by decide)) e210 (pc := 189) (Ls := #[.val (.int n), .val (.int c0_), .val (.int c1_), .val (.int c2_), .val (.int c3_), .val (.int c4_), .val (.int c5_), .val (.int c6_)]) (argsL := [(.ref b)]) (rest := [(.ref x)]) (by rw [hml]; rfl) (lenOf own_pd1 rfl) rfl (hb hby own_d_method_3_code_189) (by decide) (by decide) ?_
                intro v225 T225 L225 X225 hQ225
                obtain ⟨rfl, N225, K225, Ex225, Fc225, t225, kb225, u1225, u2225, u3225, Fv225, Av225⟩ := hQ225
                show OGo p e below (T225.setTop (mkF m 192 #[.val (.int n), .val (.int c0_), .val (.int c1_), .val (.int c2_), .val (.int c3_), .val (.int c4_), .val (.int c5_), .val (.int c6_)] [(.ref x)])) (OEndW s Z consts_1 (fun v h L => ∃ x : Addr, v = some (.ref x) ∧ Fr n0 L ∧ Ext h0 h ∧ OStr Z h x (own_mk n c0_ c1_ c2_ c3_ c4_ c5_ c6_)) ({ frames := 4, cells := 6, slots := 18, locals := 66 } : Room).cells ({ frames := 4, cells := 6, slots := 18, locals := 66 } : Room).slots)
                have Nc225 := Fr.app Nf210 N225
                have sz225 : n0 ≤ T225.heap.size := Nat.le_trans sz210 K225.1
                have sf226 := Safe.keep K225 (sfS sf212 sf0) OW213.chv sf212
                have OW227 := OW213.keep K225 (sfS sf212 sf0)
                have O225 : OStr Z T225.heap x ([(nar .char c0_), (nar .char c1_), (nar .char c2_), (nar .char c3_), (nar .char c4_), (nar .char c5_)] : List Int32) := ⟨t225, kb225, 0, (6 : Int32), _, Ex225, Fv225, Fc225, Av225, StrChars.Road.codOf (n := 6) rfl (fun c hc => (hpx c hc).2), own_up _ hpx, Nat.le_of_ble_eq_true rfl⟩
                have xt228 := (own_ext_keep xt223 K225 (allS (Nat.le_of_eq g177.symm) all0))
                have HO : OStr Z T225.heap x [c0_, c1_, c2_, c3_, c4_, c5_] := by simpa only [own_narC hb0, own_narC hb1, own_narC hb2, own_narC hb3, own_narC hb4, own_narC hb5] using O225
                exact own_retW X225 hx hlk hEL OW227 rfl hret rfl (Or.inr (Or.inr (Or.inr (Or.inr ⟨rfl, rfl, rfl⟩)))) (hb hby own_d_method_3_code_192) ⟨x, rfl, Nc225, xt228, by rw [own_mk, if_neg hn0, if_neg hn1, if_neg hn2, if_neg hn3, if_neg hn4, if_neg hn5, if_pos hn6]; exact HO⟩ (by decide) (by decide)
              · refine OGo.step (fun _ kk => XS.icmpYes X0.here hx rfl (pc0 := 151) (pc' := 193) rfl (hb hby own_d_method_3_code_151) rfl (feq hn6).2 (by decide) (by decide) kk) ?_
                show OGo p e below (s₁.setTop (mkF m 193 #[.val (.int n), .val (.int c0_), .val (.int c1_), .val (.int c2_), .val (.int c3_), .val (.int c4_), .val (.int c5_), .val (.int c6_)] [])) (OEndW s Z consts_1 (fun v h L => ∃ x : Addr, v = some (.ref x) ∧ Fr n0 L ∧ Ext h0 h ∧ OStr Z h x (own_mk n c0_ c1_ c2_ c3_ c4_ c5_ c6_)) ({ frames := 4, cells := 6, slots := 18, locals := 66 } : Room).cells ({ frames := 4, cells := 6, slots := 18, locals := 66 } : Room).slots)
                obtain ⟨T229, h229, X229, e229, E229, A229, D229, U229, st229⟩ := newO X0 hx hZ hown (hw _ (List.mem_of_getElem? (i := 41) rfl)) (hw _ (List.mem_of_getElem? (i := 7) rfl)) (hw _ (List.mem_of_getElem? (i := 6) rfl)) e0 (g := (mkF m 193 #[.val (.int n), .val (.int c0_), .val (.int c1_), .val (.int c2_), .val (.int c3_), .val (.int c4_), .val (.int c5_), .val (.int c6_)] [])) rfl (hb hby own_d_method_3_code_193) (by decide) (by decide)
                obtain ⟨x, g229⟩ : ∃ z, z = h0.size := ⟨_, rfl⟩
                rw [← g229] at A229 D229 U229 st229
                refine OGo.step st229 ?_
                show OGo p e below (T229.setTop (mkF m 196 #[.val (.int n), .val (.int c0_), .val (.int c1_), .val (.int c2_), .val (.int c3_), .val (.int c4_), .val (.int c5_), .val (.int c6_)] [(.ref x)])) (OEndW s Z consts_1 (fun v h L => ∃ x : Addr, v = some (.ref x) ∧ Fr n0 L ∧ Ext h0 h ∧ OStr Z h x (own_mk n c0_ c1_ c2_ c3_ c4_ c5_ c6_)) ({ frames := 4, cells := 6, slots := 18, locals := 66 } : Room).cells ({ frames := 4, cells := 6, slots := 18, locals := 66 } : Room).slots)
                have gf_x : n0 ≤ x := Nat.le_trans Z0 (Nat.le_of_eq g229.symm)
                have sz229 : n0 ≤ h229.size := Nat.le_trans Z0 E229.1
                have OW230 := OW0.ext E229
                have F229_value : Fld Z h229 x "java/lang/String" "value" "[B" .null := D229 (Or.inr (hw _ (List.mem_of_getElem? (i := 9) rfl))) (ty := (.array .byte)) (by decide)
                have F229_coder : Fld Z h229 x "java/lang/String" "coder" "B" (.int (0 : Int32)) := D229 (Or.inr (hw _ (List.mem_of_getElem? (i := 10) rfl))) (ty := .byte) (by decide)
                have sf231 := own_safe_null (EL := consts_1) OW230.2.1.alike A229 F229_value
                refine OGo.step (fun _ kk => XS.dup X229.here hx rfl (hb hby own_d_method_3_code_196) rfl rfl kk) ?_
                show OGo p e below (T229.setTop (mkF m 197 #[.val (.int n), .val (.int c0_), .val (.int c1_), .val (.int c2_), .val (.int c3_), .val (.int c4_), .val (.int c5_), .val (.int c6_)] [(.ref x), (.ref x)])) (OEndW s Z consts_1 (fun v h L => ∃ x : Addr, v = some (.ref x) ∧ Fr n0 L ∧ Ext h0 h ∧ OStr Z h x (own_mk n c0_ c1_ c2_ c3_ c4_ c5_ c6_)) ({ frames := 4, cells := 6, slots := 18, locals := 66 } : Room).cells ({ frames := 4, cells := 6, slots := 18, locals := 66 } : Room).slots)
                refine OGo.step (fun _ kk => XS.bipush X229.here hx rfl (hb hby own_d_method_3_code_197) kk) ?_
                show OGo p e below (T229.setTop (mkF m 199 #[.val (.int n), .val (.int c0_), .val (.int c1_), .val (.int c2_), .val (.int c3_), .val (.int c4_), .val (.int c5_), .val (.int c6_)] [(.int (7 : Int32)), (.ref x), (.ref x)])) (OEndW s Z consts_1 (fun v h L => ∃ x : Addr, v = some (.ref x) ∧ Fr n0 L ∧ Ext h0 h ∧ OStr Z h x (own_mk n c0_ c1_ c2_ c3_ c4_ c5_ c6_)) ({ frames := 4, cells := 6, slots := 18, locals := 66 } : Room).cells ({ frames := 4, cells := 6, slots := 18, locals := 66 } : Room).slots)
                obtain ⟨T232, h232, k232, X232, e232, E232, A232, st232⟩ := newP X229 hx hZ (hw _ (List.mem_of_getElem? (i := 42) rfl)) e229 (g := (mkF m 199 #[.val (.int n), .val (.int c0_), .val (.int c1_), .val (.int c2_), .val (.int c3_), .val (.int c4_), .val (.int c5_), .val (.int c6_)] [(.int (7 : Int32)), (.ref x), (.ref x)])) rfl (hb hby own_d_method_3_code_199) rfl (by decide) (cap := 7) (by decide) (by decide) (by decide) (by decide)
                obtain ⟨b, g232⟩ : ∃ z, z = h229.size := ⟨_, rfl⟩
                rw [← g232] at A232 st232
                refine OGo.step st232 ?_
                show OGo p e below (T232.setTop (mkF m 201 #[.val (.int n), .val (.int c0_), .val (.int c1_), .val (.int c2_), .val (.int c3_), .val (.int c4_), .val (.int c5_), .val (.int c6_)] [(.ref b), (.ref x), (.ref x)])) (OEndW s Z consts_1 (fun v h L => ∃ x : Addr, v = some (.ref x) ∧ Fr n0 L ∧ Ext h0 h ∧ OStr Z h x (own_mk n c0_ c1_ c2_ c3_ c4_ c5_ c6_)) ({ frames := 4, cells := 6, slots := 18, locals := 66 } : Room).cells ({ frames := 4, cells := 6, slots := 18, locals := 66 } : Room).slots)
                have ne_x_b : x ≠ b := Nat.ne_of_lt (Nat.lt_of_lt_of_le A229.lt (Nat.le_of_eq g232.symm))
                have gf_b : n0 ≤ b := Nat.le_trans sz229 (Nat.le_of_eq g232.symm)
                have sz232 : n0 ≤ h232.size := Nat.le_trans sz229 E232.1
                have sf233 := Safe.ext E232 OW230.chv sf231
                have OW234 := OW230.ext E232
                have Va235 : Arv Z h232 b k232 .char (7 : Int32) [(.int (0 : Int32)), (.int (0 : Int32)), (.int (0 : Int32)), (.int (0 : Int32)), (.int (0 : Int32)), (.int (0 : Int32)), (.int (0 : Int32))] (.int (0 : Int32)) := (Arv.new A232 (by decide)).pad (pad_rep [] (.int (0 : Int32)) 7)
                refine OGo.step (fun _ kk => XS.dup X232.here hx rfl (hb hby own_d_method_3_code_201) rfl rfl kk) ?_
                show OGo p e below (T232.setTop (mkF m 202 #[.val (.int n), .val (.int c0_), .val (.int c1_), .val (.int c2_), .val (.int c3_), .val (.int c4_), .val (.int c5_), .val (.int c6_)] [(.ref b), (.ref b), (.ref x), (.ref x)])) (OEndW s Z consts_1 (fun v h L => ∃ x : Addr, v = some (.ref x) ∧ Fr n0 L ∧ Ext h0 h ∧ OStr Z h x (own_mk n c0_ c1_ c2_ c3_ c4_ c5_ c6_)) ({ frames := 4, cells := 6, slots := 18, locals := 66 } : Room).cells ({ frames := 4, cells := 6, slots := 18, locals := 66 } : Room).slots)
                refine OGo.step (fun _ kk => XS.iconst X232.here hx rfl (hb hby own_d_method_3_code_202) kk) ?_
                show OGo p e below (T232.setTop (mkF m 203 #[.val (.int n), .val (.int c0_), .val (.int c1_), .val (.int c2_), .val (.int c3_), .val (.int c4_), .val (.int c5_), .val (.int c6_)] [(.int (0 : Int32)), (.ref b), (.ref b), (.ref x), (.ref x)])) (OEndW s Z consts_1 (fun v h L => ∃ x : Addr, v = some (.ref x) ∧ Fr n0 L ∧ Ext h0 h ∧ OStr Z h x (own_mk n c0_ c1_ c2_ c3_ c4_ c5_ c6_)) ({ frames := 4, cells := 6, slots := 18, locals := 66 } : Room).cells ({ frames := 4, cells := 6, slots := 18, locals := 66 } : Room).slots)
                refine OGo.step (fun _ kk => XS.iloadN X232.here hx rfl (hb hby own_d_method_3_code_203) rfl kk) ?_
                show OGo p e below (T232.setTop (mkF m 204 #[.val (.int n), .val (.int c0_), .val (.int c1_), .val (.int c2_), .val (.int c3_), .val (.int c4_), .val (.int c5_), .val (.int c6_)] [(.int c0_), (.int (0 : Int32)), (.ref b), (.ref b), (.ref x), (.ref x)])) (OEndW s Z consts_1 (fun v h L => ∃ x : Addr, v = some (.ref x) ∧ Fr n0 L ∧ Ext h0 h ∧ OStr Z h x (own_mk n c0_ c1_ c2_ c3_ c4_ c5_ c6_)) ({ frames := 4, cells := 6, slots := 18, locals := 66 } : Room).cells ({ frames := 4, cells := 6, slots := 18, locals := 66 } : Room).slots)
                obtain ⟨cA236, A236, q236, S236, M236, H236, G236⟩ := Va235
                obtain ⟨T237, h237, X237, e237, W237, st237⟩ := stC X232 hx hZ e232 A236 (j := (0 : Int32)) (inb_of S236 ⟨by decide, by decide⟩) (g := (mkF m 204 #[.val (.int n), .val (.int c0_), .val (.int c1_), .val (.int c2_), .val (.int c3_), .val (.int c4_), .val (.int c5_), .val (.int c6_)] [(.int c0_), (.int (0 : Int32)), (.ref b), (.ref b), (.ref x), (.ref x)])) rfl rfl (hb hby own_d_method_3_code_204)
                refine OGo.step st237 ?_
                show OGo p e below (T237.setTop (mkF m 205 #[.val (.int n), .val (.int c0_), .val (.int c1_), .val (.int c2_), .val (.int c3_), .val (.int c4_), .val (.int c5_), .val (.int c6_)] [(.ref b), (.ref x), (.ref x)])) (OEndW s Z consts_1 (fun v h L => ∃ x : Addr, v = some (.ref x) ∧ Fr n0 L ∧ Ext h0 h ∧ OStr Z h x (own_mk n c0_ c1_ c2_ c3_ c4_ c5_ c6_)) ({ frames := 4, cells := 6, slots := 18, locals := 66 } : Room).cells ({ frames := 4, cells := 6, slots := 18, locals := 66 } : Room).slots)
                have Va236 : Arv Z h237 b k232 .char (7 : Int32) [(.int (nar .char c0_)), (.int (0 : Int32)), (.int (0 : Int32)), (.int (0 : Int32)), (.int (0 : Int32)), (.int (0 : Int32)), (.int (0 : Int32))] (.int (0 : Int32)) := Arv.set A236 q236 S236 M236 H236 G236 (fits_nar_char _) W237 0 rfl (Nat.le_of_ble_eq_true rfl)
                have Nf237 := Fr.snoc X237 (Fr.nil n0) gf_b
                have sz237 : n0 ≤ h237.size := by rw [W237.size]; exact sz232
                have sw238 := (Safe.arr (EL := consts_1) OW234.2.1.alike A236 (by decide))
                have sf239 := Safe.wr W237 sw238 OW234.chv sf233
                have OW240 := OW234.wr W237 sw238
                refine OGo.step (fun _ kk => XS.dup X237.here hx rfl (hb hby own_d_method_3_code_205) rfl rfl kk) ?_
                show OGo p e below (T237.setTop (mkF m 206 #[.val (.int n), .val (.int c0_), .val (.int c1_), .val (.int c2_), .val (.int c3_), .val (.int c4_), .val (.int c5_), .val (.int c6_)] [(.ref b), (.ref b), (.ref x), (.ref x)])) (OEndW s Z consts_1 (fun v h L => ∃ x : Addr, v = some (.ref x) ∧ Fr n0 L ∧ Ext h0 h ∧ OStr Z h x (own_mk n c0_ c1_ c2_ c3_ c4_ c5_ c6_)) ({ frames := 4, cells := 6, slots := 18, locals := 66 } : Room).cells ({ frames := 4, cells := 6, slots := 18, locals := 66 } : Room).slots)
                refine OGo.step (fun _ kk => XS.iconst X237.here hx rfl (hb hby own_d_method_3_code_206) kk) ?_
                show OGo p e below (T237.setTop (mkF m 207 #[.val (.int n), .val (.int c0_), .val (.int c1_), .val (.int c2_), .val (.int c3_), .val (.int c4_), .val (.int c5_), .val (.int c6_)] [(.int (1 : Int32)), (.ref b), (.ref b), (.ref x), (.ref x)])) (OEndW s Z consts_1 (fun v h L => ∃ x : Addr, v = some (.ref x) ∧ Fr n0 L ∧ Ext h0 h ∧ OStr Z h x (own_mk n c0_ c1_ c2_ c3_ c4_ c5_ c6_)) ({ frames := 4, cells := 6, slots := 18, locals := 66 } : Room).cells ({ frames := 4, cells := 6, slots := 18, locals := 66 } : Room).slots)
                refine OGo.step (fun _ kk => XS.iloadN X237.here hx rfl (hb hby own_d_method_3_code_207) rfl kk) ?_
                show OGo p e below (T237.setTop (mkF m 208 #[.val (.int n), .val (.int c0_), .val (.int c1_), .val (.int c2_), .val (.int c3_), .val (.int c4_), .val (.int c5_), .val (.int c6_)] [(.int c1_), (.int (1 : Int32)), (.ref b), (.ref b), (.ref x), (.ref x)])) (OEndW s Z consts_1 (fun v h L => ∃ x : Addr, v = some (.ref x) ∧ Fr n0 L ∧ Ext h0 h ∧ OStr Z h x (own_mk n c0_ c1_ c2_ c3_ c4_ c5_ c6_)) ({ frames := 4, cells := 6, slots := 18, locals := 66 } : Room).cells ({ frames := 4, cells := 6, slots := 18, locals := 66 } : Room).slots)
                obtain ⟨cA241, A241, q241, S241, M241, H241, G241⟩ := Va236
                obtain ⟨T242, h242, X242, e242, W242, st242⟩ := stC X237 hx hZ e237 A241 (j := (1 : Int32)) (inb_of S241 ⟨by decide, by decide⟩) (g := (mkF m 208 #[.val (.int n), .val (.int c0_), .val (.int c1_), .val (.int c2_), .val (.int c3_), .val (.int c4_), .val (.int c5_), .val (.int c6_)] [(.int c1_), (.int (1 : Int32)), (.ref b), (.ref b), (.ref x), (.ref x)])) rfl rfl (hb hby own_d_method_3_code_208)
                refine OGo.step st242 ?_
                show OGo p e below (T242.setTop (mkF m 209 #[.val (.int n), .val (.int c0_), .val (.int c1_), .val (.int c2_), .val (.int c3_), .val (.int c4_), .val (.int c5_), .val (.int c6_)] [(.ref b), (.ref x), (.ref x)])) (OEndW s Z consts_1 (fun v h L => ∃ x : Addr, v = some (.ref x) ∧ Fr n0 L ∧ Ext h0 h ∧ OStr Z h x (own_mk n c0_ c1_ c2_ c3_ c4_ c5_ c6_)) ({ frames := 4, cells := 6, slots := 18, locals := 66 } : Room).cells ({ frames := 4, cells := 6, slots := 18, locals := 66 } : Room).slots)
                have Va241 : Arv Z h242 b k232 .char (7 : Int32) [(.int (nar .char c0_)), (.int (nar .char c1_)), (.int (0 : Int32)), (.int (0 : Int32)), (.int (0 : Int32)), (.int (0 : Int32)), (.int (0 : Int32))] (.int (0 : Int32)) := Arv.set A241 q241 S241 M241 H241 G241 (fits_nar_char _) W242 1 rfl (Nat.le_of_ble_eq_true rfl)
                have Nf242 := Fr.snoc X242 Nf237 gf_b
                have sz242 : n0 ≤ h242.size := by rw [W242.size]; exact sz237
                have sw243 := (Safe.arr (EL := consts_1) OW240.2.1.alike A241 (by decide))
                have sf244 := Safe.wr W242 sw243 OW240.chv sf239
                have OW245 := OW240.wr W242 sw243
                refine OGo.step (fun _ kk => XS.dup X242.here hx rfl (hb hby own_d_method_3_code_209) rfl rfl kk) ?_
                show OGo p e below (T242.setTop (mkF m 210 #[.val (.int n), .val (.int c0_), .val (.int c1_), .val (.int c2_), .val (.int c3_), .val (.int c4_), .val (.int c5_), .val (.int c6_)] [(.ref b), (.ref b), (.ref x), (.ref x)])) (OEndW s Z consts_1 (fun v h L => ∃ x : Addr, v = some (.ref x) ∧ Fr n0 L ∧ Ext h0 h ∧ OStr Z h x (own_mk n c0_ c1_ c2_ c3_ c4_ c5_ c6_)) ({ frames := 4, cells := 6, slots := 18, locals := 66 } : Room).cells ({ frames := 4, cells := 6, slots := 18, locals := 66 } : Room).slots)
                refine OGo.step (fun _ kk => XS.iconst X242.here hx rfl (hb hby own_d_method_3_code_210) kk) ?_
                show OGo p e below (T242.setTop (mkF m 211 #[.val (.int n), .val (.int c0_), .val (.int c1_), .val (.int c2_), .val (.int c3_), .val (.int c4_), .val (.int c5_), .val (.int c6_)] [(.int (2 : Int32)), (.ref b), (.ref b), (.ref x), (.ref x)])) (OEndW s Z consts_1 (fun v h L => ∃ x : Addr, v = some (.ref x) ∧ Fr n0 L ∧ Ext h0 h ∧ OStr Z h x (own_mk n c0_ c1_ c2_ c3_ c4_ c5_ c6_)) ({ frames := 4, cells := 6, slots := 18, locals := 66 } : Room).cells ({ frames := 4, cells := 6, slots := 18, locals := 66 } : Room).slots)
                refine OGo.step (fun _ kk => XS.iloadN X242.here hx rfl (hb hby own_d_method_3_code_211) rfl kk) ?_
                show OGo p e below (T242.setTop (mkF m 212 #[.val (.int n), .val (.int c0_), .val (.int c1_), .val (.int c2_), .val (.int c3_), .val (.int c4_), .val (.int c5_), .val (.int c6_)] [(.int c2_), (.int (2 : Int32)), (.ref b), (.ref b), (.ref x), (.ref x)])) (OEndW s Z consts_1 (fun v h L => ∃ x : Addr, v = some (.ref x) ∧ Fr n0 L ∧ Ext h0 h ∧ OStr Z h x (own_mk n c0_ c1_ c2_ c3_ c4_ c5_ c6_)) ({ frames := 4, cells := 6, slots := 18, locals := 66 } : Room).cells ({ frames := 4, cells := 6, slots := 18, locals := 66 } : Room).slots)
                obtain ⟨cA246, A246, q246, S246, M246, H246, G246⟩ := Va241
                obtain ⟨T247, h247, X247, e247, W247, st247⟩ := stC X242 hx hZ e242 A246 (j := (2 : Int32)) (inb_of S246 ⟨by decide, by decide⟩) (g := (mkF m 212 #[.val (.int n), .val (.int c0_), .val (.int c1_), .val (.int c2_), .val (.int c3_), .val (.int c4_), .val (.int c5_), .val (.int c6_)] [(.int c2_), (.int (2 : Int32)), (.ref b), (.ref b), (.ref x), (.ref x)])) rfl rfl (hb hby own_d_method_3_code_212)
                refine OGo.step st247 ?_
                show OGo p e below (T247.setTop (mkF m 213 #[.val (.int n), .val (.int c0_), .val (.int c1_), .val (.int c2_), .val (.int c3_), .val (.int c4_), .val (.int c5_), .val (.int c6_)] [(.ref b), (.ref x), (.ref x)])) (OEndW s Z consts_1 (fun v h L => ∃ x : Addr, v = some (.ref x) ∧ Fr n0 L ∧ Ext h0 h ∧ OStr Z h x (own_mk n c0_ c1_ c2_ c3_ c4_ c5_ c6_)) ({ frames := 4, cells := 6, slots := 18, locals := 66 } : Room).cells ({ frames := 4, cells := 6, slots := 18, locals := 66 } : Room).slots)
                have Va246 : Arv Z h247 b k232 .char (7 : Int32) [(.int (nar .char c0_)), (.int (nar .char c1_)), (.int (nar .char c2_)), (.int (0 : Int32)), (.int (0 : Int32)), (.int (0 : Int32)), (.int (0 : Int32))] (.int (0 : Int32)) := Arv.set A246 q246 S246 M246 H246 G246 (fits_nar_char _) W247 2 rfl (Nat.le_of_ble_eq_true rfl)
                have Nf247 := Fr.snoc X247 Nf242 gf_b
                have sz247 : n0 ≤ h247.size := by rw [W247.size]; exact sz242
                have sw248 := (Safe.arr (EL := consts_1) OW245.2.1.alike A246 (by decide))
                have sf249 := Safe.wr W247 sw248 OW245.chv sf244
                have OW250 := OW245.wr W247 sw248
                refine OGo.step (fun _ kk => XS.dup X247.here hx rfl (hb hby own_d_method_3_code_213) rfl rfl kk) ?_
                show OGo p e below (T247.setTop (mkF m 214 #[.val (.int n), .val (.int c0_), .val (.int c1_), .val (.int c2_), .val (.int c3_), .val (.int c4_), .val (.int c5_), .val (.int c6_)] [(.ref b), (.ref b), (.ref x), (.ref x)])) (OEndW s Z consts_1 (fun v h L => ∃ x : Addr, v = some (.ref x) ∧ Fr n0 L ∧ Ext h0 h ∧ OStr Z h x (own_mk n c0_ c1_ c2_ c3_ c4_ c5_ c6_)) ({ frames := 4, cells := 6, slots := 18, locals := 66 } : Room).cells ({ frames := 4, cells := 6, slots := 18, locals := 66 } : Room).slots)
                refine OGo.step (fun _ kk => XS.iconst X247.here hx rfl (hb hby own_d_method_3_code_214) kk) ?_
                show OGo p e below (T247.setTop (mkF m 215 #[.val (.int n), .val (.int c0_), .val (.int c1_), .val (.int c2_), .val (.int c3_), .val (.int c4_), .val (.int c5_), .val (.int c6_)] [(.int (3 : Int32)), (.ref b), (.ref b), (.ref x), (.ref x)])) (OEndW s Z consts_1 (fun v h L => ∃ x : Addr, v = some (.ref x) ∧ Fr n0 L ∧ Ext h0 h ∧ OStr Z h x (own_mk n c0_ c1_ c2_ c3_ c4_ c5_ c6_)) ({ frames := 4, cells := 6, slots := 18, locals := 66 } : Room).cells ({ frames := 4, cells := 6, slots := 18, locals := 66 } : Room).slots)
                refine OGo.step (fun _ kk => XS.iload X247.here hx rfl (hb hby own_d_method_3_code_215) rfl kk) ?_
                show OGo p e below (T247.setTop (mkF m 217 #[.val (.int n), .val (.int c0_), .val (.int c1_), .val (.int c2_), .val (.int c3_), .val (.int c4_), .val (.int c5_), .val (.int c6_)] [(.int c3_), (.int (3 : Int32)), (.ref b), (.ref b), (.ref x), (.ref x)])) (OEndW s Z consts_1 (fun v h L => ∃ x : Addr, v = some (.ref x) ∧ Fr n0 L ∧ Ext h0 h ∧ OStr Z h x (own_mk n c0_ c1_ c2_ c3_ c4_ c5_ c6_)) ({ frames := 4, cells := 6, slots := 18, locals := 66 } : Room).cells ({ frames := 4, cells := 6, slots := 18, locals := 66 } : Room).slots)
                obtain ⟨cA251, A251, q251, S251, M251, H251, G251⟩ := Va246
                obtain ⟨T252, h252, X252, e252, W252, st252⟩ := stC X247 hx hZ e247 A251 (j := (3 : Int32)) (inb_of S251 ⟨by decide, by decide⟩) (g := (mkF m 217 #[.val (.int n), .val (.int c0_), .val (.int c1_), .val (.int c2_), .val (.int c3_), .val (.int c4_), .val (.int c5_), .val (.int c6_)] [(.int c3_), (.int (3 : Int32)), (.ref b), (.ref b), (.ref x), (.ref x)])) rfl rfl (hb hby own_d_method_3_code_217)
                refine OGo.step st252 ?_
                show OGo p e below (T252.setTop (mkF m 218 #[.val (.int n), .val (.int c0_), .val (.int c1_), .val (.int c2_), .val (.int c3_), .val (.int c4_), .val (.int c5_), .val (.int c6_)] [(.ref b), (.ref x), (.ref x)])) (OEndW s Z consts_1 (fun v h L => ∃ x : Addr, v = some (.ref x) ∧ Fr n0 L ∧ Ext h0 h ∧ OStr Z h x (own_mk n c0_ c1_ c2_ c3_ c4_ c5_ c6_)) ({ frames := 4, cells := 6, slots := 18, locals := 66 } : Room).cells ({ frames := 4, cells := 6, slots := 18, locals := 66 } : Room).slots)
                have Va251 : Arv Z h252 b k232 .char (7 : Int32) [(.int (nar .char c0_)), (.int (nar .char c1_)), (.int (nar .char c2_)), (.int (nar .char c3_)), (.int (0 : Int32)), (.int (0 : Int32)), (.int (0 : Int32))] (.int (0 : Int32)) := Arv.set A251 q251 S251 M251 H251 G251 (fits_nar_char _) W252 3 rfl (Nat.le_of_ble_eq_true rfl)
                have Nf252 := Fr.snoc X252 Nf247 gf_b
                have sz252 : n0 ≤ h252.size := by rw [W252.size]; exact sz247
                have sw253 := (Safe.arr (EL := consts_1) OW250.2.1.alike A251 (by decide))
                have sf254 := Safe.wr W252 sw253 OW250.chv sf249
                have OW255 := OW250.wr W252 sw253
                refine OGo.step (fun _ kk => XS.dup X252.here hx rfl (hb hby own_d_method_3_code_218) rfl rfl kk) ?_
                show OGo p e below (T252.setTop (mkF m 219 #[.val (.int n), .val (.int c0_), .val (.int c1_), .val (.int c2_), .val (.int c3_), .val (.int c4_), .val (.int c5_), .val (.int c6_)] [(.ref b), (.ref b), (.ref x), (.ref x)])) (OEndW s Z consts_1 (fun v h L => ∃ x : Addr, v = some (.ref x) ∧ Fr n0 L ∧ Ext h0 h ∧ OStr Z h x (own_mk n c0_ c1_ c2_ c3_ c4_ c5_ c6_)) ({ frames := 4, cells := 6, slots := 18, locals := 66 } : Room).cells ({ frames := 4, cells := 6, slots := 18, locals := 66 } : Room).slots)
                refine OGo.step (fun _ kk => XS.iconst X252.here hx rfl (hb hby own_d_method_3_code_219) kk) ?_
                show OGo p e below (T252.setTop (mkF m 220 #[.val (.int n), .val (.int c0_), .val (.int c1_), .val (.int c2_), .val (.int c3_), .val (.int c4_), .val (.int c5_), .val (.int c6_)] [(.int (4 : Int32)), (.ref b), (.ref b), (.ref x), (.ref x)])) (OEndW s Z consts_1 (fun v h L => ∃ x : Addr, v = some (.ref x) ∧ Fr n0 L ∧ Ext h0 h ∧ OStr Z h x (own_mk n c0_ c1_ c2_ c3_ c4_ c5_ c6_)) ({ frames := 4, cells := 6, slots := 18, locals := 66 } : Room).cells ({ frames := 4, cells := 6, slots := 18, locals := 66 } : Room).slots)
                refine OGo.step (fun _ kk => XS.iload X252.here hx rfl (hb hby own_d_method_3_code_220) rfl kk) ?_
                show OGo p e below (T252.setTop (mkF m 222 #[.val (.int n), .val (.int c0_), .val (.int c1_), .val (.int c2_), .val (.int c3_), .val (.int c4_), .val (.int c5_), .val (.int c6_)] [(.int c4_), (.int (4 : Int32)), (.ref b), (.ref b), (.ref x), (.ref x)])) (OEndW s Z consts_1 (fun v h L => ∃ x : Addr, v = some (.ref x) ∧ Fr n0 L ∧ Ext h0 h ∧ OStr Z h x (own_mk n c0_ c1_ c2_ c3_ c4_ c5_ c6_)) ({ frames := 4, cells := 6, slots := 18, locals := 66 } : Room).cells ({ frames := 4, cells := 6, slots := 18, locals := 66 } : Room).slots)
                obtain ⟨cA256, A256, q256, S256, M256, H256, G256⟩ := Va251
                obtain ⟨T257, h257, X257, e257, W257, st257⟩ := stC X252 hx hZ e252 A256 (j := (4 : Int32)) (inb_of S256 ⟨by decide, by decide⟩) (g := (mkF m 222 #[.val (.int n), .val (.int c0_), .val (.int c1_), .val (.int c2_), .val (.int c3_), .val (.int c4_), .val (.int c5_), .val (.int c6_)] [(.int c4_), (.int (4 : Int32)), (.ref b), (.ref b), (.ref x), (.ref x)])) rfl rfl (hb hby own_d_method_3_code_222)
                refine OGo.step st257 ?_
                show OGo p e below (T257.setTop (mkF m 223 #[.val (.int n), .val (.int c0_), .val (.int c1_), .val (.int c2_), .val (.int c3_), .val (.int c4_), .val (.int c5_), .val (.int c6_)] [(.ref b), (.ref x), (.ref x)])) (OEndW s Z consts_1 (fun v h L => ∃ x : Addr, v = some (.ref x) ∧ Fr n0 L ∧ Ext h0 h ∧ OStr Z h x (own_mk n c0_ c1_ c2_ c3_ c4_ c5_ c6_)) ({ frames := 4, cells := 6, slots := 18, locals := 66 } : Room).cells ({ frames := 4, cells := 6, slots := 18, locals := 66 } : Room).slots)
                have Va256 : Arv Z h257 b k232 .char (7 : Int32) [(.int (nar .char c0_)), (.int (nar .char c1_)), (.int (nar .char c2_)), (.int (nar .char c3_)), (.int (nar .char c4_)), (.int (0 : Int32)), (.int (0 : Int32))] (.int (0 : Int32)) := Arv.set A256 q256 S256 M256 H256 G256 (fits_nar_char _) W257 4 rfl (Nat.le_of_ble_eq_true rfl)
                have Nf257 := Fr.snoc X257 Nf252 gf_b
                have sz257 : n0 ≤ h257.size := by rw [W257.size]; exact sz252
                have sw258 := (Safe.arr (EL := consts_1) OW255.2.1.alike A256 (by decide))
                have sf259 := Safe.wr W257 sw258 OW255.chv sf254
                have OW260 := OW255.wr W257 sw258
                refine OGo.step (fun _ kk => XS.dup X257.here hx rfl (hb hby own_d_method_3_code_223) rfl rfl kk) ?_
                show OGo p e below (T257.setTop (mkF m 224 #[.val (.int n), .val (.int c0_), .val (.int c1_), .val (.int c2_), .val (.int c3_), .val (.int c4_), .val (.int c5_), .val (.int c6_)] [(.ref b), (.ref b), (.ref x), (.ref x)])) (OEndW s Z consts_1 (fun v h L => ∃ x : Addr, v = some (.ref x) ∧ Fr n0 L ∧ Ext h0 h ∧ OStr Z h x (own_mk n c0_ c1_ c2_ c3_ c4_ c5_ c6_)) ({ frames := 4, cells := 6, slots := 18, locals := 66 } : Room).cells ({ frames := 4, cells := 6, slots := 18, locals := 66 } : Room).slots)
                refine OGo.step (fun _ kk => XS.iconst X257.here hx rfl (hb hby own_d_method_3_code_224) kk) ?_
                show OGo p e below (T257.setTop (mkF m 225 #[.val (.int n), .val (.int c0_), .val (.int c1_), .val (.int c2_), .val (.int c3_), .val (.int c4_), .val (.int c5_), .val (.int c6_)] [(.int (5 : Int32)), (.ref b), (.ref b), (.ref x), (.ref x)])) (OEndW s Z consts_1 (fun v h L => ∃ x : Addr, v = some (.ref x) ∧ Fr n0 L ∧ Ext h0 h ∧ OStr Z h x (own_mk n c0_ c1_ c2_ c3_ c4_ c5_ c6_)) ({ frames := 4, cells := 6, slots := 18, locals := 66 } : Room).cells ({ frames := 4, cells := 6, slots := 18, locals := 66 } : Room).slots)
                refine OGo.step (fun _ kk => XS.iload X257.here hx rfl (hb hby own_d_method_3_code_225) rfl kk) ?_
                show OGo p e below (T257.setTop (mkF m 227 #[.val (.int n), .val (.int c0_), .val (.int c1_), .val (.int c2_), .val (.int c3_), .val (.int c4_), .val (.int c5_), .val (.int c6_)] [(.int c5_), (.int (5 : Int32)), (.ref b), (.ref b), (.ref x), (.ref x)])) (OEndW s Z consts_1 (fun v h L => ∃ x : Addr, v = some (.ref x) ∧ Fr n0 L ∧ Ext h0 h ∧ OStr Z h x (own_mk n c0_ c1_ c2_ c3_ c4_ c5_ c6_)) ({ frames := 4, cells := 6, slots := 18, locals := 66 } : Room).cells ({ frames := 4, cells := 6, slots := 18, locals := 66 } : Room).slots)
                obtain ⟨cA261, A261, q261, S261, M261, H261, G261⟩ := Va256
                obtain ⟨T262, h262, X262, e262, W262, st262⟩ := stC X257 hx hZ e257 A261 (j := (5 : Int32)) (inb_of S261 ⟨by decide, by decide⟩) (g := (mkF m 227 #[.val (.int n), .val (.int c0_), .val (.int c1_), .val (.int c2_), .val (.int c3_), .val (.int c4_), .val (.int c5_), .val (.int c6_)] [(.int c5_), (.int (5 : Int32)), (.ref b), (.ref b), (.ref x), (.ref x)])) rfl rfl (hb hby own_d_method_3_code_227)
                refine OGo.step st262 ?_
                show OGo p e below (T262.setTop (mkF m 228 #[.val (.int n), .val (.int c0_), .val (.int c1_), .val (.int c2_), .val (.int c3_), .val (.int c4_), .val (.int c5_), .val (.int c6_)] [(.ref b), (.ref x), (.ref x)])) (OEndW s Z consts_1 (fun v h L => ∃ x : Addr, v = some (.ref x) ∧ Fr n0 L ∧ Ext h0 h ∧ OStr Z h x (own_mk n c0_ c1_ c2_ c3_ c4_ c5_ c6_)) ({ frames := 4, cells := 6, slots := 18, locals := 66 } : Room).cells ({ frames := 4, cells := 6, slots := 18, locals := 66 } : Room).slots)
                have Va261 : Arv Z h262 b k232 .char (7 : Int32) [(.int (nar .char c0_)), (.int (nar .char c1_)), (.int (nar .char c2_)), (.int (nar .char c3_)), (.int (nar .char c4_)), (.int (nar .char c5_)), (.int (0 : Int32))] (.int (0 : Int32)) := Arv.set A261 q261 S261 M261 H261 G261 (fits_nar_char _) W262 5 rfl (Nat.le_of_ble_eq_true rfl)
                have Nf262 := Fr.snoc X262 Nf257 gf_b
                have sz262 : n0 ≤ h262.size := by rw [W262.size]; exact sz257
                have sw263 := (Safe.arr (EL := consts_1) OW260.2.1.alike A261 (by decide))
                have sf264 := Safe.wr W262 sw263 OW260.chv sf259
                have OW265 := OW260.wr W262 sw263
                refine OGo.step (fun _ kk => XS.dup X262.here hx rfl (hb hby own_d_method_3_code_228) rfl rfl kk) ?_
                show OGo p e below (T262.setTop (mkF m 229 #[.val (.int n), .val (.int c0_), .val (.int c1_), .val (.int c2_), .val (.int c3_), .val (.int c4_), .val (.int c5_), .val (.int c6_)] [(.ref b), (.ref b), (.ref x), (.ref x)])) (OEndW s Z consts_1 (fun v h L => ∃ x : Addr, v = some (.ref x) ∧ Fr n0 L ∧ Ext h0 h ∧ OStr Z h x (own_mk n c0_ c1_ c2_ c3_ c4_ c5_ c6_)) ({ frames := 4, cells := 6, slots := 18, locals := 66 } : Room).cells ({ frames := 4, cells := 6, slots := 18, locals := 66 } : Room).slots)
                refine OGo.step (fun _ kk => XS.bipush X262.here hx rfl (hb hby own_d_method_3_code_229) kk) ?_
                show OGo p e below (T262.setTop (mkF m 231 #[.val (.int n), .val (.int c0_), .val (.int c1_), .val (.int c2_), .val (.int c3_), .val (.int c4_), .val (.int c5_), .val (.int c6_)] [(.int (6 : Int32)), (.ref b), (.ref b), (.ref x), (.ref x)])) (OEndW s Z consts_1 (fun v h L => ∃ x : Addr, v = some (.ref x) ∧ Fr n0 L ∧ Ext h0 h ∧ OStr Z h x (own_mk n c0_ c1_ c2_ c3_ c4_ c5_ c6_)) ({ frames := 4, cells := 6, slots := 18, locals := 66 } : Room).cells ({ frames := 4, cells := 6, slots := 18, locals := 66 } : Room).slots)
                refine OGo.step (fun _ kk => XS.iload X262.here hx rfl (hb hby own_d_method_3_code_231) rfl kk) ?_
                show OGo p e below (T262.setTop (mkF m 233 #[.val (.int n), .val (.int c0_), .val (.int c1_), .val (.int c2_), .val (.int c3_), .val (.int c4_), .val (.int c5_), .val (.int c6_)] [(.int c6_), (.int (6 : Int32)), (.ref b), (.ref b), (.ref x), (.ref x)])) (OEndW s Z consts_1 (fun v h L => ∃ x : Addr, v = some (.ref x) ∧ Fr n0 L ∧ Ext h0 h ∧ OStr Z h x (own_mk n c0_ c1_ c2_ c3_ c4_ c5_ c6_)) ({ frames := 4, cells := 6, slots := 18, locals := 66 } : Room).cells ({ frames := 4, cells := 6, slots := 18, locals := 66 } : Room).slots)
                obtain ⟨cA266, A266, q266, S266, M266, H266, G266⟩ := Va261
                obtain ⟨T267, h267, X267, e267, W267, st267⟩ := stC X262 hx hZ e262 A266 (j := (6 : Int32)) (inb_of S266 ⟨by decide, by decide⟩) (g := (mkF m 233 #[.val (.int n), .val (.int c0_), .val (.int c1_), .val (.int c2_), .val (.int c3_), .val (.int c4_), .val (.int c5_), .val (.int c6_)] [(.int c6_), (.int (6 : Int32)), (.ref b), (.ref b), (.ref x), (.ref x)])) rfl rfl (hb hby own_d_method_3_code_233)
                refine OGo.step st267 ?_
                show OGo p e below (T267.setTop (mkF m 234 #[.val (.int n), .val (.int c0_), .val (.int c1_), .val (.int c2_), .val (.int c3_), .val (.int c4_), .val (.int c5_), .val (.int c6_)] [(.ref b), (.ref x), (.ref x)])) (OEndW s Z consts_1 (fun v h L => ∃ x : Addr, v = some (.ref x) ∧ Fr n0 L ∧ Ext h0 h ∧ OStr Z h x (own_mk n c0_ c1_ c2_ c3_ c4_ c5_ c6_)) ({ frames := 4, cells := 6, slots := 18, locals := 66 } : Room).cells ({ frames := 4, cells := 6, slots := 18, locals := 66 } : Room).slots)
                have Va266 : Arv Z h267 b k232 .char (7 : Int32) [(.int (nar .char c0_)), (.int (nar .char c1_)), (.int (nar .char c2_)), (.int (nar .char c3_)), (.int (nar .char c4_)), (.int (nar .char c5_)), (.int (nar .char c6_))] (.int (0 : Int32)) := Arv.set A266 q266 S266 M266 H266 G266 (fits_nar_char _) W267 6 rfl (Nat.le_of_ble_eq_true rfl)
                have Nf267 := Fr.snoc X267 Nf262 gf_b
                have sz267 : n0 ≤ h267.size := by rw [W267.size]; exact sz262
                have sw268 := (Safe.arr (EL := consts_1) OW265.2.1.alike A266 (by decide))
                have sf269 := Safe.wr W267 sw268 OW265.chv sf264
                have OW270 := OW265.wr W267 sw268
                have fc271 := ((((((((A229.ext E232).wr W237).wr W242).wr W247).wr W252).wr W257).wr W262).wr W267)
                have fc272 := ((((((((F229_value.ext E232).other W237 (Or.inl ne_x_b)).other W242 (Or.inl ne_x_b)).other W247 (Or.inl ne_x_b)).other W252 (Or.inl ne_x_b)).other W257 (Or.inl ne_x_b)).other W262 (Or.inl ne_x_b)).other W267 (Or.inl ne_x_b))
                have fc273 := ((((((((F229_coder.ext E232).other W237 (Or.inl ne_x_b)).other W242 (Or.inl ne_x_b)).other W247 (Or.inl ne_x_b)).other W252 (Or.inl ne_x_b)).other W257 (Or.inl ne_x_b)).other W262 (Or.inl ne_x_b)).other W267 (Or.inl ne_x_b))
                have hpx : ∀ c ∈ ([(nar .char c0_), (nar .char c1_), (nar .char c2_), (nar .char c3_), (nar .char c4_), (nar .char c5_), (nar .char c6_)] : List Int32), ¬ c < 0 ∧ ¬ (255 : Int32) < c := (own_allS (own_nc hb0) (own_allS (own_nc hb1) (own_allS (own_nc hb2) (own_allS (own_nc hb3) (own_allS (own_nc hb4) (own_allS (own_nc hb5) (own_allS (own_nc hb6) own_all0)))))))
                have xt274 := (own_ext_trans E229 E232)
                have xt275 := (own_ext_wr xt274 W237 (Nat.le_trans E229.1 (Nat.le_of_eq g232.symm)))
                have xt276 := (own_ext_wr xt275 W242 (Nat.le_trans E229.1 (Nat.le_of_eq g232.symm)))
                have xt277 := (own_ext_wr xt276 W247 (Nat.le_trans E229.1 (Nat.le_of_eq g232.symm)))
                have xt278 := (own_ext_wr xt277 W252 (Nat.le_trans E229.1 (Nat.le_of_eq g232.symm)))
                have xt279 := (own_ext_wr xt278 W257 (Nat.le_trans E229.1 (Nat.le_of_eq g232.symm)))
                have xt280 := (own_ext_wr xt279 W262 (Nat.le_trans E229.1 (Nat.le_of_eq g232.symm)))
                have xt281 := (own_ext_wr xt280 W267 (Nat.le_trans E229.1 (Nat.le_of_eq g232.symm)))
                have fx282 := SC.ext xt281
                refine own_specialK X267 hx hZ (y := (⟨"java/lang/String", "<init>", "([C)V"⟩ : MethodName)) rfl hown (hw _ (List.mem_of_getElem? (i := 43) rfl)) (hw _ (List.mem_of_getElem? (i := 44) rfl)) (hw _ (List.mem_of_getElem? (i := 45) rfl)) (by decide) (a := x) (W := 1) (StrChars.Road.backV (W := 1) hZ (fun d hd => hw d ((by decide +kernel : ∀ d ∈ StrChars.Road.words, d ∈ tables_1) d hd)) (kI := 4) (hw _ (List.mem_of_getElem? (i := 7) rfl)) (cs := ([(nar .char c0_), (nar .char c1_), (nar .char c2_), (nar .char c3_), (nar .char c4_), (nar .char c5_), (nar .char c6_)] : List Int32)) (bs := (([(nar .char c0_), (nar .char c1_), (nar .char c2_), (nar .char c3_), (nar .char c4_), (nar .char c5_), (nar .char c6_)] : List Int32)).map (fun c => c.toInt8.toInt32)) (n := 7) gf_x sz267 fc271 fc272 fc273 Va266 fx282 hzc rfl rfl (by decide) (by decide) hpx rfl (by decide) (by decide)) e267 (pc := 234) (Ls := #[.val (.int n), .val (.int c0_), .val (.int c1_), .val (.int c2_), .val (.int c3_), .val (.int c4_), .val (.int c5_), .val (.int c6_)]) (argsL := [(.ref b)]) (rest := [(.ref x)]) (by rw [hml]; rfl) (lenOf own_pd1 rfl) rfl (hb hby own_d_method_3_code_234) (by decide) (by decide) ?_
                intro v283 T283 L283 X283 hQ283
                obtain ⟨rfl, N283, K283, Ex283, Fc283, t283, kb283, u1283, u2283, u3283, Fv283, Av283⟩ := hQ283
                show OGo p e below (T283.setTop (mkF m 237 #[.val (.int n), .val (.int c0_), .val (.int c1_), .val (.int c2_), .val (.int c3_), .val (.int c4_), .val (.int c5_), .val (.int c6_)] [(.ref x)])) (OEndW s Z consts_1 (fun v h L => ∃ x : Addr, v = some (.ref x) ∧ Fr n0 L ∧ Ext h0 h ∧ OStr Z h x (own_mk n c0_ c1_ c2_ c3_ c4_ c5_ c6_)) ({ frames := 4, cells := 6, slots := 18, locals := 66 } : Room).cells ({ frames := 4, cells := 6, slots := 18, locals := 66 } : Room).slots)
                have Nc283 := Fr.app Nf267 N283
                have sz283 : n0 ≤ T283.heap.size := Nat.le_trans sz267 K283.1
                have sf284 := Safe.keep K283 (sfS sf269 sf0) OW270.chv sf269
                have OW285 := OW270.keep K283 (sfS sf269 sf0)
                have O283 : OStr Z T283.heap x ([(nar .char c0_), (nar .char c1_), (nar .char c2_), (nar .char c3_), (nar .char c4_), (nar .char c5_), (nar .char c6_)] : List Int32) := ⟨t283, kb283, 0, (7 : Int32), _, Ex283, Fv283, Fc283, Av283, StrChars.Road.codOf (n := 7) rfl (fun c hc => (hpx c hc).2), own_up _ hpx, Nat.le_of_ble_eq_true rfl⟩
                have xt286 := (own_ext_keep xt281 K283 (allS (Nat.le_of_eq g229.symm) all0))
                have HO : OStr Z T283.heap x [c0_, c1_, c2_, c3_, c4_, c5_, c6_] := by simpa only [own_narC hb0, own_narC hb1, own_narC hb2, own_narC hb3, own_narC hb4, own_narC hb5, own_narC hb6] using O283
                exact own_retW X283 hx hlk hEL OW285 rfl hret rfl (Or.inr (Or.inr (Or.inr (Or.inr ⟨rfl, rfl, rfl⟩)))) (hb hby own_d_method_3_code_237) ⟨x, rfl, Nc283, xt286, by rw [own_mk, if_neg hn0, if_neg hn1, if_neg hn2, if_neg hn3, if_neg hn4, if_neg hn5, if_neg hn6]; exact HO⟩ (by decide) (by decide)

set_option maxRecDepth 65536 in
set_option maxHeartbeats 40000000 in
theorem own_values (l : Launch) (Z : State) (a0 : Array Value) (hw : ∀ d ∈ tables_1, d.before a0 Z = true) (ws : List Jvm.Cond) (va : Addr) (vc : Cell) (h0 : Heap) (n0 : Nat) (Z0 : n0 ≤ h0.size) (SV : Sta Z h0 "com/example/tenantd/tenantd/Permission" "$VALUES" "[Lcom/example/tenantd/tenantd/Permission;" (.ref va)) (AV : Arr Z h0 va vc (.object "com/example/tenantd/tenantd/Permission")) (EV : Exa Z h0 va "[Lcom/example/tenantd/tenantd/Permission;") (FV : FitC Z vc) (VS : vc.slots.size = 2) :
    OMet l Z (⟨"com/example/tenantd/tenantd/Permission", "values", "()[Lcom/example/tenantd/tenantd/Permission;"⟩ : MethodName) prog_10_method_1_code 0 (some (.array (.object "com/example/tenantd/tenantd/Permission"))) ws ({ frames := 1, cells := 1, slots := 2, locals := 14 } : Room) #[] h0 (fun v h L => ∃ b : Addr, v = some (.ref b) ∧ Fr n0 L ∧ Ext h0 h ∧ Arr Z h b (cloneOf vc) (.object "com/example/tenantd/tenantd/Permission")) := by
  refine OMet.body (plainFor_of_name own_pn1) ?_
  intro p e s m below meth c s₁ hx hby hml hown hnm hret hlk hZ X0 e0
  refine OGo.step (fun _ kk => castTop (show entryFrame m #[] 0 = (mkF m 0 #[] []) from by first | (simp [entryFrame, mkF, argsToLocals, Value.category]; done) | rfl) kk) ?_
  show OGo p e below (s₁.setTop (mkF m 0 #[] [])) (OEnd s (fun v h L => ∃ b : Addr, v = some (.ref b) ∧ Fr n0 L ∧ Ext h0 h ∧ Arr Z h b (cloneOf vc) (.object "com/example/tenantd/tenantd/Permission")) ({ frames := 1, cells := 1, slots := 2, locals := 14 } : Room).cells ({ frames := 1, cells := 1, slots := 2, locals := 14 } : Room).slots)
  obtain ⟨T287, X287, e287, st287⟩ := getS2 X0 hx hZ hown (host := "") (Or.inl (hw _ (List.mem_of_getElem? (i := 61) rfl))) Via.refl e0 SV (g := (mkF m 0 #[] [])) rfl (hb hby own_d_prog_10_method_1_code_0)
  refine OGo.step st287 ?_
  show OGo p e below (T287.setTop (mkF m 3 #[] [(.ref va)])) (OEnd s (fun v h L => ∃ b : Addr, v = some (.ref b) ∧ Fr n0 L ∧ Ext h0 h ∧ Arr Z h b (cloneOf vc) (.object "com/example/tenantd/tenantd/Permission")) ({ frames := 1, cells := 1, slots := 2, locals := 14 } : Room).cells ({ frames := 1, cells := 1, slots := 2, locals := 14 } : Room).slots)
  obtain ⟨T288, h288, X288, e288, E288, A288, B288, st288⟩ := cloneA X287 hx hZ hown (hw _ (List.mem_of_getElem? (i := 63) rfl)) (hw _ (List.mem_of_getElem? (i := 64) rfl)) (hw _ (List.mem_of_getElem? (i := 68) rfl)) (hw _ (List.mem_of_getElem? (i := 66) rfl)) (hw _ (List.mem_of_getElem? (i := 67) rfl)) (hw _ (List.mem_of_getElem? (i := 69) rfl)) e287 AV EV FV (g := (mkF m 3 #[] [(.ref va)])) rfl (by rw [hml]; rfl) rfl (hb hby own_d_prog_10_method_1_code_3) (by decide) (W := 0) (cap := 2) (by show 2 * 0 + _ ≤ _; exact Nat.le_of_eq rfl) (by decide) (Nat.le_of_eq VS) (by decide) (by decide)
  obtain ⟨b, g288⟩ : ∃ z, z = h0.size := ⟨_, rfl⟩
  rw [← g288] at A288 B288 st288
  refine OGo.step st288 ?_
  show OGo p e below (T288.setTop (mkF m 6 #[] [(.ref b)])) (OEnd s (fun v h L => ∃ b : Addr, v = some (.ref b) ∧ Fr n0 L ∧ Ext h0 h ∧ Arr Z h b (cloneOf vc) (.object "com/example/tenantd/tenantd/Permission")) ({ frames := 1, cells := 1, slots := 2, locals := 14 } : Room).cells ({ frames := 1, cells := 1, slots := 2, locals := 14 } : Room).slots)
  obtain ⟨T289, X289, e289, st289⟩ := castY X288 hx hZ hown (hw _ (List.mem_of_getElem? (i := 73) rfl)) e288 (Ins.self B288) (g := (mkF m 6 #[] [(.ref b)])) rfl rfl (hb hby own_d_prog_10_method_1_code_6)
  refine OGo.step st289 ?_
  show OGo p e below (T289.setTop (mkF m 9 #[] [(.ref b)])) (OEnd s (fun v h L => ∃ b : Addr, v = some (.ref b) ∧ Fr n0 L ∧ Ext h0 h ∧ Arr Z h b (cloneOf vc) (.object "com/example/tenantd/tenantd/Permission")) ({ frames := 1, cells := 1, slots := 2, locals := 14 } : Room).cells ({ frames := 1, cells := 1, slots := 2, locals := 14 } : Room).slots)
  exact own_ret X289 hx hlk hret rfl (Or.inr (Or.inr (Or.inr (Or.inr ⟨rfl, rfl, rfl⟩)))) (hb hby own_d_prog_10_method_1_code_9) (by rw [e289]; exact ⟨b, rfl, Fr.nil n0, E288, A288⟩) (by decide) (by decide)

set_option maxRecDepth 65536 in
set_option maxHeartbeats 40000000 in
theorem own_ofN (l : Launch) (Z : State) (a0 : Array Value) (hw : ∀ d ∈ tables_1, d.before a0 Z = true) (ws : List Jvm.Cond) (va : Addr) (vc : Cell) (r0 r1 t0 t1 eo : Addr) (zc : Int32) (h0 : Heap) (n0 : Nat) (Z0 : n0 ≤ h0.size) (SC : Sta Z h0 "java/lang/String" "COMPACT_STRINGS" "Z" (.int zc)) (hzc : ¬ zc = 0) (SV : Sta Z h0 "com/example/tenantd/tenantd/Permission" "$VALUES" "[Lcom/example/tenantd/tenantd/Permission;" (.ref va)) (AV : Arr Z h0 va vc (.object "com/example/tenantd/tenantd/Permission")) (EV : Exa Z h0 va "[Lcom/example/tenantd/tenantd/Permission;") (FV : FitC Z vc) (VS : vc.slots.size = 2) (V0 : vc.slots[0]? = some (.ref r0)) (Ft0 : Fld Z h0 r0 "com/example/tenantd/tenantd/Permission" "text" "Ljava/lang/String;" (.ref t0)) (O0 : OStr Z h0 t0 [97, 108, 108, 111, 119]) (V1 : vc.slots[1]? = some (.ref r1)) (Ft1 : Fld Z h0 r1 "com/example/tenantd/tenantd/Permission" "text" "Ljava/lang/String;" (.ref t1)) (O1 : OStr Z h0 t1 [100, 101, 110, 121]) (SE : Sta Z h0 "java/util/Optional" "EMPTY" "Ljava/util/Optional;" (.ref eo)) (EO : Exa Z h0 eo "java/util/Optional") (FO : Fld Z h0 eo "java/util/Optional" "value" "Ljava/lang/Object;" .null) :
    OMet l Z (⟨"com/example/tenantd/tenantd/Permission", "ofText", "(Ljava/lang/String;)Ljava/util/Optional;"⟩ : MethodName) prog_10_method_5_code 5 (some (.object "java/util/Optional")) ws ({ frames := 3, cells := 2, slots := 3, locals := 38 } : Room) #[.null] h0 (fun v h L => ∃ (b : Addr) (u : Value), v = some (.ref b) ∧ Fr n0 L ∧ Ext h0 h ∧ Exa Z h b "java/util/Optional" ∧ Fld Z h b "java/util/Optional" "value" "Ljava/lang/Object;" u ∧ u = own_of none r0 r1) := by
  refine OMet.body (plainFor_of_name own_pn1) ?_
  intro p e s m below meth c s₁ hx hby hml hown hnm hret hlk hZ X0 e0
  refine OGo.step (fun _ kk => castTop (show entryFrame m #[.null] 5 = (mkF m 0 #[.val .null, .unset, .unset, .unset, .unset] []) from by first | (simp [entryFrame, mkF, argsToLocals, Value.category]; done) | rfl) kk) ?_
  show OGo p e below (s₁.setTop (mkF m 0 #[.val .null, .unset, .unset, .unset, .unset] [])) (OEnd s (fun v h L => ∃ (b : Addr) (u : Value), v = some (.ref b) ∧ Fr n0 L ∧ Ext h0 h ∧ Exa Z h b "java/util/Optional" ∧ Fld Z h b "java/util/Optional" "value" "Ljava/lang/Object;" u ∧ u = own_of none r0 r1) ({ frames := 3, cells := 2, slots := 3, locals := 38 } : Room).cells ({ frames := 3, cells := 2, slots := 3, locals := 38 } : Room).slots)
  refine own_callS X0 hx hZ (y := (⟨"com/example/tenantd/tenantd/Permission", "values", "()[Lcom/example/tenantd/tenantd/Permission;"⟩ : MethodName)) hown (hw _ (List.mem_of_getElem? (i := 58) rfl)) (hw _ (List.mem_of_getElem? (i := 59) rfl)) (hw _ (List.mem_of_getElem? (i := 56) rfl)) (hw _ (List.mem_of_getElem? (i := 60) rfl)) (by decide) (W := 0) (own_values l Z a0 hw [] va vc h0 n0 Z0 SV AV EV FV VS) e0  (pc := 0) (Ls := #[.val .null, .unset, .unset, .unset, .unset]) (argsL := []) (rest := []) (by rw [hml]; rfl) (lenOf own_pd3 rfl) rfl (hb hby own_d_prog_10_method_5_code_0) (by decide) (by decide) (by decide) (by decide) ?_
  intro v290 T290 L290 X290 hQ290
  obtain ⟨vb, rfl, N290, Xe290, AB⟩ := hQ290
  show OGo p e below (T290.setTop (mkF m 3 #[.val .null, .unset, .unset, .unset, .unset] [(.ref vb)])) (OEnd s (fun v h L => ∃ (b : Addr) (u : Value), v = some (.ref b) ∧ Fr n0 L ∧ Ext h0 h ∧ Exa Z h b "java/util/Optional" ∧ Fld Z h b "java/util/Optional" "value" "Ljava/lang/Object;" u ∧ u = own_of none r0 r1) ({ frames := 3, cells := 2, slots := 3, locals := 38 } : Room).cells ({ frames := 3, cells := 2, slots := 3, locals := 38 } : Room).slots)
  have Nc290 := Fr.app (Fr.nil n0) N290
  have sz290 : n0 ≤ T290.heap.size := Nat.le_trans Z0 Xe290.1
  refine OGo.step (fun _ kk => XS.astoreN X290.here hx rfl (hb hby own_d_prog_10_method_5_code_3) rfl rfl (l' := #[.val .null, .val (.ref vb), .unset, .unset, .unset]) rfl kk) ?_
  show OGo p e below (T290.setTop (mkF m 4 #[.val .null, .val (.ref vb), .unset, .unset, .unset] [])) (OEnd s (fun v h L => ∃ (b : Addr) (u : Value), v = some (.ref b) ∧ Fr n0 L ∧ Ext h0 h ∧ Exa Z h b "java/util/Optional" ∧ Fld Z h b "java/util/Optional" "value" "Ljava/lang/Object;" u ∧ u = own_of none r0 r1) ({ frames := 3, cells := 2, slots := 3, locals := 38 } : Room).cells ({ frames := 3, cells := 2, slots := 3, locals := 38 } : Room).slots)
  refine OGo.step (fun _ kk => XS.aloadN X290.here hx rfl (hb hby own_d_prog_10_method_5_code_4) rfl rfl kk) ?_
  show OGo p e below (T290.setTop (mkF m 5 #[.val .null, .val (.ref vb), .unset, .unset, .unset] [(.ref vb)])) (OEnd s (fun v h L => ∃ (b : Addr) (u : Value), v = some (.ref b) ∧ Fr n0 L ∧ Ext h0 h ∧ Exa Z h b "java/util/Optional" ∧ Fld Z h b "java/util/Optional" "value" "Ljava/lang/Object;" u ∧ u = own_of none r0 r1) ({ frames := 3, cells := 2, slots := 3, locals := 38 } : Room).cells ({ frames := 3, cells := 2, slots := 3, locals := 38 } : Room).slots)
  refine OGo.step (fun _ kk => X290.arraylength hx (AB).1 (State.isArrayOf_alike hZ.alike (AB).2.1) (g := (mkF m 5 #[.val .null, .val (.ref vb), .unset, .unset, .unset] [(.ref vb)])) rfl rfl (hb hby own_d_prog_10_method_5_code_5) _ kk) ?_
  rw [len_of (z := 2) VS (by decide)]
  show OGo p e below (T290.setTop (mkF m 6 #[.val .null, .val (.ref vb), .unset, .unset, .unset] [(.int (2 : Int32))])) (OEnd s (fun v h L => ∃ (b : Addr) (u : Value), v = some (.ref b) ∧ Fr n0 L ∧ Ext h0 h ∧ Exa Z h b "java/util/Optional" ∧ Fld Z h b "java/util/Optional" "value" "Ljava/lang/Object;" u ∧ u = own_of none r0 r1) ({ frames := 3, cells := 2, slots := 3, locals := 38 } : Room).cells ({ frames := 3, cells := 2, slots := 3, locals := 38 } : Room).slots)
  refine OGo.step (fun _ kk => XS.istoreN X290.here hx rfl (hb hby own_d_prog_10_method_5_code_6) rfl (l' := #[.val .null, .val (.ref vb), .val (.int (2 : Int32)), .unset, .unset]) rfl kk) ?_
  show OGo p e below (T290.setTop (mkF m 7 #[.val .null, .val (.ref vb), .val (.int (2 : Int32)), .unset, .unset] [])) (OEnd s (fun v h L => ∃ (b : Addr) (u : Value), v = some (.ref b) ∧ Fr n0 L ∧ Ext h0 h ∧ Exa Z h b "java/util/Optional" ∧ Fld Z h b "java/util/Optional" "value" "Ljava/lang/Object;" u ∧ u = own_of none r0 r1) ({ frames := 3, cells := 2, slots := 3, locals := 38 } : Room).cells ({ frames := 3, cells := 2, slots := 3, locals := 38 } : Room).slots)
  refine OGo.step (fun _ kk => XS.iconst X290.here hx rfl (hb hby own_d_prog_10_method_5_code_7) kk) ?_
  show OGo p e below (T290.setTop (mkF m 8 #[.val .null, .val (.ref vb), .val (.int (2 : Int32)), .unset, .unset] [(.int (0 : Int32))])) (OEnd s (fun v h L => ∃ (b : Addr) (u : Value), v = some (.ref b) ∧ Fr n0 L ∧ Ext h0 h ∧ Exa Z h b "java/util/Optional" ∧ Fld Z h b "java/util/Optional" "value" "Ljava/lang/Object;" u ∧ u = own_of none r0 r1) ({ frames := 3, cells := 2, slots := 3, locals := 38 } : Room).cells ({ frames := 3, cells := 2, slots := 3, locals := 38 } : Room).slots)
  refine OGo.step (fun _ kk => XS.istoreN X290.here hx rfl (hb hby own_d_prog_10_method_5_code_8) rfl (l' := #[.val .null, .val (.ref vb), .val (.int (2 : Int32)), .val (.int (0 : Int32)), .unset]) rfl kk) ?_
  show OGo p e below (T290.setTop (mkF m 9 #[.val .null, .val (.ref vb), .val (.int (2 : Int32)), .val (.int (0 : Int32)), .unset] [])) (OEnd s (fun v h L => ∃ (b : Addr) (u : Value), v = some (.ref b) ∧ Fr n0 L ∧ Ext h0 h ∧ Exa Z h b "java/util/Optional" ∧ Fld Z h b "java/util/Optional" "value" "Ljava/lang/Object;" u ∧ u = own_of none r0 r1) ({ frames := 3, cells := 2, slots := 3, locals := 38 } : Room).cells ({ frames := 3, cells := 2, slots := 3, locals := 38 } : Room).slots)
  refine OGo.step (fun _ kk => XS.iloadN X290.here hx rfl (hb hby own_d_prog_10_method_5_code_9) rfl kk) ?_
  show OGo p e below (T290.setTop (mkF m 10 #[.val .null, .val (.ref vb), .val (.int (2 : Int32)), .val (.int (0 : Int32)), .unset] [(.int (0 : Int32))])) (OEnd s (fun v h L => ∃ (b : Addr) (u : Value), v = some (.ref b) ∧ Fr n0 L ∧ Ext h0 h ∧ Exa Z h b "java/util/Optional" ∧ Fld Z h b "java/util/Optional" "value" "Ljava/lang/Object;" u ∧ u = own_of none r0 r1) ({ frames := 3, cells := 2, slots := 3, locals := 38 } : Room).cells ({ frames := 3, cells := 2, slots := 3, locals := 38 } : Room).slots)
  refine OGo.step (fun _ kk => XS.iloadN X290.here hx rfl (hb hby own_d_prog_10_method_5_code_10) rfl kk) ?_
  show OGo p e below (T290.setTop (mkF m 11 #[.val .null, .val (.ref vb), .val (.int (2 : Int32)), .val (.int (0 : Int32)), .unset] [(.int (2 : Int32)), (.int (0 : Int32))])) (OEnd s (fun v h L => ∃ (b : Addr) (u : Value), v = some (.ref b) ∧ Fr n0 L ∧ Ext h0 h ∧ Exa Z h b "java/util/Optional" ∧ Fld Z h b "java/util/Optional" "value" "Ljava/lang/Object;" u ∧ u = own_of none r0 r1) ({ frames := 3, cells := 2, slots := 3, locals := 38 } : Room).cells ({ frames := 3, cells := 2, slots := 3, locals := 38 } : Room).slots)
  refine OGo.step (fun _ kk => XS.icmpNo X290.here hx rfl (hb hby own_d_prog_10_method_5_code_11) rfl (tlt (by decide)).2.1 kk) ?_
  show OGo p e below (T290.setTop (mkF m 14 #[.val .null, .val (.ref vb), .val (.int (2 : Int32)), .val (.int (0 : Int32)), .unset] [])) (OEnd s (fun v h L => ∃ (b : Addr) (u : Value), v = some (.ref b) ∧ Fr n0 L ∧ Ext h0 h ∧ Exa Z h b "java/util/Optional" ∧ Fld Z h b "java/util/Optional" "value" "Ljava/lang/Object;" u ∧ u = own_of none r0 r1) ({ frames := 3, cells := 2, slots := 3, locals := 38 } : Room).cells ({ frames := 3, cells := 2, slots := 3, locals := 38 } : Room).slots)
  refine OGo.step (fun _ kk => XS.aloadN X290.here hx rfl (hb hby own_d_prog_10_method_5_code_14) rfl rfl kk) ?_
  show OGo p e below (T290.setTop (mkF m 15 #[.val .null, .val (.ref vb), .val (.int (2 : Int32)), .val (.int (0 : Int32)), .unset] [(.ref vb)])) (OEnd s (fun v h L => ∃ (b : Addr) (u : Value), v = some (.ref b) ∧ Fr n0 L ∧ Ext h0 h ∧ Exa Z h b "java/util/Optional" ∧ Fld Z h b "java/util/Optional" "value" "Ljava/lang/Object;" u ∧ u = own_of none r0 r1) ({ frames := 3, cells := 2, slots := 3, locals := 38 } : Room).cells ({ frames := 3, cells := 2, slots := 3, locals := 38 } : Room).slots)
  refine OGo.step (fun _ kk => XS.iloadN X290.here hx rfl (hb hby own_d_prog_10_method_5_code_15) rfl kk) ?_
  show OGo p e below (T290.setTop (mkF m 16 #[.val .null, .val (.ref vb), .val (.int (2 : Int32)), .val (.int (0 : Int32)), .unset] [(.int (0 : Int32)), (.ref vb)])) (OEnd s (fun v h L => ∃ (b : Addr) (u : Value), v = some (.ref b) ∧ Fr n0 L ∧ Ext h0 h ∧ Exa Z h b "java/util/Optional" ∧ Fld Z h b "java/util/Optional" "value" "Ljava/lang/Object;" u ∧ u = own_of none r0 r1) ({ frames := 3, cells := 2, slots := 3, locals := 38 } : Room).cells ({ frames := 3, cells := 2, slots := 3, locals := 38 } : Room).slots)
  refine OGo.step (fun _ kk => X290.aaload hx (j := (0 : Int32)) (v := (.ref r0)) (AB).1 (State.isArrayOf_alike hZ.alike (AB).2.1) rfl (AB).2.2 (inb_of (z := 2) VS ⟨by decide, by decide⟩) V0 (g := (mkF m 16 #[.val .null, .val (.ref vb), .val (.int (2 : Int32)), .val (.int (0 : Int32)), .unset] [(.int (0 : Int32)), (.ref vb)])) rfl rfl (hb hby own_d_prog_10_method_5_code_16) _ kk) ?_
  show OGo p e below (T290.setTop (mkF m 17 #[.val .null, .val (.ref vb), .val (.int (2 : Int32)), .val (.int (0 : Int32)), .unset] [(.ref r0)])) (OEnd s (fun v h L => ∃ (b : Addr) (u : Value), v = some (.ref b) ∧ Fr n0 L ∧ Ext h0 h ∧ Exa Z h b "java/util/Optional" ∧ Fld Z h b "java/util/Optional" "value" "Ljava/lang/Object;" u ∧ u = own_of none r0 r1) ({ frames := 3, cells := 2, slots := 3, locals := 38 } : Room).cells ({ frames := 3, cells := 2, slots := 3, locals := 38 } : Room).slots)
  refine OGo.step (fun _ kk => XS.astore X290.here hx rfl (hb hby own_d_prog_10_method_5_code_17) rfl rfl (l' := #[.val .null, .val (.ref vb), .val (.int (2 : Int32)), .val (.int (0 : Int32)), .val (.ref r0)]) rfl kk) ?_
  show OGo p e below (T290.setTop (mkF m 19 #[.val .null, .val (.ref vb), .val (.int (2 : Int32)), .val (.int (0 : Int32)), .val (.ref r0)] [])) (OEnd s (fun v h L => ∃ (b : Addr) (u : Value), v = some (.ref b) ∧ Fr n0 L ∧ Ext h0 h ∧ Exa Z h b "java/util/Optional" ∧ Fld Z h b "java/util/Optional" "value" "Ljava/lang/Object;" u ∧ u = own_of none r0 r1) ({ frames := 3, cells := 2, slots := 3, locals := 38 } : Room).cells ({ frames := 3, cells := 2, slots := 3, locals := 38 } : Room).slots)
  refine OGo.step (fun _ kk => XS.aload X290.here hx rfl (hb hby own_d_prog_10_method_5_code_19) rfl rfl kk) ?_
  show OGo p e below (T290.setTop (mkF m 21 #[.val .null, .val (.ref vb), .val (.int (2 : Int32)), .val (.int (0 : Int32)), .val (.ref r0)] [(.ref r0)])) (OEnd s (fun v h L => ∃ (b : Addr) (u : Value), v = some (.ref b) ∧ Fr n0 L ∧ Ext h0 h ∧ Exa Z h b "java/util/Optional" ∧ Fld Z h b "java/util/Optional" "value" "Ljava/lang/Object;" u ∧ u = own_of none r0 r1) ({ frames := 3, cells := 2, slots := 3, locals := 38 } : Room).cells ({ frames := 3, cells := 2, slots := 3, locals := 38 } : Room).slots)
  have fx291 := Ft0.ext Xe290
  obtain ⟨T292, X292, e292, st292⟩ := getF X290 hx hZ hown (host := "") (Or.inl (hw _ (List.mem_of_getElem? (i := 75) rfl))) Via.refl rfl fx291 (g := (mkF m 21 #[.val .null, .val (.ref vb), .val (.int (2 : Int32)), .val (.int (0 : Int32)), .val (.ref r0)] [(.ref r0)])) rfl rfl (hb hby own_d_prog_10_method_5_code_21)
  refine OGo.step st292 ?_
  show OGo p e below (T292.setTop (mkF m 24 #[.val .null, .val (.ref vb), .val (.int (2 : Int32)), .val (.int (0 : Int32)), .val (.ref r0)] [(.ref t0)])) (OEnd s (fun v h L => ∃ (b : Addr) (u : Value), v = some (.ref b) ∧ Fr n0 L ∧ Ext h0 h ∧ Exa Z h b "java/util/Optional" ∧ Fld Z h b "java/util/Optional" "value" "Ljava/lang/Object;" u ∧ u = own_of none r0 r1) ({ frames := 3, cells := 2, slots := 3, locals := 38 } : Room).cells ({ frames := 3, cells := 2, slots := 3, locals := 38 } : Room).slots)
  refine OGo.step (fun _ kk => XS.aloadN X292.here hx rfl (hb hby own_d_prog_10_method_5_code_24) rfl rfl kk) ?_
  show OGo p e below (T292.setTop (mkF m 25 #[.val .null, .val (.ref vb), .val (.int (2 : Int32)), .val (.int (0 : Int32)), .val (.ref r0)] [.null, (.ref t0)])) (OEnd s (fun v h L => ∃ (b : Addr) (u : Value), v = some (.ref b) ∧ Fr n0 L ∧ Ext h0 h ∧ Exa Z h b "java/util/Optional" ∧ Fld Z h b "java/util/Optional" "value" "Ljava/lang/Object;" u ∧ u = own_of none r0 r1) ({ frames := 3, cells := 2, slots := 3, locals := 38 } : Room).cells ({ frames := 3, cells := 2, slots := 3, locals := 38 } : Room).slots)
  have fx293 := O0.ext Xe290
  refine own_virtual X292 hx hZ (y := (⟨"java/lang/String", "equals", "(Ljava/lang/Object;)Z"⟩ : MethodName)) (z := (⟨"java/lang/String", "equals", "(Ljava/lang/Object;)Z"⟩ : MethodName)) hown (hw _ (List.mem_of_getElem? (i := 77) rfl)) (hw _ (List.mem_of_getElem? (i := 78) rfl)) (notFace_of_selects (args := #[]) (mvT hZ (hw _ (List.mem_of_getElem? (i := 80) rfl)))) (hw _ (List.mem_of_getElem? (i := 80) rfl)) (hw _ (List.mem_of_getElem? (i := 79) rfl)) (by decide) (hw _ (List.mem_of_getElem? (i := 81) rfl)) (hw _ (List.mem_of_getElem? (i := 6) rfl)) (b := t0) fx293.exa (W := 0) (own_seqN l Z a0 hw [] t0 T290.heap n0 sz290) e292  (pc := 25) (Ls := #[.val .null, .val (.ref vb), .val (.int (2 : Int32)), .val (.int (0 : Int32)), .val (.ref r0)]) (argsL := [.null]) (rest := []) (by rw [hml]; rfl) (lenOf own_pd4 rfl) rfl (hb hby own_d_prog_10_method_5_code_25) (by decide) (by decide) (by decide) (by decide) ?_
  intro v294 T294 L294 X294 hQ294
  obtain ⟨rfl, N294, e294⟩ := hQ294
  show OGo p e below (T294.setTop (mkF m 28 #[.val .null, .val (.ref vb), .val (.int (2 : Int32)), .val (.int (0 : Int32)), .val (.ref r0)] [(.int (0 : Int32))])) (OEnd s (fun v h L => ∃ (b : Addr) (u : Value), v = some (.ref b) ∧ Fr n0 L ∧ Ext h0 h ∧ Exa Z h b "java/util/Optional" ∧ Fld Z h b "java/util/Optional" "value" "Ljava/lang/Object;" u ∧ u = own_of none r0 r1) ({ frames := 3, cells := 2, slots := 3, locals := 38 } : Room).cells ({ frames := 3, cells := 2, slots := 3, locals := 38 } : Room).slots)
  have Nc294 := Fr.app Nc290 N294
  refine OGo.step (fun _ kk => XS.ifYes X294.here hx rfl (pc0 := 28) (pc' := 37) rfl (hb hby own_d_prog_10_method_5_code_28) rfl ((if0 _ _).trans (teq rfl).1) (by decide) (by decide) kk) ?_
  show OGo p e below (T294.setTop (mkF m 37 #[.val .null, .val (.ref vb), .val (.int (2 : Int32)), .val (.int (0 : Int32)), .val (.ref r0)] [])) (OEnd s (fun v h L => ∃ (b : Addr) (u : Value), v = some (.ref b) ∧ Fr n0 L ∧ Ext h0 h ∧ Exa Z h b "java/util/Optional" ∧ Fld Z h b "java/util/Optional" "value" "Ljava/lang/Object;" u ∧ u = own_of none r0 r1) ({ frames := 3, cells := 2, slots := 3, locals := 38 } : Room).cells ({ frames := 3, cells := 2, slots := 3, locals := 38 } : Room).slots)
  refine OGo.step (fun _ kk => XS.iinc X294.here hx rfl (hb hby own_d_prog_10_method_5_code_37) rfl (l' := #[.val .null, .val (.ref vb), .val (.int (2 : Int32)), .val (.int ((0 : Int32) + (1 : Int32))), .val (.ref r0)]) rfl kk) ?_
  show OGo p e below (T294.setTop (mkF m 40 #[.val .null, .val (.ref vb), .val (.int (2 : Int32)), .val (.int ((0 : Int32) + (1 : Int32))), .val (.ref r0)] [])) (OEnd s (fun v h L => ∃ (b : Addr) (u : Value), v = some (.ref b) ∧ Fr n0 L ∧ Ext h0 h ∧ Exa Z h b "java/util/Optional" ∧ Fld Z h b "java/util/Optional" "value" "Ljava/lang/Object;" u ∧ u = own_of none r0 r1) ({ frames := 3, cells := 2, slots := 3, locals := 38 } : Room).cells ({ frames := 3, cells := 2, slots := 3, locals := 38 } : Room).slots)
  refine OGo.step (fun _ kk => XS.goto X294.here hx rfl (pc0 := 40) (pc' := 9) rfl (hb hby own_d_prog_10_method_5_code_40) (by decide) (by decide) kk) ?_
  show OGo p e below (T294.setTop (mkF m 9 #[.val .null, .val (.ref vb), .val (.int (2 : Int32)), .val (.int ((0 : Int32) + (1 : Int32))), .val (.ref r0)] [])) (OEnd s (fun v h L => ∃ (b : Addr) (u : Value), v = some (.ref b) ∧ Fr n0 L ∧ Ext h0 h ∧ Exa Z h b "java/util/Optional" ∧ Fld Z h b "java/util/Optional" "value" "Ljava/lang/Object;" u ∧ u = own_of none r0 r1) ({ frames := 3, cells := 2, slots := 3, locals := 38 } : Room).cells ({ frames := 3, cells := 2, slots := 3, locals := 38 } : Room).slots)
  show OGo p e below (T294.setTop (mkF m 9 #[.val .null, .val (.ref vb), .val (.int (2 : Int32)), .val (.int (1 : Int32)), .val (.ref r0)] [])) (OEnd s (fun v h L => ∃ (b : Addr) (u : Value), v = some (.ref b) ∧ Fr n0 L ∧ Ext h0 h ∧ Exa Z h b "java/util/Optional" ∧ Fld Z h b "java/util/Optional" "value" "Ljava/lang/Object;" u ∧ u = own_of none r0 r1) ({ frames := 3, cells := 2, slots := 3, locals := 38 } : Room).cells ({ frames := 3, cells := 2, slots := 3, locals := 38 } : Room).slots)
  refine OGo.step (fun _ kk => XS.iloadN X294.here hx rfl (hb hby own_d_prog_10_method_5_code_9) rfl kk) ?_
  show OGo p e below (T294.setTop (mkF m 10 #[.val .null, .val (.ref vb), .val (.int (2 : Int32)), .val (.int (1 : Int32)), .val (.ref r0)] [(.int (1 : Int32))])) (OEnd s (fun v h L => ∃ (b : Addr) (u : Value), v = some (.ref b) ∧ Fr n0 L ∧ Ext h0 h ∧ Exa Z h b "java/util/Optional" ∧ Fld Z h b "java/util/Optional" "value" "Ljava/lang/Object;" u ∧ u = own_of none r0 r1) ({ frames := 3, cells := 2, slots := 3, locals := 38 } : Room).cells ({ frames := 3, cells := 2, slots := 3, locals := 38 } : Room).slots)
  refine OGo.step (fun _ kk => XS.iloadN X294.here hx rfl (hb hby own_d_prog_10_method_5_code_10) rfl kk) ?_
  show OGo p e below (T294.setTop (mkF m 11 #[.val .null, .val (.ref vb), .val (.int (2 : Int32)), .val (.int (1 : Int32)), .val (.ref r0)] [(.int (2 : Int32)), (.int (1 : Int32))])) (OEnd s (fun v h L => ∃ (b : Addr) (u : Value), v = some (.ref b) ∧ Fr n0 L ∧ Ext h0 h ∧ Exa Z h b "java/util/Optional" ∧ Fld Z h b "java/util/Optional" "value" "Ljava/lang/Object;" u ∧ u = own_of none r0 r1) ({ frames := 3, cells := 2, slots := 3, locals := 38 } : Room).cells ({ frames := 3, cells := 2, slots := 3, locals := 38 } : Room).slots)
  refine OGo.step (fun _ kk => XS.icmpNo X294.here hx rfl (hb hby own_d_prog_10_method_5_code_11) rfl (tlt (by decide)).2.1 kk) ?_
  show OGo p e below (T294.setTop (mkF m 14 #[.val .null, .val (.ref vb), .val (.int (2 : Int32)), .val (.int (1 : Int32)), .val (.ref r0)] [])) (OEnd s (fun v h L => ∃ (b : Addr) (u : Value), v = some (.ref b) ∧ Fr n0 L ∧ Ext h0 h ∧ Exa Z h b "java/util/Optional" ∧ Fld Z h b "java/util/Optional" "value" "Ljava/lang/Object;" u ∧ u = own_of none r0 r1) ({ frames := 3, cells := 2, slots := 3, locals := 38 } : Room).cells ({ frames := 3, cells := 2, slots := 3, locals := 38 } : Room).slots)
  refine OGo.step (fun _ kk => XS.aloadN X294.here hx rfl (hb hby own_d_prog_10_method_5_code_14) rfl rfl kk) ?_
  show OGo p e below (T294.setTop (mkF m 15 #[.val .null, .val (.ref vb), .val (.int (2 : Int32)), .val (.int (1 : Int32)), .val (.ref r0)] [(.ref vb)])) (OEnd s (fun v h L => ∃ (b : Addr) (u : Value), v = some (.ref b) ∧ Fr n0 L ∧ Ext h0 h ∧ Exa Z h b "java/util/Optional" ∧ Fld Z h b "java/util/Optional" "value" "Ljava/lang/Object;" u ∧ u = own_of none r0 r1) ({ frames := 3, cells := 2, slots := 3, locals := 38 } : Room).cells ({ frames := 3, cells := 2, slots := 3, locals := 38 } : Room).slots)
  refine OGo.step (fun _ kk => XS.iloadN X294.here hx rfl (hb hby own_d_prog_10_method_5_code_15) rfl kk) ?_
  show OGo p e below (T294.setTop (mkF m 16 #[.val .null, .val (.ref vb), .val (.int (2 : Int32)), .val (.int (1 : Int32)), .val (.ref r0)] [(.int (1 : Int32)), (.ref vb)])) (OEnd s (fun v h L => ∃ (b : Addr) (u : Value), v = some (.ref b) ∧ Fr n0 L ∧ Ext h0 h ∧ Exa Z h b "java/util/Optional" ∧ Fld Z h b "java/util/Optional" "value" "Ljava/lang/Object;" u ∧ u = own_of none r0 r1) ({ frames := 3, cells := 2, slots := 3, locals := 38 } : Room).cells ({ frames := 3, cells := 2, slots := 3, locals := 38 } : Room).slots)
  refine OGo.step (fun _ kk => X294.aaload hx (j := (1 : Int32)) (v := (.ref r1)) (by rw [e294]; exact (AB).1) (State.isArrayOf_alike hZ.alike (AB).2.1) rfl (AB).2.2 (inb_of (z := 2) VS ⟨by decide, by decide⟩) V1 (g := (mkF m 16 #[.val .null, .val (.ref vb), .val (.int (2 : Int32)), .val (.int (1 : Int32)), .val (.ref r0)] [(.int (1 : Int32)), (.ref vb)])) rfl rfl (hb hby own_d_prog_10_method_5_code_16) _ kk) ?_
  show OGo p e below (T294.setTop (mkF m 17 #[.val .null, .val (.ref vb), .val (.int (2 : Int32)), .val (.int (1 : Int32)), .val (.ref r0)] [(.ref r1)])) (OEnd s (fun v h L => ∃ (b : Addr) (u : Value), v = some (.ref b) ∧ Fr n0 L ∧ Ext h0 h ∧ Exa Z h b "java/util/Optional" ∧ Fld Z h b "java/util/Optional" "value" "Ljava/lang/Object;" u ∧ u = own_of none r0 r1) ({ frames := 3, cells := 2, slots := 3, locals := 38 } : Room).cells ({ frames := 3, cells := 2, slots := 3, locals := 38 } : Room).slots)
  refine OGo.step (fun _ kk => XS.astore X294.here hx rfl (hb hby own_d_prog_10_method_5_code_17) rfl rfl (l' := #[.val .null, .val (.ref vb), .val (.int (2 : Int32)), .val (.int (1 : Int32)), .val (.ref r1)]) rfl kk) ?_
  show OGo p e below (T294.setTop (mkF m 19 #[.val .null, .val (.ref vb), .val (.int (2 : Int32)), .val (.int (1 : Int32)), .val (.ref r1)] [])) (OEnd s (fun v h L => ∃ (b : Addr) (u : Value), v = some (.ref b) ∧ Fr n0 L ∧ Ext h0 h ∧ Exa Z h b "java/util/Optional" ∧ Fld Z h b "java/util/Optional" "value" "Ljava/lang/Object;" u ∧ u = own_of none r0 r1) ({ frames := 3, cells := 2, slots := 3, locals := 38 } : Room).cells ({ frames := 3, cells := 2, slots := 3, locals := 38 } : Room).slots)
  refine OGo.step (fun _ kk => XS.aload X294.here hx rfl (hb hby own_d_prog_10_method_5_code_19) rfl rfl kk) ?_
  show OGo p e below (T294.setTop (mkF m 21 #[.val .null, .val (.ref vb), .val (.int (2 : Int32)), .val (.int (1 : Int32)), .val (.ref r1)] [(.ref r1)])) (OEnd s (fun v h L => ∃ (b : Addr) (u : Value), v = some (.ref b) ∧ Fr n0 L ∧ Ext h0 h ∧ Exa Z h b "java/util/Optional" ∧ Fld Z h b "java/util/Optional" "value" "Ljava/lang/Object;" u ∧ u = own_of none r0 r1) ({ frames := 3, cells := 2, slots := 3, locals := 38 } : Room).cells ({ frames := 3, cells := 2, slots := 3, locals := 38 } : Room).slots)
  have fx295 := Ft1.ext Xe290
  obtain ⟨T296, X296, e296, st296⟩ := getF X294 hx hZ hown (host := "") (Or.inl (hw _ (List.mem_of_getElem? (i := 75) rfl))) Via.refl e294 fx295 (g := (mkF m 21 #[.val .null, .val (.ref vb), .val (.int (2 : Int32)), .val (.int (1 : Int32)), .val (.ref r1)] [(.ref r1)])) rfl rfl (hb hby own_d_prog_10_method_5_code_21)
  refine OGo.step st296 ?_
  show OGo p e below (T296.setTop (mkF m 24 #[.val .null, .val (.ref vb), .val (.int (2 : Int32)), .val (.int (1 : Int32)), .val (.ref r1)] [(.ref t1)])) (OEnd s (fun v h L => ∃ (b : Addr) (u : Value), v = some (.ref b) ∧ Fr n0 L ∧ Ext h0 h ∧ Exa Z h b "java/util/Optional" ∧ Fld Z h b "java/util/Optional" "value" "Ljava/lang/Object;" u ∧ u = own_of none r0 r1) ({ frames := 3, cells := 2, slots := 3, locals := 38 } : Room).cells ({ frames := 3, cells := 2, slots := 3, locals := 38 } : Room).slots)
  refine OGo.step (fun _ kk => XS.aloadN X296.here hx rfl (hb hby own_d_prog_10_method_5_code_24) rfl rfl kk) ?_
  show OGo p e below (T296.setTop (mkF m 25 #[.val .null, .val (.ref vb), .val (.int (2 : Int32)), .val (.int (1 : Int32)), .val (.ref r1)] [.null, (.ref t1)])) (OEnd s (fun v h L => ∃ (b : Addr) (u : Value), v = some (.ref b) ∧ Fr n0 L ∧ Ext h0 h ∧ Exa Z h b "java/util/Optional" ∧ Fld Z h b "java/util/Optional" "value" "Ljava/lang/Object;" u ∧ u = own_of none r0 r1) ({ frames := 3, cells := 2, slots := 3, locals := 38 } : Room).cells ({ frames := 3, cells := 2, slots := 3, locals := 38 } : Room).slots)
  have fx297 := O1.ext Xe290
  refine own_virtual X296 hx hZ (y := (⟨"java/lang/String", "equals", "(Ljava/lang/Object;)Z"⟩ : MethodName)) (z := (⟨"java/lang/String", "equals", "(Ljava/lang/Object;)Z"⟩ : MethodName)) hown (hw _ (List.mem_of_getElem? (i := 77) rfl)) (hw _ (List.mem_of_getElem? (i := 78) rfl)) (notFace_of_selects (args := #[]) (mvT hZ (hw _ (List.mem_of_getElem? (i := 80) rfl)))) (hw _ (List.mem_of_getElem? (i := 80) rfl)) (hw _ (List.mem_of_getElem? (i := 79) rfl)) (by decide) (hw _ (List.mem_of_getElem? (i := 81) rfl)) (hw _ (List.mem_of_getElem? (i := 6) rfl)) (b := t1) fx297.exa (W := 0) (own_seqN l Z a0 hw [] t1 T290.heap n0 sz290) e296  (pc := 25) (Ls := #[.val .null, .val (.ref vb), .val (.int (2 : Int32)), .val (.int (1 : Int32)), .val (.ref r1)]) (argsL := [.null]) (rest := []) (by rw [hml]; rfl) (lenOf own_pd4 rfl) rfl (hb hby own_d_prog_10_method_5_code_25) (by decide) (by decide) (by decide) (by decide) ?_
  intro v298 T298 L298 X298 hQ298
  obtain ⟨rfl, N298, e298⟩ := hQ298
  show OGo p e below (T298.setTop (mkF m 28 #[.val .null, .val (.ref vb), .val (.int (2 : Int32)), .val (.int (1 : Int32)), .val (.ref r1)] [(.int (0 : Int32))])) (OEnd s (fun v h L => ∃ (b : Addr) (u : Value), v = some (.ref b) ∧ Fr n0 L ∧ Ext h0 h ∧ Exa Z h b "java/util/Optional" ∧ Fld Z h b "java/util/Optional" "value" "Ljava/lang/Object;" u ∧ u = own_of none r0 r1) ({ frames := 3, cells := 2, slots := 3, locals := 38 } : Room).cells ({ frames := 3, cells := 2, slots := 3, locals := 38 } : Room).slots)
  have Nc298 := Fr.app Nc294 N298
  refine OGo.step (fun _ kk => XS.ifYes X298.here hx rfl (pc0 := 28) (pc' := 37) rfl (hb hby own_d_prog_10_method_5_code_28) rfl ((if0 _ _).trans (teq rfl).1) (by decide) (by decide) kk) ?_
  show OGo p e below (T298.setTop (mkF m 37 #[.val .null, .val (.ref vb), .val (.int (2 : Int32)), .val (.int (1 : Int32)), .val (.ref r1)] [])) (OEnd s (fun v h L => ∃ (b : Addr) (u : Value), v = some (.ref b) ∧ Fr n0 L ∧ Ext h0 h ∧ Exa Z h b "java/util/Optional" ∧ Fld Z h b "java/util/Optional" "value" "Ljava/lang/Object;" u ∧ u = own_of none r0 r1) ({ frames := 3, cells := 2, slots := 3, locals := 38 } : Room).cells ({ frames := 3, cells := 2, slots := 3, locals := 38 } : Room).slots)
  refine OGo.step (fun _ kk => XS.iinc X298.here hx rfl (hb hby own_d_prog_10_method_5_code_37) rfl (l' := #[.val .null, .val (.ref vb), .val (.int (2 : Int32)), .val (.int ((1 : Int32) + (1 : Int32))), .val (.ref r1)]) rfl kk) ?_
  show OGo p e below (T298.setTop (mkF m 40 #[.val .null, .val (.ref vb), .val (.int (2 : Int32)), .val (.int ((1 : Int32) + (1 : Int32))), .val (.ref r1)] [])) (OEnd s (fun v h L => ∃ (b : Addr) (u : Value), v = some (.ref b) ∧ Fr n0 L ∧ Ext h0 h ∧ Exa Z h b "java/util/Optional" ∧ Fld Z h b "java/util/Optional" "value" "Ljava/lang/Object;" u ∧ u = own_of none r0 r1) ({ frames := 3, cells := 2, slots := 3, locals := 38 } : Room).cells ({ frames := 3, cells := 2, slots := 3, locals := 38 } : Room).slots)
  refine OGo.step (fun _ kk => XS.goto X298.here hx rfl (pc0 := 40) (pc' := 9) rfl (hb hby own_d_prog_10_method_5_code_40) (by decide) (by decide) kk) ?_
  show OGo p e below (T298.setTop (mkF m 9 #[.val .null, .val (.ref vb), .val (.int (2 : Int32)), .val (.int ((1 : Int32) + (1 : Int32))), .val (.ref r1)] [])) (OEnd s (fun v h L => ∃ (b : Addr) (u : Value), v = some (.ref b) ∧ Fr n0 L ∧ Ext h0 h ∧ Exa Z h b "java/util/Optional" ∧ Fld Z h b "java/util/Optional" "value" "Ljava/lang/Object;" u ∧ u = own_of none r0 r1) ({ frames := 3, cells := 2, slots := 3, locals := 38 } : Room).cells ({ frames := 3, cells := 2, slots := 3, locals := 38 } : Room).slots)
  show OGo p e below (T298.setTop (mkF m 9 #[.val .null, .val (.ref vb), .val (.int (2 : Int32)), .val (.int (2 : Int32)), .val (.ref r1)] [])) (OEnd s (fun v h L => ∃ (b : Addr) (u : Value), v = some (.ref b) ∧ Fr n0 L ∧ Ext h0 h ∧ Exa Z h b "java/util/Optional" ∧ Fld Z h b "java/util/Optional" "value" "Ljava/lang/Object;" u ∧ u = own_of none r0 r1) ({ frames := 3, cells := 2, slots := 3, locals := 38 } : Room).cells ({ frames := 3, cells := 2, slots := 3, locals := 38 } : Room).slots)
  refine OGo.step (fun _ kk => XS.iloadN X298.here hx rfl (hb hby own_d_prog_10_method_5_code_9) rfl kk) ?_
  show OGo p e below (T298.setTop (mkF m 10 #[.val .null, .val (.ref vb), .val (.int (2 : Int32)), .val (.int (2 : Int32)), .val (.ref r1)] [(.int (2 : Int32))])) (OEnd s (fun v h L => ∃ (b : Addr) (u : Value), v = some (.ref b) ∧ Fr n0 L ∧ Ext h0 h ∧ Exa Z h b "java/util/Optional" ∧ Fld Z h b "java/util/Optional" "value" "Ljava/lang/Object;" u ∧ u = own_of none r0 r1) ({ frames := 3, cells := 2, slots := 3, locals := 38 } : Room).cells ({ frames := 3, cells := 2, slots := 3, locals := 38 } : Room).slots)
  refine OGo.step (fun _ kk => XS.iloadN X298.here hx rfl (hb hby own_d_prog_10_method_5_code_10) rfl kk) ?_
  show OGo p e below (T298.setTop (mkF m 11 #[.val .null, .val (.ref vb), .val (.int (2 : Int32)), .val (.int (2 : Int32)), .val (.ref r1)] [(.int (2 : Int32)), (.int (2 : Int32))])) (OEnd s (fun v h L => ∃ (b : Addr) (u : Value), v = some (.ref b) ∧ Fr n0 L ∧ Ext h0 h ∧ Exa Z h b "java/util/Optional" ∧ Fld Z h b "java/util/Optional" "value" "Ljava/lang/Object;" u ∧ u = own_of none r0 r1) ({ frames := 3, cells := 2, slots := 3, locals := 38 } : Room).cells ({ frames := 3, cells := 2, slots := 3, locals := 38 } : Room).slots)
  refine OGo.step (fun _ kk => XS.icmpYes X298.here hx rfl (pc0 := 11) (pc' := 43) rfl (hb hby own_d_prog_10_method_5_code_11) rfl (flt (by decide)).2.1 (by decide) (by decide) kk) ?_
  show OGo p e below (T298.setTop (mkF m 43 #[.val .null, .val (.ref vb), .val (.int (2 : Int32)), .val (.int (2 : Int32)), .val (.ref r1)] [])) (OEnd s (fun v h L => ∃ (b : Addr) (u : Value), v = some (.ref b) ∧ Fr n0 L ∧ Ext h0 h ∧ Exa Z h b "java/util/Optional" ∧ Fld Z h b "java/util/Optional" "value" "Ljava/lang/Object;" u ∧ u = own_of none r0 r1) ({ frames := 3, cells := 2, slots := 3, locals := 38 } : Room).cells ({ frames := 3, cells := 2, slots := 3, locals := 38 } : Room).slots)
  have fx299 := SE.ext Xe290
  refine own_callS X298 hx hZ (y := (⟨"java/util/Optional", "empty", "()Ljava/util/Optional;"⟩ : MethodName)) hown (hw _ (List.mem_of_getElem? (i := 86) rfl)) (hw _ (List.mem_of_getElem? (i := 87) rfl)) (hw _ (List.mem_of_getElem? (i := 88) rfl)) (hw _ (List.mem_of_getElem? (i := 89) rfl)) (by decide) (W := 0) (own_opempty l Z a0 hw [] eo T290.heap n0 sz290 fx299) e298  (pc := 43) (Ls := #[.val .null, .val (.ref vb), .val (.int (2 : Int32)), .val (.int (2 : Int32)), .val (.ref r1)]) (argsL := []) (rest := []) (by rw [hml]; rfl) (lenOf own_pd5 rfl) rfl (hb hby own_d_prog_10_method_5_code_43) (by decide) (by decide) (by decide) (by decide) ?_
  intro v300 T300 L300 X300 hQ300
  obtain ⟨rfl, N300, e300⟩ := hQ300
  show OGo p e below (T300.setTop (mkF m 46 #[.val .null, .val (.ref vb), .val (.int (2 : Int32)), .val (.int (2 : Int32)), .val (.ref r1)] [(.ref eo)])) (OEnd s (fun v h L => ∃ (b : Addr) (u : Value), v = some (.ref b) ∧ Fr n0 L ∧ Ext h0 h ∧ Exa Z h b "java/util/Optional" ∧ Fld Z h b "java/util/Optional" "value" "Ljava/lang/Object;" u ∧ u = own_of none r0 r1) ({ frames := 3, cells := 2, slots := 3, locals := 38 } : Room).cells ({ frames := 3, cells := 2, slots := 3, locals := 38 } : Room).slots)
  have Nc300 := Fr.app Nc298 N300
  have fx301 := EO.ext Xe290
  have fx302 := FO.ext Xe290
  exact own_ret X300 hx hlk hret rfl (Or.inr (Or.inr (Or.inr (Or.inr ⟨rfl, rfl, rfl⟩)))) (hb hby own_d_prog_10_method_5_code_46) (by rw [e300]; exact ⟨eo, .null, rfl, Nc300, Xe290, fx301, fx302, by rw [own_of, if_neg (fun z => by cases z), if_neg (fun z => by cases z)]⟩) (by decide) (by decide)

set_option maxRecDepth 65536 in
set_option maxHeartbeats 40000000 in
theorem own_ofS (l : Launch) (Z : State) (a0 : Array Value) (hw : ∀ d ∈ tables_1, d.before a0 Z = true) (ws : List Jvm.Cond) (va : Addr) (vc : Cell) (r0 r1 t0 t1 eo : Addr) (zc : Int32) (x : Addr) (cs : List Int32) (h0 : Heap) (n0 : Nat) (Z0 : n0 ≤ h0.size) (SC : Sta Z h0 "java/lang/String" "COMPACT_STRINGS" "Z" (.int zc)) (hzc : ¬ zc = 0) (SV : Sta Z h0 "com/example/tenantd/tenantd/Permission" "$VALUES" "[Lcom/example/tenantd/tenantd/Permission;" (.ref va)) (AV : Arr Z h0 va vc (.object "com/example/tenantd/tenantd/Permission")) (EV : Exa Z h0 va "[Lcom/example/tenantd/tenantd/Permission;") (FV : FitC Z vc) (VS : vc.slots.size = 2) (V0 : vc.slots[0]? = some (.ref r0)) (Ft0 : Fld Z h0 r0 "com/example/tenantd/tenantd/Permission" "text" "Ljava/lang/String;" (.ref t0)) (O0 : OStr Z h0 t0 [97, 108, 108, 111, 119]) (V1 : vc.slots[1]? = some (.ref r1)) (Ft1 : Fld Z h0 r1 "com/example/tenantd/tenantd/Permission" "text" "Ljava/lang/String;" (.ref t1)) (O1 : OStr Z h0 t1 [100, 101, 110, 121]) (SE : Sta Z h0 "java/util/Optional" "EMPTY" "Ljava/util/Optional;" (.ref eo)) (EO : Exa Z h0 eo "java/util/Optional") (FO : Fld Z h0 eo "java/util/Optional" "value" "Ljava/lang/Object;" .null) (G : OStr Z h0 x cs) :
    OMet l Z (⟨"com/example/tenantd/tenantd/Permission", "ofText", "(Ljava/lang/String;)Ljava/util/Optional;"⟩ : MethodName) prog_10_method_5_code 5 (some (.object "java/util/Optional")) ws ({ frames := 3, cells := 2, slots := 3, locals := 38 } : Room) #[(.ref x)] h0 (fun v h L => ∃ (b : Addr) (u : Value), v = some (.ref b) ∧ Fr n0 L ∧ Ext h0 h ∧ Exa Z h b "java/util/Optional" ∧ Fld Z h b "java/util/Optional" "value" "Ljava/lang/Object;" u ∧ u = own_of (some cs) r0 r1) := by
  refine OMet.body (plainFor_of_name own_pn1) ?_
  intro p e s m below meth c s₁ hx hby hml hown hnm hret hlk hZ X0 e0
  refine OGo.step (fun _ kk => castTop (show entryFrame m #[(.ref x)] 5 = (mkF m 0 #[.val (.ref x), .unset, .unset, .unset, .unset] []) from by first | (simp [entryFrame, mkF, argsToLocals, Value.category]; done) | rfl) kk) ?_
  show OGo p e below (s₁.setTop (mkF m 0 #[.val (.ref x), .unset, .unset, .unset, .unset] [])) (OEnd s (fun v h L => ∃ (b : Addr) (u : Value), v = some (.ref b) ∧ Fr n0 L ∧ Ext h0 h ∧ Exa Z h b "java/util/Optional" ∧ Fld Z h b "java/util/Optional" "value" "Ljava/lang/Object;" u ∧ u = own_of (some cs) r0 r1) ({ frames := 3, cells := 2, slots := 3, locals := 38 } : Room).cells ({ frames := 3, cells := 2, slots := 3, locals := 38 } : Room).slots)
  refine own_callS X0 hx hZ (y := (⟨"com/example/tenantd/tenantd/Permission", "values", "()[Lcom/example/tenantd/tenantd/Permission;"⟩ : MethodName)) hown (hw _ (List.mem_of_getElem? (i := 58) rfl)) (hw _ (List.mem_of_getElem? (i := 59) rfl)) (hw _ (List.mem_of_getElem? (i := 56) rfl)) (hw _ (List.mem_of_getElem? (i := 60) rfl)) (by decide) (W := 0) (own_values l Z a0 hw [] va vc h0 n0 Z0 SV AV EV FV VS) e0  (pc := 0) (Ls := #[.val (.ref x), .unset, .unset, .unset, .unset]) (argsL := []) (rest := []) (by rw [hml]; rfl) (lenOf own_pd3 rfl) rfl (hb hby own_d_prog_10_method_5_code_0) (by decide) (by decide) (by decide) (by decide) ?_
  intro v303 T303 L303 X303 hQ303
  obtain ⟨vb, rfl, N303, Xe303, AB⟩ := hQ303
  show OGo p e below (T303.setTop (mkF m 3 #[.val (.ref x), .unset, .unset, .unset, .unset] [(.ref vb)])) (OEnd s (fun v h L => ∃ (b : Addr) (u : Value), v = some (.ref b) ∧ Fr n0 L ∧ Ext h0 h ∧ Exa Z h b "java/util/Optional" ∧ Fld Z h b "java/util/Optional" "value" "Ljava/lang/Object;" u ∧ u = own_of (some cs) r0 r1) ({ frames := 3, cells := 2, slots := 3, locals := 38 } : Room).cells ({ frames := 3, cells := 2, slots := 3, locals := 38 } : Room).slots)
  have Nc303 := Fr.app (Fr.nil n0) N303
  have sz303 : n0 ≤ T303.heap.size := Nat.le_trans Z0 Xe303.1
  refine OGo.step (fun _ kk => XS.astoreN X303.here hx rfl (hb hby own_d_prog_10_method_5_code_3) rfl rfl (l' := #[.val (.ref x), .val (.ref vb), .unset, .unset, .unset]) rfl kk) ?_
  show OGo p e below (T303.setTop (mkF m 4 #[.val (.ref x), .val (.ref vb), .unset, .unset, .unset] [])) (OEnd s (fun v h L => ∃ (b : Addr) (u : Value), v = some (.ref b) ∧ Fr n0 L ∧ Ext h0 h ∧ Exa Z h b "java/util/Optional" ∧ Fld Z h b "java/util/Optional" "value" "Ljava/lang/Object;" u ∧ u = own_of (some cs) r0 r1) ({ frames := 3, cells := 2, slots := 3, locals := 38 } : Room).cells ({ frames := 3, cells := 2, slots := 3, locals := 38 } : Room).slots)
  refine OGo.step (fun _ kk => XS.aloadN X303.here hx rfl (hb hby own_d_prog_10_method_5_code_4) rfl rfl kk) ?_
  show OGo p e below (T303.setTop (mkF m 5 #[.val (.ref x), .val (.ref vb), .unset, .unset, .unset] [(.ref vb)])) (OEnd s (fun v h L => ∃ (b : Addr) (u : Value), v = some (.ref b) ∧ Fr n0 L ∧ Ext h0 h ∧ Exa Z h b "java/util/Optional" ∧ Fld Z h b "java/util/Optional" "value" "Ljava/lang/Object;" u ∧ u = own_of (some cs) r0 r1) ({ frames := 3, cells := 2, slots := 3, locals := 38 } : Room).cells ({ frames := 3, cells := 2, slots := 3, locals := 38 } : Room).slots)
  refine OGo.step (fun _ kk => X303.arraylength hx (AB).1 (State.isArrayOf_alike hZ.alike (AB).2.1) (g := (mkF m 5 #[.val (.ref x), .val (.ref vb), .unset, .unset, .unset] [(.ref vb)])) rfl rfl (hb hby own_d_prog_10_method_5_code_5) _ kk) ?_
  rw [len_of (z := 2) VS (by decide)]
  show OGo p e below (T303.setTop (mkF m 6 #[.val (.ref x), .val (.ref vb), .unset, .unset, .unset] [(.int (2 : Int32))])) (OEnd s (fun v h L => ∃ (b : Addr) (u : Value), v = some (.ref b) ∧ Fr n0 L ∧ Ext h0 h ∧ Exa Z h b "java/util/Optional" ∧ Fld Z h b "java/util/Optional" "value" "Ljava/lang/Object;" u ∧ u = own_of (some cs) r0 r1) ({ frames := 3, cells := 2, slots := 3, locals := 38 } : Room).cells ({ frames := 3, cells := 2, slots := 3, locals := 38 } : Room).slots)
  refine OGo.step (fun _ kk => XS.istoreN X303.here hx rfl (hb hby own_d_prog_10_method_5_code_6) rfl (l' := #[.val (.ref x), .val (.ref vb), .val (.int (2 : Int32)), .unset, .unset]) rfl kk) ?_
  show OGo p e below (T303.setTop (mkF m 7 #[.val (.ref x), .val (.ref vb), .val (.int (2 : Int32)), .unset, .unset] [])) (OEnd s (fun v h L => ∃ (b : Addr) (u : Value), v = some (.ref b) ∧ Fr n0 L ∧ Ext h0 h ∧ Exa Z h b "java/util/Optional" ∧ Fld Z h b "java/util/Optional" "value" "Ljava/lang/Object;" u ∧ u = own_of (some cs) r0 r1) ({ frames := 3, cells := 2, slots := 3, locals := 38 } : Room).cells ({ frames := 3, cells := 2, slots := 3, locals := 38 } : Room).slots)
  refine OGo.step (fun _ kk => XS.iconst X303.here hx rfl (hb hby own_d_prog_10_method_5_code_7) kk) ?_
  show OGo p e below (T303.setTop (mkF m 8 #[.val (.ref x), .val (.ref vb), .val (.int (2 : Int32)), .unset, .unset] [(.int (0 : Int32))])) (OEnd s (fun v h L => ∃ (b : Addr) (u : Value), v = some (.ref b) ∧ Fr n0 L ∧ Ext h0 h ∧ Exa Z h b "java/util/Optional" ∧ Fld Z h b "java/util/Optional" "value" "Ljava/lang/Object;" u ∧ u = own_of (some cs) r0 r1) ({ frames := 3, cells := 2, slots := 3, locals := 38 } : Room).cells ({ frames := 3, cells := 2, slots := 3, locals := 38 } : Room).slots)
  refine OGo.step (fun _ kk => XS.istoreN X303.here hx rfl (hb hby own_d_prog_10_method_5_code_8) rfl (l' := #[.val (.ref x), .val (.ref vb), .val (.int (2 : Int32)), .val (.int (0 : Int32)), .unset]) rfl kk) ?_
  show OGo p e below (T303.setTop (mkF m 9 #[.val (.ref x), .val (.ref vb), .val (.int (2 : Int32)), .val (.int (0 : Int32)), .unset] [])) (OEnd s (fun v h L => ∃ (b : Addr) (u : Value), v = some (.ref b) ∧ Fr n0 L ∧ Ext h0 h ∧ Exa Z h b "java/util/Optional" ∧ Fld Z h b "java/util/Optional" "value" "Ljava/lang/Object;" u ∧ u = own_of (some cs) r0 r1) ({ frames := 3, cells := 2, slots := 3, locals := 38 } : Room).cells ({ frames := 3, cells := 2, slots := 3, locals := 38 } : Room).slots)
  refine OGo.step (fun _ kk => XS.iloadN X303.here hx rfl (hb hby own_d_prog_10_method_5_code_9) rfl kk) ?_
  show OGo p e below (T303.setTop (mkF m 10 #[.val (.ref x), .val (.ref vb), .val (.int (2 : Int32)), .val (.int (0 : Int32)), .unset] [(.int (0 : Int32))])) (OEnd s (fun v h L => ∃ (b : Addr) (u : Value), v = some (.ref b) ∧ Fr n0 L ∧ Ext h0 h ∧ Exa Z h b "java/util/Optional" ∧ Fld Z h b "java/util/Optional" "value" "Ljava/lang/Object;" u ∧ u = own_of (some cs) r0 r1) ({ frames := 3, cells := 2, slots := 3, locals := 38 } : Room).cells ({ frames := 3, cells := 2, slots := 3, locals := 38 } : Room).slots)
  refine OGo.step (fun _ kk => XS.iloadN X303.here hx rfl (hb hby own_d_prog_10_method_5_code_10) rfl kk) ?_
  show OGo p e below (T303.setTop (mkF m 11 #[.val (.ref x), .val (.ref vb), .val (.int (2 : Int32)), .val (.int (0 : Int32)), .unset] [(.int (2 : Int32)), (.int (0 : Int32))])) (OEnd s (fun v h L => ∃ (b : Addr) (u : Value), v = some (.ref b) ∧ Fr n0 L ∧ Ext h0 h ∧ Exa Z h b "java/util/Optional" ∧ Fld Z h b "java/util/Optional" "value" "Ljava/lang/Object;" u ∧ u = own_of (some cs) r0 r1) ({ frames := 3, cells := 2, slots := 3, locals := 38 } : Room).cells ({ frames := 3, cells := 2, slots := 3, locals := 38 } : Room).slots)
  refine OGo.step (fun _ kk => XS.icmpNo X303.here hx rfl (hb hby own_d_prog_10_method_5_code_11) rfl (tlt (by decide)).2.1 kk) ?_
  show OGo p e below (T303.setTop (mkF m 14 #[.val (.ref x), .val (.ref vb), .val (.int (2 : Int32)), .val (.int (0 : Int32)), .unset] [])) (OEnd s (fun v h L => ∃ (b : Addr) (u : Value), v = some (.ref b) ∧ Fr n0 L ∧ Ext h0 h ∧ Exa Z h b "java/util/Optional" ∧ Fld Z h b "java/util/Optional" "value" "Ljava/lang/Object;" u ∧ u = own_of (some cs) r0 r1) ({ frames := 3, cells := 2, slots := 3, locals := 38 } : Room).cells ({ frames := 3, cells := 2, slots := 3, locals := 38 } : Room).slots)
  refine OGo.step (fun _ kk => XS.aloadN X303.here hx rfl (hb hby own_d_prog_10_method_5_code_14) rfl rfl kk) ?_
  show OGo p e below (T303.setTop (mkF m 15 #[.val (.ref x), .val (.ref vb), .val (.int (2 : Int32)), .val (.int (0 : Int32)), .unset] [(.ref vb)])) (OEnd s (fun v h L => ∃ (b : Addr) (u : Value), v = some (.ref b) ∧ Fr n0 L ∧ Ext h0 h ∧ Exa Z h b "java/util/Optional" ∧ Fld Z h b "java/util/Optional" "value" "Ljava/lang/Object;" u ∧ u = own_of (some cs) r0 r1) ({ frames := 3, cells := 2, slots := 3, locals := 38 } : Room).cells ({ frames := 3, cells := 2, slots := 3, locals := 38 } : Room).slots)
  refine OGo.step (fun _ kk => XS.iloadN X303.here hx rfl (hb hby own_d_prog_10_method_5_code_15) rfl kk) ?_
  show OGo p e below (T303.setTop (mkF m 16 #[.val (.ref x), .val (.ref vb), .val (.int (2 : Int32)), .val (.int (0 : Int32)), .unset] [(.int (0 : Int32)), (.ref vb)])) (OEnd s (fun v h L => ∃ (b : Addr) (u : Value), v = some (.ref b) ∧ Fr n0 L ∧ Ext h0 h ∧ Exa Z h b "java/util/Optional" ∧ Fld Z h b "java/util/Optional" "value" "Ljava/lang/Object;" u ∧ u = own_of (some cs) r0 r1) ({ frames := 3, cells := 2, slots := 3, locals := 38 } : Room).cells ({ frames := 3, cells := 2, slots := 3, locals := 38 } : Room).slots)
  refine OGo.step (fun _ kk => X303.aaload hx (j := (0 : Int32)) (v := (.ref r0)) (AB).1 (State.isArrayOf_alike hZ.alike (AB).2.1) rfl (AB).2.2 (inb_of (z := 2) VS ⟨by decide, by decide⟩) V0 (g := (mkF m 16 #[.val (.ref x), .val (.ref vb), .val (.int (2 : Int32)), .val (.int (0 : Int32)), .unset] [(.int (0 : Int32)), (.ref vb)])) rfl rfl (hb hby own_d_prog_10_method_5_code_16) _ kk) ?_
  show OGo p e below (T303.setTop (mkF m 17 #[.val (.ref x), .val (.ref vb), .val (.int (2 : Int32)), .val (.int (0 : Int32)), .unset] [(.ref r0)])) (OEnd s (fun v h L => ∃ (b : Addr) (u : Value), v = some (.ref b) ∧ Fr n0 L ∧ Ext h0 h ∧ Exa Z h b "java/util/Optional" ∧ Fld Z h b "java/util/Optional" "value" "Ljava/lang/Object;" u ∧ u = own_of (some cs) r0 r1) ({ frames := 3, cells := 2, slots := 3, locals := 38 } : Room).cells ({ frames := 3, cells := 2, slots := 3, locals := 38 } : Room).slots)
  refine OGo.step (fun _ kk => XS.astore X303.here hx rfl (hb hby own_d_prog_10_method_5_code_17) rfl rfl (l' := #[.val (.ref x), .val (.ref vb), .val (.int (2 : Int32)), .val (.int (0 : Int32)), .val (.ref r0)]) rfl kk) ?_
  show OGo p e below (T303.setTop (mkF m 19 #[.val (.ref x), .val (.ref vb), .val (.int (2 : Int32)), .val (.int (0 : Int32)), .val (.ref r0)] [])) (OEnd s (fun v h L => ∃ (b : Addr) (u : Value), v = some (.ref b) ∧ Fr n0 L ∧ Ext h0 h ∧ Exa Z h b "java/util/Optional" ∧ Fld Z h b "java/util/Optional" "value" "Ljava/lang/Object;" u ∧ u = own_of (some cs) r0 r1) ({ frames := 3, cells := 2, slots := 3, locals := 38 } : Room).cells ({ frames := 3, cells := 2, slots := 3, locals := 38 } : Room).slots)
  refine OGo.step (fun _ kk => XS.aload X303.here hx rfl (hb hby own_d_prog_10_method_5_code_19) rfl rfl kk) ?_
  show OGo p e below (T303.setTop (mkF m 21 #[.val (.ref x), .val (.ref vb), .val (.int (2 : Int32)), .val (.int (0 : Int32)), .val (.ref r0)] [(.ref r0)])) (OEnd s (fun v h L => ∃ (b : Addr) (u : Value), v = some (.ref b) ∧ Fr n0 L ∧ Ext h0 h ∧ Exa Z h b "java/util/Optional" ∧ Fld Z h b "java/util/Optional" "value" "Ljava/lang/Object;" u ∧ u = own_of (some cs) r0 r1) ({ frames := 3, cells := 2, slots := 3, locals := 38 } : Room).cells ({ frames := 3, cells := 2, slots := 3, locals := 38 } : Room).slots)
  have fx304 := Ft0.ext Xe303
  obtain ⟨T305, X305, e305, st305⟩ := getF X303 hx hZ hown (host := "") (Or.inl (hw _ (List.mem_of_getElem? (i := 75) rfl))) Via.refl rfl fx304 (g := (mkF m 21 #[.val (.ref x), .val (.ref vb), .val (.int (2 : Int32)), .val (.int (0 : Int32)), .val (.ref r0)] [(.ref r0)])) rfl rfl (hb hby own_d_prog_10_method_5_code_21)
  refine OGo.step st305 ?_
  show OGo p e below (T305.setTop (mkF m 24 #[.val (.ref x), .val (.ref vb), .val (.int (2 : Int32)), .val (.int (0 : Int32)), .val (.ref r0)] [(.ref t0)])) (OEnd s (fun v h L => ∃ (b : Addr) (u : Value), v = some (.ref b) ∧ Fr n0 L ∧ Ext h0 h ∧ Exa Z h b "java/util/Optional" ∧ Fld Z h b "java/util/Optional" "value" "Ljava/lang/Object;" u ∧ u = own_of (some cs) r0 r1) ({ frames := 3, cells := 2, slots := 3, locals := 38 } : Room).cells ({ frames := 3, cells := 2, slots := 3, locals := 38 } : Room).slots)
  refine OGo.step (fun _ kk => XS.aloadN X305.here hx rfl (hb hby own_d_prog_10_method_5_code_24) rfl rfl kk) ?_
  show OGo p e below (T305.setTop (mkF m 25 #[.val (.ref x), .val (.ref vb), .val (.int (2 : Int32)), .val (.int (0 : Int32)), .val (.ref r0)] [(.ref x), (.ref t0)])) (OEnd s (fun v h L => ∃ (b : Addr) (u : Value), v = some (.ref b) ∧ Fr n0 L ∧ Ext h0 h ∧ Exa Z h b "java/util/Optional" ∧ Fld Z h b "java/util/Optional" "value" "Ljava/lang/Object;" u ∧ u = own_of (some cs) r0 r1) ({ frames := 3, cells := 2, slots := 3, locals := 38 } : Room).cells ({ frames := 3, cells := 2, slots := 3, locals := 38 } : Room).slots)
  have fx306 := O0.ext Xe303
  have fx307 := G.ext Xe303
  have fx308 := SC.ext Xe303
  refine own_virtualK X305 hx hZ (y := (⟨"java/lang/String", "equals", "(Ljava/lang/Object;)Z"⟩ : MethodName)) (z := (⟨"java/lang/String", "equals", "(Ljava/lang/Object;)Z"⟩ : MethodName)) hown (hw _ (List.mem_of_getElem? (i := 77) rfl)) (hw _ (List.mem_of_getElem? (i := 78) rfl)) (notFace_of_selects (args := #[]) (mvT hZ (hw _ (List.mem_of_getElem? (i := 80) rfl)))) (hw _ (List.mem_of_getElem? (i := 80) rfl)) (hw _ (List.mem_of_getElem? (i := 79) rfl)) (by decide) (b := t0) fx306.exa (W := 0) (own_seq (W := 0) hZ (fun d hd => hw d ((by decide +kernel : ∀ d ∈ StrChars.Road.wordsEq, d ∈ tables_1) d hd)) (kI := 4) (hw _ (List.mem_of_getElem? (i := 7) rfl)) fx306 fx307 fx308 hzc n0 (by decide) (by decide)) e305 (pc := 25) (Ls := #[.val (.ref x), .val (.ref vb), .val (.int (2 : Int32)), .val (.int (0 : Int32)), .val (.ref r0)]) (argsL := [(.ref x)]) (rest := []) (by rw [hml]; rfl) (lenOf own_pd4 rfl) rfl (hb hby own_d_prog_10_method_5_code_25) (by decide) (by decide) ?_
  intro v309 T309 L309 X309 hQ309
  obtain ⟨rfl, N309, e309⟩ := hQ309
  show OGo p e below (T309.setTop (mkF m 28 #[.val (.ref x), .val (.ref vb), .val (.int (2 : Int32)), .val (.int (0 : Int32)), .val (.ref r0)] [(.int (if ([97, 108, 108, 111, 119] : List Int32) = cs then (1 : Int32) else 0))])) (OEnd s (fun v h L => ∃ (b : Addr) (u : Value), v = some (.ref b) ∧ Fr n0 L ∧ Ext h0 h ∧ Exa Z h b "java/util/Optional" ∧ Fld Z h b "java/util/Optional" "value" "Ljava/lang/Object;" u ∧ u = own_of (some cs) r0 r1) ({ frames := 3, cells := 2, slots := 3, locals := 38 } : Room).cells ({ frames := 3, cells := 2, slots := 3, locals := 38 } : Room).slots)
  have Nc309 := Fr.app Nc303 N309
  by_cases hr0 : (if ([97, 108, 108, 111, 119] : List Int32) = cs then (1 : Int32) else 0) = (0 : Int32)
  · refine OGo.step (fun _ kk => XS.ifYes X309.here hx rfl (pc0 := 28) (pc' := 37) rfl (hb hby own_d_prog_10_method_5_code_28) rfl ((if0 _ _).trans (teq hr0).1) (by decide) (by decide) kk) ?_
    show OGo p e below (T309.setTop (mkF m 37 #[.val (.ref x), .val (.ref vb), .val (.int (2 : Int32)), .val (.int (0 : Int32)), .val (.ref r0)] [])) (OEnd s (fun v h L => ∃ (b : Addr) (u : Value), v = some (.ref b) ∧ Fr n0 L ∧ Ext h0 h ∧ Exa Z h b "java/util/Optional" ∧ Fld Z h b "java/util/Optional" "value" "Ljava/lang/Object;" u ∧ u = own_of (some cs) r0 r1) ({ frames := 3, cells := 2, slots := 3, locals := 38 } : Room).cells ({ frames := 3, cells := 2, slots := 3, locals := 38 } : Room).slots)
    refine OGo.step (fun _ kk => XS.iinc X309.here hx rfl (hb hby own_d_prog_10_method_5_code_37) rfl (l' := #[.val (.ref x), .val (.ref vb), .val (.int (2 : Int32)), .val (.int ((0 : Int32) + (1 : Int32))), .val (.ref r0)]) rfl kk) ?_
    show OGo p e below (T309.setTop (mkF m 40 #[.val (.ref x), .val (.ref vb), .val (.int (2 : Int32)), .val (.int ((0 : Int32) + (1 : Int32))), .val (.ref r0)] [])) (OEnd s (fun v h L => ∃ (b : Addr) (u : Value), v = some (.ref b) ∧ Fr n0 L ∧ Ext h0 h ∧ Exa Z h b "java/util/Optional" ∧ Fld Z h b "java/util/Optional" "value" "Ljava/lang/Object;" u ∧ u = own_of (some cs) r0 r1) ({ frames := 3, cells := 2, slots := 3, locals := 38 } : Room).cells ({ frames := 3, cells := 2, slots := 3, locals := 38 } : Room).slots)
    refine OGo.step (fun _ kk => XS.goto X309.here hx rfl (pc0 := 40) (pc' := 9) rfl (hb hby own_d_prog_10_method_5_code_40) (by decide) (by decide) kk) ?_
    show OGo p e below (T309.setTop (mkF m 9 #[.val (.ref x), .val (.ref vb), .val (.int (2 : Int32)), .val (.int ((0 : Int32) + (1 : Int32))), .val (.ref r0)] [])) (OEnd s (fun v h L => ∃ (b : Addr) (u : Value), v = some (.ref b) ∧ Fr n0 L ∧ Ext h0 h ∧ Exa Z h b "java/util/Optional" ∧ Fld Z h b "java/util/Optional" "value" "Ljava/lang/Object;" u ∧ u = own_of (some cs) r0 r1) ({ frames := 3, cells := 2, slots := 3, locals := 38 } : Room).cells ({ frames := 3, cells := 2, slots := 3, locals := 38 } : Room).slots)
    show OGo p e below (T309.setTop (mkF m 9 #[.val (.ref x), .val (.ref vb), .val (.int (2 : Int32)), .val (.int (1 : Int32)), .val (.ref r0)] [])) (OEnd s (fun v h L => ∃ (b : Addr) (u : Value), v = some (.ref b) ∧ Fr n0 L ∧ Ext h0 h ∧ Exa Z h b "java/util/Optional" ∧ Fld Z h b "java/util/Optional" "value" "Ljava/lang/Object;" u ∧ u = own_of (some cs) r0 r1) ({ frames := 3, cells := 2, slots := 3, locals := 38 } : Room).cells ({ frames := 3, cells := 2, slots := 3, locals := 38 } : Room).slots)
    refine OGo.step (fun _ kk => XS.iloadN X309.here hx rfl (hb hby own_d_prog_10_method_5_code_9) rfl kk) ?_
    show OGo p e below (T309.setTop (mkF m 10 #[.val (.ref x), .val (.ref vb), .val (.int (2 : Int32)), .val (.int (1 : Int32)), .val (.ref r0)] [(.int (1 : Int32))])) (OEnd s (fun v h L => ∃ (b : Addr) (u : Value), v = some (.ref b) ∧ Fr n0 L ∧ Ext h0 h ∧ Exa Z h b "java/util/Optional" ∧ Fld Z h b "java/util/Optional" "value" "Ljava/lang/Object;" u ∧ u = own_of (some cs) r0 r1) ({ frames := 3, cells := 2, slots := 3, locals := 38 } : Room).cells ({ frames := 3, cells := 2, slots := 3, locals := 38 } : Room).slots)
    refine OGo.step (fun _ kk => XS.iloadN X309.here hx rfl (hb hby own_d_prog_10_method_5_code_10) rfl kk) ?_
    show OGo p e below (T309.setTop (mkF m 11 #[.val (.ref x), .val (.ref vb), .val (.int (2 : Int32)), .val (.int (1 : Int32)), .val (.ref r0)] [(.int (2 : Int32)), (.int (1 : Int32))])) (OEnd s (fun v h L => ∃ (b : Addr) (u : Value), v = some (.ref b) ∧ Fr n0 L ∧ Ext h0 h ∧ Exa Z h b "java/util/Optional" ∧ Fld Z h b "java/util/Optional" "value" "Ljava/lang/Object;" u ∧ u = own_of (some cs) r0 r1) ({ frames := 3, cells := 2, slots := 3, locals := 38 } : Room).cells ({ frames := 3, cells := 2, slots := 3, locals := 38 } : Room).slots)
    refine OGo.step (fun _ kk => XS.icmpNo X309.here hx rfl (hb hby own_d_prog_10_method_5_code_11) rfl (tlt (by decide)).2.1 kk) ?_
    show OGo p e below (T309.setTop (mkF m 14 #[.val (.ref x), .val (.ref vb), .val (.int (2 : Int32)), .val (.int (1 : Int32)), .val (.ref r0)] [])) (OEnd s (fun v h L => ∃ (b : Addr) (u : Value), v = some (.ref b) ∧ Fr n0 L ∧ Ext h0 h ∧ Exa Z h b "java/util/Optional" ∧ Fld Z h b "java/util/Optional" "value" "Ljava/lang/Object;" u ∧ u = own_of (some cs) r0 r1) ({ frames := 3, cells := 2, slots := 3, locals := 38 } : Room).cells ({ frames := 3, cells := 2, slots := 3, locals := 38 } : Room).slots)
    refine OGo.step (fun _ kk => XS.aloadN X309.here hx rfl (hb hby own_d_prog_10_method_5_code_14) rfl rfl kk) ?_
    show OGo p e below (T309.setTop (mkF m 15 #[.val (.ref x), .val (.ref vb), .val (.int (2 : Int32)), .val (.int (1 : Int32)), .val (.ref r0)] [(.ref vb)])) (OEnd s (fun v h L => ∃ (b : Addr) (u : Value), v = some (.ref b) ∧ Fr n0 L ∧ Ext h0 h ∧ Exa Z h b "java/util/Optional" ∧ Fld Z h b "java/util/Optional" "value" "Ljava/lang/Object;" u ∧ u = own_of (some cs) r0 r1) ({ frames := 3, cells := 2, slots := 3, locals := 38 } : Room).cells ({ frames := 3, cells := 2, slots := 3, locals := 38 } : Room).slots)
    refine OGo.step (fun _ kk => XS.iloadN X309.here hx rfl (hb hby own_d_prog_10_method_5_code_15) rfl kk) ?_
    show OGo p e below (T309.setTop (mkF m 16 #[.val (.ref x), .val (.ref vb), .val (.int (2 : Int32)), .val (.int (1 : Int32)), .val (.ref r0)] [(.int (1 : Int32)), (.ref vb)])) (OEnd s (fun v h L => ∃ (b : Addr) (u : Value), v = some (.ref b) ∧ Fr n0 L ∧ Ext h0 h ∧ Exa Z h b "java/util/Optional" ∧ Fld Z h b "java/util/Optional" "value" "Ljava/lang/Object;" u ∧ u = own_of (some cs) r0 r1) ({ frames := 3, cells := 2, slots := 3, locals := 38 } : Room).cells ({ frames := 3, cells := 2, slots := 3, locals := 38 } : Room).slots)
    refine OGo.step (fun _ kk => X309.aaload hx (j := (1 : Int32)) (v := (.ref r1)) (by rw [e309]; exact (AB).1) (State.isArrayOf_alike hZ.alike (AB).2.1) rfl (AB).2.2 (inb_of (z := 2) VS ⟨by decide, by decide⟩) V1 (g := (mkF m 16 #[.val (.ref x), .val (.ref vb), .val (.int (2 : Int32)), .val (.int (1 : Int32)), .val (.ref r0)] [(.int (1 : Int32)), (.ref vb)])) rfl rfl (hb hby own_d_prog_10_method_5_code_16) _ kk) ?_
    show OGo p e below (T309.setTop (mkF m 17 #[.val (.ref x), .val (.ref vb), .val (.int (2 : Int32)), .val (.int (1 : Int32)), .val (.ref r0)] [(.ref r1)])) (OEnd s (fun v h L => ∃ (b : Addr) (u : Value), v = some (.ref b) ∧ Fr n0 L ∧ Ext h0 h ∧ Exa Z h b "java/util/Optional" ∧ Fld Z h b "java/util/Optional" "value" "Ljava/lang/Object;" u ∧ u = own_of (some cs) r0 r1) ({ frames := 3, cells := 2, slots := 3, locals := 38 } : Room).cells ({ frames := 3, cells := 2, slots := 3, locals := 38 } : Room).slots)
    refine OGo.step (fun _ kk => XS.astore X309.here hx rfl (hb hby own_d_prog_10_method_5_code_17) rfl rfl (l' := #[.val (.ref x), .val (.ref vb), .val (.int (2 : Int32)), .val (.int (1 : Int32)), .val (.ref r1)]) rfl kk) ?_
    show OGo p e below (T309.setTop (mkF m 19 #[.val (.ref x), .val (.ref vb), .val (.int (2 : Int32)), .val (.int (1 : Int32)), .val (.ref r1)] [])) (OEnd s (fun v h L => ∃ (b : Addr) (u : Value), v = some (.ref b) ∧ Fr n0 L ∧ Ext h0 h ∧ Exa Z h b "java/util/Optional" ∧ Fld Z h b "java/util/Optional" "value" "Ljava/lang/Object;" u ∧ u = own_of (some cs) r0 r1) ({ frames := 3, cells := 2, slots := 3, locals := 38 } : Room).cells ({ frames := 3, cells := 2, slots := 3, locals := 38 } : Room).slots)
    refine OGo.step (fun _ kk => XS.aload X309.here hx rfl (hb hby own_d_prog_10_method_5_code_19) rfl rfl kk) ?_
    show OGo p e below (T309.setTop (mkF m 21 #[.val (.ref x), .val (.ref vb), .val (.int (2 : Int32)), .val (.int (1 : Int32)), .val (.ref r1)] [(.ref r1)])) (OEnd s (fun v h L => ∃ (b : Addr) (u : Value), v = some (.ref b) ∧ Fr n0 L ∧ Ext h0 h ∧ Exa Z h b "java/util/Optional" ∧ Fld Z h b "java/util/Optional" "value" "Ljava/lang/Object;" u ∧ u = own_of (some cs) r0 r1) ({ frames := 3, cells := 2, slots := 3, locals := 38 } : Room).cells ({ frames := 3, cells := 2, slots := 3, locals := 38 } : Room).slots)
    have fx310 := Ft1.ext Xe303
    obtain ⟨T311, X311, e311, st311⟩ := getF X309 hx hZ hown (host := "") (Or.inl (hw _ (List.mem_of_getElem? (i := 75) rfl))) Via.refl e309 fx310 (g := (mkF m 21 #[.val (.ref x), .val (.ref vb), .val (.int (2 : Int32)), .val (.int (1 : Int32)), .val (.ref r1)] [(.ref r1)])) rfl rfl (hb hby own_d_prog_10_method_5_code_21)
    refine OGo.step st311 ?_
    show OGo p e below (T311.setTop (mkF m 24 #[.val (.ref x), .val (.ref vb), .val (.int (2 : Int32)), .val (.int (1 : Int32)), .val (.ref r1)] [(.ref t1)])) (OEnd s (fun v h L => ∃ (b : Addr) (u : Value), v = some (.ref b) ∧ Fr n0 L ∧ Ext h0 h ∧ Exa Z h b "java/util/Optional" ∧ Fld Z h b "java/util/Optional" "value" "Ljava/lang/Object;" u ∧ u = own_of (some cs) r0 r1) ({ frames := 3, cells := 2, slots := 3, locals := 38 } : Room).cells ({ frames := 3, cells := 2, slots := 3, locals := 38 } : Room).slots)
    refine OGo.step (fun _ kk => XS.aloadN X311.here hx rfl (hb hby own_d_prog_10_method_5_code_24) rfl rfl kk) ?_
    show OGo p e below (T311.setTop (mkF m 25 #[.val (.ref x), .val (.ref vb), .val (.int (2 : Int32)), .val (.int (1 : Int32)), .val (.ref r1)] [(.ref x), (.ref t1)])) (OEnd s (fun v h L => ∃ (b : Addr) (u : Value), v = some (.ref b) ∧ Fr n0 L ∧ Ext h0 h ∧ Exa Z h b "java/util/Optional" ∧ Fld Z h b "java/util/Optional" "value" "Ljava/lang/Object;" u ∧ u = own_of (some cs) r0 r1) ({ frames := 3, cells := 2, slots := 3, locals := 38 } : Room).cells ({ frames := 3, cells := 2, slots := 3, locals := 38 } : Room).slots)
    have fx312 := O1.ext Xe303
    refine own_virtualK X311 hx hZ (y := (⟨"java/lang/String", "equals", "(Ljava/lang/Object;)Z"⟩ : MethodName)) (z := (⟨"java/lang/String", "equals", "(Ljava/lang/Object;)Z"⟩ : MethodName)) hown (hw _ (List.mem_of_getElem? (i := 77) rfl)) (hw _ (List.mem_of_getElem? (i := 78) rfl)) (notFace_of_selects (args := #[]) (mvT hZ (hw _ (List.mem_of_getElem? (i := 80) rfl)))) (hw _ (List.mem_of_getElem? (i := 80) rfl)) (hw _ (List.mem_of_getElem? (i := 79) rfl)) (by decide) (b := t1) fx312.exa (W := 0) (own_seq (W := 0) hZ (fun d hd => hw d ((by decide +kernel : ∀ d ∈ StrChars.Road.wordsEq, d ∈ tables_1) d hd)) (kI := 4) (hw _ (List.mem_of_getElem? (i := 7) rfl)) fx312 fx307 fx308 hzc n0 (by decide) (by decide)) e311 (pc := 25) (Ls := #[.val (.ref x), .val (.ref vb), .val (.int (2 : Int32)), .val (.int (1 : Int32)), .val (.ref r1)]) (argsL := [(.ref x)]) (rest := []) (by rw [hml]; rfl) (lenOf own_pd4 rfl) rfl (hb hby own_d_prog_10_method_5_code_25) (by decide) (by decide) ?_
    intro v313 T313 L313 X313 hQ313
    obtain ⟨rfl, N313, e313⟩ := hQ313
    show OGo p e below (T313.setTop (mkF m 28 #[.val (.ref x), .val (.ref vb), .val (.int (2 : Int32)), .val (.int (1 : Int32)), .val (.ref r1)] [(.int (if ([100, 101, 110, 121] : List Int32) = cs then (1 : Int32) else 0))])) (OEnd s (fun v h L => ∃ (b : Addr) (u : Value), v = some (.ref b) ∧ Fr n0 L ∧ Ext h0 h ∧ Exa Z h b "java/util/Optional" ∧ Fld Z h b "java/util/Optional" "value" "Ljava/lang/Object;" u ∧ u = own_of (some cs) r0 r1) ({ frames := 3, cells := 2, slots := 3, locals := 38 } : Room).cells ({ frames := 3, cells := 2, slots := 3, locals := 38 } : Room).slots)
    have Nc313 := Fr.app Nc309 N313
    by_cases hr1 : (if ([100, 101, 110, 121] : List Int32) = cs then (1 : Int32) else 0) = (0 : Int32)
    · refine OGo.step (fun _ kk => XS.ifYes X313.here hx rfl (pc0 := 28) (pc' := 37) rfl (hb hby own_d_prog_10_method_5_code_28) rfl ((if0 _ _).trans (teq hr1).1) (by decide) (by decide) kk) ?_
      show OGo p e below (T313.setTop (mkF m 37 #[.val (.ref x), .val (.ref vb), .val (.int (2 : Int32)), .val (.int (1 : Int32)), .val (.ref r1)] [])) (OEnd s (fun v h L => ∃ (b : Addr) (u : Value), v = some (.ref b) ∧ Fr n0 L ∧ Ext h0 h ∧ Exa Z h b "java/util/Optional" ∧ Fld Z h b "java/util/Optional" "value" "Ljava/lang/Object;" u ∧ u = own_of (some cs) r0 r1) ({ frames := 3, cells := 2, slots := 3, locals := 38 } : Room).cells ({ frames := 3, cells := 2, slots := 3, locals := 38 } : Room).slots)
      refine OGo.step (fun _ kk => XS.iinc X313.here hx rfl (hb hby own_d_prog_10_method_5_code_37) rfl (l' := #[.val (.ref x), .val (.ref vb), .val (.int (2 : Int32)), .val (.int ((1 : Int32) + (1 : Int32))), .val (.ref r1)]) rfl kk) ?_
      show OGo p e below (T313.setTop (mkF m 40 #[.val (.ref x), .val (.ref vb), .val (.int (2 : Int32)), .val (.int ((1 : Int32) + (1 : Int32))), .val (.ref r1)] [])) (OEnd s (fun v h L => ∃ (b : Addr) (u : Value), v = some (.ref b) ∧ Fr n0 L ∧ Ext h0 h ∧ Exa Z h b "java/util/Optional" ∧ Fld Z h b "java/util/Optional" "value" "Ljava/lang/Object;" u ∧ u = own_of (some cs) r0 r1) ({ frames := 3, cells := 2, slots := 3, locals := 38 } : Room).cells ({ frames := 3, cells := 2, slots := 3, locals := 38 } : Room).slots)
      refine OGo.step (fun _ kk => XS.goto X313.here hx rfl (pc0 := 40) (pc' := 9) rfl (hb hby own_d_prog_10_method_5_code_40) (by decide) (by decide) kk) ?_
      show OGo p e below (T313.setTop (mkF m 9 #[.val (.ref x), .val (.ref vb), .val (.int (2 : Int32)), .val (.int ((1 : Int32) + (1 : Int32))), .val (.ref r1)] [])) (OEnd s (fun v h L => ∃ (b : Addr) (u : Value), v = some (.ref b) ∧ Fr n0 L ∧ Ext h0 h ∧ Exa Z h b "java/util/Optional" ∧ Fld Z h b "java/util/Optional" "value" "Ljava/lang/Object;" u ∧ u = own_of (some cs) r0 r1) ({ frames := 3, cells := 2, slots := 3, locals := 38 } : Room).cells ({ frames := 3, cells := 2, slots := 3, locals := 38 } : Room).slots)
      show OGo p e below (T313.setTop (mkF m 9 #[.val (.ref x), .val (.ref vb), .val (.int (2 : Int32)), .val (.int (2 : Int32)), .val (.ref r1)] [])) (OEnd s (fun v h L => ∃ (b : Addr) (u : Value), v = some (.ref b) ∧ Fr n0 L ∧ Ext h0 h ∧ Exa Z h b "java/util/Optional" ∧ Fld Z h b "java/util/Optional" "value" "Ljava/lang/Object;" u ∧ u = own_of (some cs) r0 r1) ({ frames := 3, cells := 2, slots := 3, locals := 38 } : Room).cells ({ frames := 3, cells := 2, slots := 3, locals := 38 } : Room).slots)
      refine OGo.step (fun _ kk => XS.iloadN X313.here hx rfl (hb hby own_d_prog_10_method_5_code_9) rfl kk) ?_
      show OGo p e below (T313.setTop (mkF m 10 #[.val (.ref x), .val (.ref vb), .val (.int (2 : Int32)), .val (.int (2 : Int32)), .val (.ref r1)] [(.int (2 : Int32))])) (OEnd s (fun v h L => ∃ (b : Addr) (u : Value), v = some (.ref b) ∧ Fr n0 L ∧ Ext h0 h ∧ Exa Z h b "java/util/Optional" ∧ Fld Z h b "java/util/Optional" "value" "Ljava/lang/Object;" u ∧ u = own_of (some cs) r0 r1) ({ frames := 3, cells := 2, slots := 3, locals := 38 } : Room).cells ({ frames := 3, cells := 2, slots := 3, locals := 38 } : Room).slots)
      refine OGo.step (fun _ kk => XS.iloadN X313.here hx rfl (hb hby own_d_prog_10_method_5_code_10) rfl kk) ?_
      show OGo p e below (T313.setTop (mkF m 11 #[.val (.ref x), .val (.ref vb), .val (.int (2 : Int32)), .val (.int (2 : Int32)), .val (.ref r1)] [(.int (2 : Int32)), (.int (2 : Int32))])) (OEnd s (fun v h L => ∃ (b : Addr) (u : Value), v = some (.ref b) ∧ Fr n0 L ∧ Ext h0 h ∧ Exa Z h b "java/util/Optional" ∧ Fld Z h b "java/util/Optional" "value" "Ljava/lang/Object;" u ∧ u = own_of (some cs) r0 r1) ({ frames := 3, cells := 2, slots := 3, locals := 38 } : Room).cells ({ frames := 3, cells := 2, slots := 3, locals := 38 } : Room).slots)
      refine OGo.step (fun _ kk => XS.icmpYes X313.here hx rfl (pc0 := 11) (pc' := 43) rfl (hb hby own_d_prog_10_method_5_code_11) rfl (flt (by decide)).2.1 (by decide) (by decide) kk) ?_
      show OGo p e below (T313.setTop (mkF m 43 #[.val (.ref x), .val (.ref vb), .val (.int (2 : Int32)), .val (.int (2 : Int32)), .val (.ref r1)] [])) (OEnd s (fun v h L => ∃ (b : Addr) (u : Value), v = some (.ref b) ∧ Fr n0 L ∧ Ext h0 h ∧ Exa Z h b "java/util/Optional" ∧ Fld Z h b "java/util/Optional" "value" "Ljava/lang/Object;" u ∧ u = own_of (some cs) r0 r1) ({ frames := 3, cells := 2, slots := 3, locals := 38 } : Room).cells ({ frames := 3, cells := 2, slots := 3, locals := 38 } : Room).slots)
      have fx314 := SE.ext Xe303
      refine own_callS X313 hx hZ (y := (⟨"java/util/Optional", "empty", "()Ljava/util/Optional;"⟩ : MethodName)) hown (hw _ (List.mem_of_getElem? (i := 86) rfl)) (hw _ (List.mem_of_getElem? (i := 87) rfl)) (hw _ (List.mem_of_getElem? (i := 88) rfl)) (hw _ (List.mem_of_getElem? (i := 89) rfl)) (by decide) (W := 0) (own_opempty l Z a0 hw [] eo T303.heap n0 sz303 fx314) e313  (pc := 43) (Ls := #[.val (.ref x), .val (.ref vb), .val (.int (2 : Int32)), .val (.int (2 : Int32)), .val (.ref r1)]) (argsL := []) (rest := []) (by rw [hml]; rfl) (lenOf own_pd5 rfl) rfl (hb hby own_d_prog_10_method_5_code_43) (by decide) (by decide) (by decide) (by decide) ?_
      intro v315 T315 L315 X315 hQ315
      obtain ⟨rfl, N315, e315⟩ := hQ315
      show OGo p e below (T315.setTop (mkF m 46 #[.val (.ref x), .val (.ref vb), .val (.int (2 : Int32)), .val (.int (2 : Int32)), .val (.ref r1)] [(.ref eo)])) (OEnd s (fun v h L => ∃ (b : Addr) (u : Value), v = some (.ref b) ∧ Fr n0 L ∧ Ext h0 h ∧ Exa Z h b "java/util/Optional" ∧ Fld Z h b "java/util/Optional" "value" "Ljava/lang/Object;" u ∧ u = own_of (some cs) r0 r1) ({ frames := 3, cells := 2, slots := 3, locals := 38 } : Room).cells ({ frames := 3, cells := 2, slots := 3, locals := 38 } : Room).slots)
      have Nc315 := Fr.app Nc313 N315
      have fx316 := EO.ext Xe303
      have fx317 := FO.ext Xe303
      exact own_ret X315 hx hlk hret rfl (Or.inr (Or.inr (Or.inr (Or.inr ⟨rfl, rfl, rfl⟩)))) (hb hby own_d_prog_10_method_5_code_46) (by rw [e315]; exact ⟨eo, .null, rfl, Nc315, Xe303, fx316, fx317, by rw [own_of, if_neg (fun z => own_if0 hr0 (Option.some.inj z).symm), if_neg (fun z => own_if0 hr1 (Option.some.inj z).symm)]⟩) (by decide) (by decide)
    · refine OGo.step (fun _ kk => XS.ifNo X313.here hx rfl (hb hby own_d_prog_10_method_5_code_28) rfl ((if0 _ _).trans (feq hr1).1) kk) ?_
      show OGo p e below (T313.setTop (mkF m 31 #[.val (.ref x), .val (.ref vb), .val (.int (2 : Int32)), .val (.int (1 : Int32)), .val (.ref r1)] [])) (OEnd s (fun v h L => ∃ (b : Addr) (u : Value), v = some (.ref b) ∧ Fr n0 L ∧ Ext h0 h ∧ Exa Z h b "java/util/Optional" ∧ Fld Z h b "java/util/Optional" "value" "Ljava/lang/Object;" u ∧ u = own_of (some cs) r0 r1) ({ frames := 3, cells := 2, slots := 3, locals := 38 } : Room).cells ({ frames := 3, cells := 2, slots := 3, locals := 38 } : Room).slots)
      refine OGo.step (fun _ kk => XS.aload X313.here hx rfl (hb hby own_d_prog_10_method_5_code_31) rfl rfl kk) ?_
      show OGo p e below (T313.setTop (mkF m 33 #[.val (.ref x), .val (.ref vb), .val (.int (2 : Int32)), .val (.int (1 : Int32)), .val (.ref r1)] [(.ref r1)])) (OEnd s (fun v h L => ∃ (b : Addr) (u : Value), v = some (.ref b) ∧ Fr n0 L ∧ Ext h0 h ∧ Exa Z h b "java/util/Optional" ∧ Fld Z h b "java/util/Optional" "value" "Ljava/lang/Object;" u ∧ u = own_of (some cs) r0 r1) ({ frames := 3, cells := 2, slots := 3, locals := 38 } : Room).cells ({ frames := 3, cells := 2, slots := 3, locals := 38 } : Room).slots)
      refine own_callS X313 hx hZ (y := (⟨"java/util/Optional", "of", "(Ljava/lang/Object;)Ljava/util/Optional;"⟩ : MethodName)) hown (hw _ (List.mem_of_getElem? (i := 122) rfl)) (hw _ (List.mem_of_getElem? (i := 123) rfl)) (hw _ (List.mem_of_getElem? (i := 88) rfl)) (hw _ (List.mem_of_getElem? (i := 124) rfl)) (by decide) (W := 0) (own_opof l Z a0 hw [] r1 T303.heap n0 sz303) e313  (pc := 33) (Ls := #[.val (.ref x), .val (.ref vb), .val (.int (2 : Int32)), .val (.int (1 : Int32)), .val (.ref r1)]) (argsL := [(.ref r1)]) (rest := []) (by rw [hml]; rfl) (lenOf own_pd6 rfl) rfl (hb hby own_d_prog_10_method_5_code_33) (by decide) (by decide) (by decide) (by decide) ?_
      intro v318 T318 L318 X318 hQ318
      obtain ⟨b, rfl, N318, Xe318, Eb318, Gv318⟩ := hQ318
      show OGo p e below (T318.setTop (mkF m 36 #[.val (.ref x), .val (.ref vb), .val (.int (2 : Int32)), .val (.int (1 : Int32)), .val (.ref r1)] [(.ref b)])) (OEnd s (fun v h L => ∃ (b : Addr) (u : Value), v = some (.ref b) ∧ Fr n0 L ∧ Ext h0 h ∧ Exa Z h b "java/util/Optional" ∧ Fld Z h b "java/util/Optional" "value" "Ljava/lang/Object;" u ∧ u = own_of (some cs) r0 r1) ({ frames := 3, cells := 2, slots := 3, locals := 38 } : Room).cells ({ frames := 3, cells := 2, slots := 3, locals := 38 } : Room).slots)
      have Nc318 := Fr.app Nc313 N318
      have sz318 : n0 ≤ T318.heap.size := Nat.le_trans sz303 Xe318.1
      have xt319 := (own_ext_trans Xe303 Xe318)
      exact own_ret X318 hx hlk hret rfl (Or.inr (Or.inr (Or.inr (Or.inr ⟨rfl, rfl, rfl⟩)))) (hb hby own_d_prog_10_method_5_code_36) ⟨b, .ref r1, rfl, Nc318, xt319, Eb318, Gv318, by rw [own_of, if_neg (fun z => own_if0 hr0 (Option.some.inj z).symm), if_pos (congrArg some (own_if1 hr1).symm)]⟩ (by decide) (by decide)
  · refine OGo.step (fun _ kk => XS.ifNo X309.here hx rfl (hb hby own_d_prog_10_method_5_code_28) rfl ((if0 _ _).trans (feq hr0).1) kk) ?_
    show OGo p e below (T309.setTop (mkF m 31 #[.val (.ref x), .val (.ref vb), .val (.int (2 : Int32)), .val (.int (0 : Int32)), .val (.ref r0)] [])) (OEnd s (fun v h L => ∃ (b : Addr) (u : Value), v = some (.ref b) ∧ Fr n0 L ∧ Ext h0 h ∧ Exa Z h b "java/util/Optional" ∧ Fld Z h b "java/util/Optional" "value" "Ljava/lang/Object;" u ∧ u = own_of (some cs) r0 r1) ({ frames := 3, cells := 2, slots := 3, locals := 38 } : Room).cells ({ frames := 3, cells := 2, slots := 3, locals := 38 } : Room).slots)
    refine OGo.step (fun _ kk => XS.aload X309.here hx rfl (hb hby own_d_prog_10_method_5_code_31) rfl rfl kk) ?_
    show OGo p e below (T309.setTop (mkF m 33 #[.val (.ref x), .val (.ref vb), .val (.int (2 : Int32)), .val (.int (0 : Int32)), .val (.ref r0)] [(.ref r0)])) (OEnd s (fun v h L => ∃ (b : Addr) (u : Value), v = some (.ref b) ∧ Fr n0 L ∧ Ext h0 h ∧ Exa Z h b "java/util/Optional" ∧ Fld Z h b "java/util/Optional" "value" "Ljava/lang/Object;" u ∧ u = own_of (some cs) r0 r1) ({ frames := 3, cells := 2, slots := 3, locals := 38 } : Room).cells ({ frames := 3, cells := 2, slots := 3, locals := 38 } : Room).slots)
    refine own_callS X309 hx hZ (y := (⟨"java/util/Optional", "of", "(Ljava/lang/Object;)Ljava/util/Optional;"⟩ : MethodName)) hown (hw _ (List.mem_of_getElem? (i := 122) rfl)) (hw _ (List.mem_of_getElem? (i := 123) rfl)) (hw _ (List.mem_of_getElem? (i := 88) rfl)) (hw _ (List.mem_of_getElem? (i := 124) rfl)) (by decide) (W := 0) (own_opof l Z a0 hw [] r0 T303.heap n0 sz303) e309  (pc := 33) (Ls := #[.val (.ref x), .val (.ref vb), .val (.int (2 : Int32)), .val (.int (0 : Int32)), .val (.ref r0)]) (argsL := [(.ref r0)]) (rest := []) (by rw [hml]; rfl) (lenOf own_pd6 rfl) rfl (hb hby own_d_prog_10_method_5_code_33) (by decide) (by decide) (by decide) (by decide) ?_
    intro v320 T320 L320 X320 hQ320
    obtain ⟨b, rfl, N320, Xe320, Eb320, Gv320⟩ := hQ320
    show OGo p e below (T320.setTop (mkF m 36 #[.val (.ref x), .val (.ref vb), .val (.int (2 : Int32)), .val (.int (0 : Int32)), .val (.ref r0)] [(.ref b)])) (OEnd s (fun v h L => ∃ (b : Addr) (u : Value), v = some (.ref b) ∧ Fr n0 L ∧ Ext h0 h ∧ Exa Z h b "java/util/Optional" ∧ Fld Z h b "java/util/Optional" "value" "Ljava/lang/Object;" u ∧ u = own_of (some cs) r0 r1) ({ frames := 3, cells := 2, slots := 3, locals := 38 } : Room).cells ({ frames := 3, cells := 2, slots := 3, locals := 38 } : Room).slots)
    have Nc320 := Fr.app Nc309 N320
    have sz320 : n0 ≤ T320.heap.size := Nat.le_trans sz303 Xe320.1
    have xt321 := (own_ext_trans Xe303 Xe320)
    exact own_ret X320 hx hlk hret rfl (Or.inr (Or.inr (Or.inr (Or.inr ⟨rfl, rfl, rfl⟩)))) (hb hby own_d_prog_10_method_5_code_36) ⟨b, .ref r0, rfl, Nc320, xt321, Eb320, Gv320, by rw [own_of, if_pos (congrArg some (own_if1 hr0).symm)]⟩ (by decide) (by decide)

set_option maxRecDepth 65536 in
set_option maxHeartbeats 40000000 in
theorem own_rm0 (l : Launch) (Z : State) (a0 : Array Value) (hw : ∀ d ∈ tables_1, d.before a0 Z = true) (ws : List Jvm.Cond) (p1 : Int32) (j1 : Int64) (va : Addr) (vc : Cell) (r0 r1 t0 t1 eo : Addr) (zc : Int32) (fm : Value) (h0 : Heap) (n0 : Nat) (Z0 : n0 ≤ h0.size) (SC : Sta Z h0 "java/lang/String" "COMPACT_STRINGS" "Z" (.int zc)) (hzc : ¬ zc = 0) (SF : Sta Z h0 "jdk/internal/util/Preconditions" "SIOOBE_FORMATTER" "Ljava/util/function/BiFunction;" fm) (hfm : fm.isRef = true) (SV : Sta Z h0 "com/example/tenantd/tenantd/Permission" "$VALUES" "[Lcom/example/tenantd/tenantd/Permission;" (.ref va)) (AV : Arr Z h0 va vc (.object "com/example/tenantd/tenantd/Permission")) (EV : Exa Z h0 va "[Lcom/example/tenantd/tenantd/Permission;") (FV : FitC Z vc) (VS : vc.slots.size = 2) (V0 : vc.slots[0]? = some (.ref r0)) (Ft0 : Fld Z h0 r0 "com/example/tenantd/tenantd/Permission" "text" "Ljava/lang/String;" (.ref t0)) (O0 : OStr Z h0 t0 [97, 108, 108, 111, 119]) (V1 : vc.slots[1]? = some (.ref r1)) (Ft1 : Fld Z h0 r1 "com/example/tenantd/tenantd/Permission" "text" "Ljava/lang/String;" (.ref t1)) (O1 : OStr Z h0 t1 [100, 101, 110, 121]) (SE : Sta Z h0 "java/util/Optional" "EMPTY" "Ljava/util/Optional;" (.ref eo)) (EO : Exa Z h0 eo "java/util/Optional") (FO : Fld Z h0 eo "java/util/Optional" "value" "Ljava/lang/Object;" .null) (SA : Sta Z h0 "com/example/tenantd/tenantd/Permission" "ALLOW" "Lcom/example/tenantd/tenantd/Permission;" (.ref r0)) (SD_ : Sta Z h0 "com/example/tenantd/tenantd/Permission" "DENY" "Lcom/example/tenantd/tenantd/Permission;" (.ref r1)) (EA : Exa Z h0 r0 "com/example/tenantd/tenantd/Permission") (ED : Exa Z h0 r1 "com/example/tenantd/tenantd/Permission") :
    OMetW l Z consts_1 x code maxLocals ret ws room_1 #[(.int p1), (.long j1)] h0 (fun v h L => v = some (.int (1 : Int32)) ∧ Fr n0 L) := by
  refine OMetW.body (plainFor_of_name own_pn0) ?_
  intro p e s m below meth c s₁ hx hby hml hown hnm hret hlk hZ X0 e0 OW0
  have hml : c.maxLocals = 16 := hml
  have hEL := own_hEL hw
  have wS := own_wS hw
  refine OGo.step (fun _ kk => castTop (show entryFrame m #[(.int p1), (.long j1)] maxLocals = (mkF m 0 #[.val (.int p1), .val (.long j1), .second, .unset, .unset, .unset, .unset, .unset, .unset, .unset, .unset, .unset, .unset, .unset, .unset, .unset] []) from by first | (simp [entryFrame, mkF, argsToLocals, Value.category, maxLocals]; done) | rfl) kk) ?_
  show OGo p e below (s₁.setTop (mkF m 0 #[.val (.int p1), .val (.long j1), .second, .unset, .unset, .unset, .unset, .unset, .unset, .unset, .unset, .unset, .unset, .unset, .unset, .unset] [])) (OEndW s Z consts_1 (fun v h L => v = some (.int (1 : Int32)) ∧ Fr n0 L) room_1.cells room_1.slots)
  refine OGo.step (fun _ kk => XS.iloadN X0.here hx rfl (hb hby at_0) rfl kk) ?_
  show OGo p e below (s₁.setTop (mkF m 1 #[.val (.int p1), .val (.long j1), .second, .unset, .unset, .unset, .unset, .unset, .unset, .unset, .unset, .unset, .unset, .unset, .unset, .unset] [(.int p1)])) (OEndW s Z consts_1 (fun v h L => v = some (.int (1 : Int32)) ∧ Fr n0 L) room_1.cells room_1.slots)
  refine OGo.step (fun _ kk => XS.bipush X0.here hx rfl (hb hby at_1) kk) ?_
  show OGo p e below (s₁.setTop (mkF m 3 #[.val (.int p1), .val (.long j1), .second, .unset, .unset, .unset, .unset, .unset, .unset, .unset, .unset, .unset, .unset, .unset, .unset, .unset] [(.int (7 : Int32)), (.int p1)])) (OEndW s Z consts_1 (fun v h L => v = some (.int (1 : Int32)) ∧ Fr n0 L) room_1.cells room_1.slots)
  refine OGo.step (fun _ kk => XS.iand X0.here hx rfl (hb hby at_3) rfl kk) ?_
  show OGo p e below (s₁.setTop (mkF m 4 #[.val (.int p1), .val (.long j1), .second, .unset, .unset, .unset, .unset, .unset, .unset, .unset, .unset, .unset, .unset, .unset, .unset, .unset] [(.int (p1 &&& (7 : Int32)))])) (OEndW s Z consts_1 (fun v h L => v = some (.int (1 : Int32)) ∧ Fr n0 L) room_1.cells room_1.slots)
  refine OGo.step (fun _ kk => XS.istoreN X0.here hx rfl (hb hby at_4) rfl (l' := #[.val (.int p1), .val (.long j1), .second, .val (.int (p1 &&& (7 : Int32))), .unset, .unset, .unset, .unset, .unset, .unset, .unset, .unset, .unset, .unset, .unset, .unset]) rfl kk) ?_
  show OGo p e below (s₁.setTop (mkF m 5 #[.val (.int p1), .val (.long j1), .second, .val (.int (p1 &&& (7 : Int32))), .unset, .unset, .unset, .unset, .unset, .unset, .unset, .unset, .unset, .unset, .unset, .unset] [])) (OEndW s Z consts_1 (fun v h L => v = some (.int (1 : Int32)) ∧ Fr n0 L) room_1.cells room_1.slots)
  refine OGo.step (fun _ kk => XS.iloadN X0.here hx rfl (hb hby at_5) rfl kk) ?_
  show OGo p e below (s₁.setTop (mkF m 6 #[.val (.int p1), .val (.long j1), .second, .val (.int (p1 &&& (7 : Int32))), .unset, .unset, .unset, .unset, .unset, .unset, .unset, .unset, .unset, .unset, .unset, .unset] [(.int p1)])) (OEndW s Z consts_1 (fun v h L => v = some (.int (1 : Int32)) ∧ Fr n0 L) room_1.cells room_1.slots)
  refine OGo.step (fun _ kk => XS.iconst X0.here hx rfl (hb hby at_6) kk) ?_
  show OGo p e below (s₁.setTop (mkF m 7 #[.val (.int p1), .val (.long j1), .second, .val (.int (p1 &&& (7 : Int32))), .unset, .unset, .unset, .unset, .unset, .unset, .unset, .unset, .unset, .unset, .unset, .unset] [(.int (3 : Int32)), (.int p1)])) (OEndW s Z consts_1 (fun v h L => v = some (.int (1 : Int32)) ∧ Fr n0 L) room_1.cells room_1.slots)
  refine OGo.step (fun _ kk => XS.iushr X0.here hx rfl (hb hby at_7) rfl kk) ?_
  show OGo p e below (s₁.setTop (mkF m 8 #[.val (.int p1), .val (.long j1), .second, .val (.int (p1 &&& (7 : Int32))), .unset, .unset, .unset, .unset, .unset, .unset, .unset, .unset, .unset, .unset, .unset, .unset] [(.int ((p1.toUInt32 >>> ((3 : Int32) &&& 31).toUInt32).toInt32))])) (OEndW s Z consts_1 (fun v h L => v = some (.int (1 : Int32)) ∧ Fr n0 L) room_1.cells room_1.slots)
  refine OGo.step (fun _ kk => XS.iconst X0.here hx rfl (hb hby at_8) kk) ?_
  show OGo p e below (s₁.setTop (mkF m 9 #[.val (.int p1), .val (.long j1), .second, .val (.int (p1 &&& (7 : Int32))), .unset, .unset, .unset, .unset, .unset, .unset, .unset, .unset, .unset, .unset, .unset, .unset] [(.int (3 : Int32)), (.int ((p1.toUInt32 >>> ((3 : Int32) &&& 31).toUInt32).toInt32))])) (OEndW s Z consts_1 (fun v h L => v = some (.int (1 : Int32)) ∧ Fr n0 L) room_1.cells room_1.slots)
  refine OGo.step (fun _ kk => XS.iand X0.here hx rfl (hb hby at_9) rfl kk) ?_
  show OGo p e below (s₁.setTop (mkF m 10 #[.val (.int p1), .val (.long j1), .second, .val (.int (p1 &&& (7 : Int32))), .unset, .unset, .unset, .unset, .unset, .unset, .unset, .unset, .unset, .unset, .unset, .unset] [(.int (((p1.toUInt32 >>> ((3 : Int32) &&& 31).toUInt32).toInt32) &&& (3 : Int32)))])) (OEndW s Z consts_1 (fun v h L => v = some (.int (1 : Int32)) ∧ Fr n0 L) room_1.cells room_1.slots)
  refine OGo.step (fun _ kk => XS.istore X0.here hx rfl (hb hby at_10) rfl (l' := #[.val (.int p1), .val (.long j1), .second, .val (.int (p1 &&& (7 : Int32))), .val (.int (((p1.toUInt32 >>> ((3 : Int32) &&& 31).toUInt32).toInt32) &&& (3 : Int32))), .unset, .unset, .unset, .unset, .unset, .unset, .unset, .unset, .unset, .unset, .unset]) rfl kk) ?_
  show OGo p e below (s₁.setTop (mkF m 12 #[.val (.int p1), .val (.long j1), .second, .val (.int (p1 &&& (7 : Int32))), .val (.int (((p1.toUInt32 >>> ((3 : Int32) &&& 31).toUInt32).toInt32) &&& (3 : Int32))), .unset, .unset, .unset, .unset, .unset, .unset, .unset, .unset, .unset, .unset, .unset] [])) (OEndW s Z consts_1 (fun v h L => v = some (.int (1 : Int32)) ∧ Fr n0 L) room_1.cells room_1.slots)
  refine OGo.step (fun _ kk => XS.iloadN X0.here hx rfl (hb hby at_12) rfl kk) ?_
  show OGo p e below (s₁.setTop (mkF m 13 #[.val (.int p1), .val (.long j1), .second, .val (.int (p1 &&& (7 : Int32))), .val (.int (((p1.toUInt32 >>> ((3 : Int32) &&& 31).toUInt32).toInt32) &&& (3 : Int32))), .unset, .unset, .unset, .unset, .unset, .unset, .unset, .unset, .unset, .unset, .unset] [(.int p1)])) (OEndW s Z consts_1 (fun v h L => v = some (.int (1 : Int32)) ∧ Fr n0 L) room_1.cells room_1.slots)
  refine OGo.step (fun _ kk => XS.iconst X0.here hx rfl (hb hby at_13) kk) ?_
  show OGo p e below (s₁.setTop (mkF m 14 #[.val (.int p1), .val (.long j1), .second, .val (.int (p1 &&& (7 : Int32))), .val (.int (((p1.toUInt32 >>> ((3 : Int32) &&& 31).toUInt32).toInt32) &&& (3 : Int32))), .unset, .unset, .unset, .unset, .unset, .unset, .unset, .unset, .unset, .unset, .unset] [(.int (5 : Int32)), (.int p1)])) (OEndW s Z consts_1 (fun v h L => v = some (.int (1 : Int32)) ∧ Fr n0 L) room_1.cells room_1.slots)
  refine OGo.step (fun _ kk => XS.iushr X0.here hx rfl (hb hby at_14) rfl kk) ?_
  show OGo p e below (s₁.setTop (mkF m 15 #[.val (.int p1), .val (.long j1), .second, .val (.int (p1 &&& (7 : Int32))), .val (.int (((p1.toUInt32 >>> ((3 : Int32) &&& 31).toUInt32).toInt32) &&& (3 : Int32))), .unset, .unset, .unset, .unset, .unset, .unset, .unset, .unset, .unset, .unset, .unset] [(.int ((p1.toUInt32 >>> ((5 : Int32) &&& 31).toUInt32).toInt32))])) (OEndW s Z consts_1 (fun v h L => v = some (.int (1 : Int32)) ∧ Fr n0 L) room_1.cells room_1.slots)
  refine OGo.step (fun _ kk => XS.bipush X0.here hx rfl (hb hby at_15) kk) ?_
  show OGo p e below (s₁.setTop (mkF m 17 #[.val (.int p1), .val (.long j1), .second, .val (.int (p1 &&& (7 : Int32))), .val (.int (((p1.toUInt32 >>> ((3 : Int32) &&& 31).toUInt32).toInt32) &&& (3 : Int32))), .unset, .unset, .unset, .unset, .unset, .unset, .unset, .unset, .unset, .unset, .unset] [(.int (127 : Int32)), (.int ((p1.toUInt32 >>> ((5 : Int32) &&& 31).toUInt32).toInt32))])) (OEndW s Z consts_1 (fun v h L => v = some (.int (1 : Int32)) ∧ Fr n0 L) room_1.cells room_1.slots)
  refine OGo.step (fun _ kk => XS.iand X0.here hx rfl (hb hby at_17) rfl kk) ?_
  show OGo p e below (s₁.setTop (mkF m 18 #[.val (.int p1), .val (.long j1), .second, .val (.int (p1 &&& (7 : Int32))), .val (.int (((p1.toUInt32 >>> ((3 : Int32) &&& 31).toUInt32).toInt32) &&& (3 : Int32))), .unset, .unset, .unset, .unset, .unset, .unset, .unset, .unset, .unset, .unset, .unset] [(.int (((p1.toUInt32 >>> ((5 : Int32) &&& 31).toUInt32).toInt32) &&& (127 : Int32)))])) (OEndW s Z consts_1 (fun v h L => v = some (.int (1 : Int32)) ∧ Fr n0 L) room_1.cells room_1.slots)
  refine OGo.step (fun _ kk => XS.istore X0.here hx rfl (hb hby at_18) rfl (l' := #[.val (.int p1), .val (.long j1), .second, .val (.int (p1 &&& (7 : Int32))), .val (.int (((p1.toUInt32 >>> ((3 : Int32) &&& 31).toUInt32).toInt32) &&& (3 : Int32))), .val (.int (((p1.toUInt32 >>> ((5 : Int32) &&& 31).toUInt32).toInt32) &&& (127 : Int32))), .unset, .unset, .unset, .unset, .unset, .unset, .unset, .unset, .unset, .unset]) rfl kk) ?_
  show OGo p e below (s₁.setTop (mkF m 20 #[.val (.int p1), .val (.long j1), .second, .val (.int (p1 &&& (7 : Int32))), .val (.int (((p1.toUInt32 >>> ((3 : Int32) &&& 31).toUInt32).toInt32) &&& (3 : Int32))), .val (.int (((p1.toUInt32 >>> ((5 : Int32) &&& 31).toUInt32).toInt32) &&& (127 : Int32))), .unset, .unset, .unset, .unset, .unset, .unset, .unset, .unset, .unset, .unset] [])) (OEndW s Z consts_1 (fun v h L => v = some (.int (1 : Int32)) ∧ Fr n0 L) room_1.cells room_1.slots)
  refine OGo.step (fun _ kk => XS.iload X0.here hx rfl (hb hby at_20) rfl kk) ?_
  show OGo p e below (s₁.setTop (mkF m 22 #[.val (.int p1), .val (.long j1), .second, .val (.int (p1 &&& (7 : Int32))), .val (.int (((p1.toUInt32 >>> ((3 : Int32) &&& 31).toUInt32).toInt32) &&& (3 : Int32))), .val (.int (((p1.toUInt32 >>> ((5 : Int32) &&& 31).toUInt32).toInt32) &&& (127 : Int32))), .unset, .unset, .unset, .unset, .unset, .unset, .unset, .unset, .unset, .unset] [(.int (((p1.toUInt32 >>> ((3 : Int32) &&& 31).toUInt32).toInt32) &&& (3 : Int32)))])) (OEndW s Z consts_1 (fun v h L => v = some (.int (1 : Int32)) ∧ Fr n0 L) room_1.cells room_1.slots)
  refine OGo.step (fun _ kk => XS.iconst X0.here hx rfl (hb hby at_22) kk) ?_
  show OGo p e below (s₁.setTop (mkF m 23 #[.val (.int p1), .val (.long j1), .second, .val (.int (p1 &&& (7 : Int32))), .val (.int (((p1.toUInt32 >>> ((3 : Int32) &&& 31).toUInt32).toInt32) &&& (3 : Int32))), .val (.int (((p1.toUInt32 >>> ((5 : Int32) &&& 31).toUInt32).toInt32) &&& (127 : Int32))), .unset, .unset, .unset, .unset, .unset, .unset, .unset, .unset, .unset, .unset] [(.int (0 : Int32)), (.int (((p1.toUInt32 >>> ((3 : Int32) &&& 31).toUInt32).toInt32) &&& (3 : Int32)))])) (OEndW s Z consts_1 (fun v h L => v = some (.int (1 : Int32)) ∧ Fr n0 L) room_1.cells room_1.slots)
  refine OGo.step (fun _ kk => XS.iload X0.here hx rfl (hb hby at_23) rfl kk) ?_
  show OGo p e below (s₁.setTop (mkF m 25 #[.val (.int p1), .val (.long j1), .second, .val (.int (p1 &&& (7 : Int32))), .val (.int (((p1.toUInt32 >>> ((3 : Int32) &&& 31).toUInt32).toInt32) &&& (3 : Int32))), .val (.int (((p1.toUInt32 >>> ((5 : Int32) &&& 31).toUInt32).toInt32) &&& (127 : Int32))), .unset, .unset, .unset, .unset, .unset, .unset, .unset, .unset, .unset, .unset] [(.int (((p1.toUInt32 >>> ((5 : Int32) &&& 31).toUInt32).toInt32) &&& (127 : Int32))), (.int (0 : Int32)), (.int (((p1.toUInt32 >>> ((3 : Int32) &&& 31).toUInt32).toInt32) &&& (3 : Int32)))])) (OEndW s Z consts_1 (fun v h L => v = some (.int (1 : Int32)) ∧ Fr n0 L) room_1.cells room_1.slots)
  refine OGo.step (fun _ kk => XS.lloadN X0.here hx rfl (hb hby at_25) rfl kk) ?_
  show OGo p e below (s₁.setTop (mkF m 26 #[.val (.int p1), .val (.long j1), .second, .val (.int (p1 &&& (7 : Int32))), .val (.int (((p1.toUInt32 >>> ((3 : Int32) &&& 31).toUInt32).toInt32) &&& (3 : Int32))), .val (.int (((p1.toUInt32 >>> ((5 : Int32) &&& 31).toUInt32).toInt32) &&& (127 : Int32))), .unset, .unset, .unset, .unset, .unset, .unset, .unset, .unset, .unset, .unset] [(.long j1), (.int (((p1.toUInt32 >>> ((5 : Int32) &&& 31).toUInt32).toInt32) &&& (127 : Int32))), (.int (0 : Int32)), (.int (((p1.toUInt32 >>> ((3 : Int32) &&& 31).toUInt32).toInt32) &&& (3 : Int32)))])) (OEndW s Z consts_1 (fun v h L => v = some (.int (1 : Int32)) ∧ Fr n0 L) room_1.cells room_1.slots)
  refine own_callSW X0 hx hZ (y := (⟨"com/example/tenantd/tenantd/PermissionOfTextPinLaw", "ch", "(IIIJ)C"⟩ : MethodName)) hown (hw _ (List.mem_of_getElem? (i := 0) rfl)) (hw _ (List.mem_of_getElem? (i := 1) rfl)) (hw _ (List.mem_of_getElem? (i := 2) rfl)) (hw _ (List.mem_of_getElem? (i := 3) rfl)) (by decide) hEL OW0 (W := 0) (own_ch l Z a0 hw [] (((p1.toUInt32 >>> ((3 : Int32) &&& 31).toUInt32).toInt32) &&& (3 : Int32)) (((p1.toUInt32 >>> ((5 : Int32) &&& 31).toUInt32).toInt32) &&& (127 : Int32)) zc 0 j1 fm h0 n0 Z0 SC hzc SF hfm (by decide)) e0  (pc := 26) (Ls := #[.val (.int p1), .val (.long j1), .second, .val (.int (p1 &&& (7 : Int32))), .val (.int (((p1.toUInt32 >>> ((3 : Int32) &&& 31).toUInt32).toInt32) &&& (3 : Int32))), .val (.int (((p1.toUInt32 >>> ((5 : Int32) &&& 31).toUInt32).toInt32) &&& (127 : Int32))), .unset, .unset, .unset, .unset, .unset, .unset, .unset, .unset, .unset, .unset]) (argsL := [(.int (((p1.toUInt32 >>> ((3 : Int32) &&& 31).toUInt32).toInt32) &&& (3 : Int32))), (.int (0 : Int32)), (.int (((p1.toUInt32 >>> ((5 : Int32) &&& 31).toUInt32).toInt32) &&& (127 : Int32))), (.long j1)]) (rest := []) (by rw [hml]; rfl) (lenOf own_pd7 rfl) rfl (hb hby at_26) (by decide) (by decide) (by decide) (by decide) ?_
  intro v322 T322 L322 X322 hQ322 OW322 hZ hown CH322
  obtain ⟨c0_, rfl, N322, Xe322, hb0⟩ := hQ322
  show OGo p e below (T322.setTop (mkF m 29 #[.val (.int p1), .val (.long j1), .second, .val (.int (p1 &&& (7 : Int32))), .val (.int (((p1.toUInt32 >>> ((3 : Int32) &&& 31).toUInt32).toInt32) &&& (3 : Int32))), .val (.int (((p1.toUInt32 >>> ((5 : Int32) &&& 31).toUInt32).toInt32) &&& (127 : Int32))), .unset, .unset, .unset, .unset, .unset, .unset, .unset, .unset, .unset, .unset] [(.int c0_)])) (OEndW s Z consts_1 (fun v h L => v = some (.int (1 : Int32)) ∧ Fr n0 L) room_1.cells room_1.slots)
  have Nc322 := Fr.app (Fr.nil n0) N322
  have sz322 : n0 ≤ T322.heap.size := Nat.le_trans Z0 Xe322.1
  refine OGo.step (fun _ kk => XS.istore X322.here hx rfl (hb hby at_29) rfl (l' := #[.val (.int p1), .val (.long j1), .second, .val (.int (p1 &&& (7 : Int32))), .val (.int (((p1.toUInt32 >>> ((3 : Int32) &&& 31).toUInt32).toInt32) &&& (3 : Int32))), .val (.int (((p1.toUInt32 >>> ((5 : Int32) &&& 31).toUInt32).toInt32) &&& (127 : Int32))), .val (.int c0_), .unset, .unset, .unset, .unset, .unset, .unset, .unset, .unset, .unset]) rfl kk) ?_
  show OGo p e below (T322.setTop (mkF m 31 #[.val (.int p1), .val (.long j1), .second, .val (.int (p1 &&& (7 : Int32))), .val (.int (((p1.toUInt32 >>> ((3 : Int32) &&& 31).toUInt32).toInt32) &&& (3 : Int32))), .val (.int (((p1.toUInt32 >>> ((5 : Int32) &&& 31).toUInt32).toInt32) &&& (127 : Int32))), .val (.int c0_), .unset, .unset, .unset, .unset, .unset, .unset, .unset, .unset, .unset] [])) (OEndW s Z consts_1 (fun v h L => v = some (.int (1 : Int32)) ∧ Fr n0 L) room_1.cells room_1.slots)
  refine OGo.step (fun _ kk => XS.iload X322.here hx rfl (hb hby at_31) rfl kk) ?_
  show OGo p e below (T322.setTop (mkF m 33 #[.val (.int p1), .val (.long j1), .second, .val (.int (p1 &&& (7 : Int32))), .val (.int (((p1.toUInt32 >>> ((3 : Int32) &&& 31).toUInt32).toInt32) &&& (3 : Int32))), .val (.int (((p1.toUInt32 >>> ((5 : Int32) &&& 31).toUInt32).toInt32) &&& (127 : Int32))), .val (.int c0_), .unset, .unset, .unset, .unset, .unset, .unset, .unset, .unset, .unset] [(.int (((p1.toUInt32 >>> ((3 : Int32) &&& 31).toUInt32).toInt32) &&& (3 : Int32)))])) (OEndW s Z consts_1 (fun v h L => v = some (.int (1 : Int32)) ∧ Fr n0 L) room_1.cells room_1.slots)
  refine OGo.step (fun _ kk => XS.iconst X322.here hx rfl (hb hby at_33) kk) ?_
  show OGo p e below (T322.setTop (mkF m 34 #[.val (.int p1), .val (.long j1), .second, .val (.int (p1 &&& (7 : Int32))), .val (.int (((p1.toUInt32 >>> ((3 : Int32) &&& 31).toUInt32).toInt32) &&& (3 : Int32))), .val (.int (((p1.toUInt32 >>> ((5 : Int32) &&& 31).toUInt32).toInt32) &&& (127 : Int32))), .val (.int c0_), .unset, .unset, .unset, .unset, .unset, .unset, .unset, .unset, .unset] [(.int (1 : Int32)), (.int (((p1.toUInt32 >>> ((3 : Int32) &&& 31).toUInt32).toInt32) &&& (3 : Int32)))])) (OEndW s Z consts_1 (fun v h L => v = some (.int (1 : Int32)) ∧ Fr n0 L) room_1.cells room_1.slots)
  refine OGo.step (fun _ kk => XS.iload X322.here hx rfl (hb hby at_34) rfl kk) ?_
  show OGo p e below (T322.setTop (mkF m 36 #[.val (.int p1), .val (.long j1), .second, .val (.int (p1 &&& (7 : Int32))), .val (.int (((p1.toUInt32 >>> ((3 : Int32) &&& 31).toUInt32).toInt32) &&& (3 : Int32))), .val (.int (((p1.toUInt32 >>> ((5 : Int32) &&& 31).toUInt32).toInt32) &&& (127 : Int32))), .val (.int c0_), .unset, .unset, .unset, .unset, .unset, .unset, .unset, .unset, .unset] [(.int (((p1.toUInt32 >>> ((5 : Int32) &&& 31).toUInt32).toInt32) &&& (127 : Int32))), (.int (1 : Int32)), (.int (((p1.toUInt32 >>> ((3 : Int32) &&& 31).toUInt32).toInt32) &&& (3 : Int32)))])) (OEndW s Z consts_1 (fun v h L => v = some (.int (1 : Int32)) ∧ Fr n0 L) room_1.cells room_1.slots)
  refine OGo.step (fun _ kk => XS.lloadN X322.here hx rfl (hb hby at_36) rfl kk) ?_
  show OGo p e below (T322.setTop (mkF m 37 #[.val (.int p1), .val (.long j1), .second, .val (.int (p1 &&& (7 : Int32))), .val (.int (((p1.toUInt32 >>> ((3 : Int32) &&& 31).toUInt32).toInt32) &&& (3 : Int32))), .val (.int (((p1.toUInt32 >>> ((5 : Int32) &&& 31).toUInt32).toInt32) &&& (127 : Int32))), .val (.int c0_), .unset, .unset, .unset, .unset, .unset, .unset, .unset, .unset, .unset] [(.long j1), (.int (((p1.toUInt32 >>> ((5 : Int32) &&& 31).toUInt32).toInt32) &&& (127 : Int32))), (.int (1 : Int32)), (.int (((p1.toUInt32 >>> ((3 : Int32) &&& 31).toUInt32).toInt32) &&& (3 : Int32)))])) (OEndW s Z consts_1 (fun v h L => v = some (.int (1 : Int32)) ∧ Fr n0 L) room_1.cells room_1.slots)
  have fx323 := SC.ext Xe322
  have fx324 := SF.ext Xe322
  refine own_callSW X322 hx hZ (y := (⟨"com/example/tenantd/tenantd/PermissionOfTextPinLaw", "ch", "(IIIJ)C"⟩ : MethodName)) hown (hw _ (List.mem_of_getElem? (i := 0) rfl)) (hw _ (List.mem_of_getElem? (i := 1) rfl)) (hw _ (List.mem_of_getElem? (i := 2) rfl)) (hw _ (List.mem_of_getElem? (i := 3) rfl)) (by decide) hEL OW322 (W := 0) (own_ch l Z a0 hw [] (((p1.toUInt32 >>> ((3 : Int32) &&& 31).toUInt32).toInt32) &&& (3 : Int32)) (((p1.toUInt32 >>> ((5 : Int32) &&& 31).toUInt32).toInt32) &&& (127 : Int32)) zc 1 j1 fm T322.heap n0 sz322 fx323 hzc fx324 hfm (by decide)) rfl  (pc := 37) (Ls := #[.val (.int p1), .val (.long j1), .second, .val (.int (p1 &&& (7 : Int32))), .val (.int (((p1.toUInt32 >>> ((3 : Int32) &&& 31).toUInt32).toInt32) &&& (3 : Int32))), .val (.int (((p1.toUInt32 >>> ((5 : Int32) &&& 31).toUInt32).toInt32) &&& (127 : Int32))), .val (.int c0_), .unset, .unset, .unset, .unset, .unset, .unset, .unset, .unset, .unset]) (argsL := [(.int (((p1.toUInt32 >>> ((3 : Int32) &&& 31).toUInt32).toInt32) &&& (3 : Int32))), (.int (1 : Int32)), (.int (((p1.toUInt32 >>> ((5 : Int32) &&& 31).toUInt32).toInt32) &&& (127 : Int32))), (.long j1)]) (rest := []) (by rw [hml]; rfl) (lenOf own_pd7 rfl) rfl (hb hby at_37) (by decide) (by decide) (by decide) (by decide) ?_
  intro v325 T325 L325 X325 hQ325 OW325 hZ hown CH325
  obtain ⟨c1_, rfl, N325, Xe325, hb1⟩ := hQ325
  show OGo p e below (T325.setTop (mkF m 40 #[.val (.int p1), .val (.long j1), .second, .val (.int (p1 &&& (7 : Int32))), .val (.int (((p1.toUInt32 >>> ((3 : Int32) &&& 31).toUInt32).toInt32) &&& (3 : Int32))), .val (.int (((p1.toUInt32 >>> ((5 : Int32) &&& 31).toUInt32).toInt32) &&& (127 : Int32))), .val (.int c0_), .unset, .unset, .unset, .unset, .unset, .unset, .unset, .unset, .unset] [(.int c1_)])) (OEndW s Z consts_1 (fun v h L => v = some (.int (1 : Int32)) ∧ Fr n0 L) room_1.cells room_1.slots)
  have Nc325 := Fr.app Nc322 N325
  have sz325 : n0 ≤ T325.heap.size := Nat.le_trans sz322 Xe325.1
  refine OGo.step (fun _ kk => XS.istore X325.here hx rfl (hb hby at_40) rfl (l' := #[.val (.int p1), .val (.long j1), .second, .val (.int (p1 &&& (7 : Int32))), .val (.int (((p1.toUInt32 >>> ((3 : Int32) &&& 31).toUInt32).toInt32) &&& (3 : Int32))), .val (.int (((p1.toUInt32 >>> ((5 : Int32) &&& 31).toUInt32).toInt32) &&& (127 : Int32))), .val (.int c0_), .val (.int c1_), .unset, .unset, .unset, .unset, .unset, .unset, .unset, .unset]) rfl kk) ?_
  show OGo p e below (T325.setTop (mkF m 42 #[.val (.int p1), .val (.long j1), .second, .val (.int (p1 &&& (7 : Int32))), .val (.int (((p1.toUInt32 >>> ((3 : Int32) &&& 31).toUInt32).toInt32) &&& (3 : Int32))), .val (.int (((p1.toUInt32 >>> ((5 : Int32) &&& 31).toUInt32).toInt32) &&& (127 : Int32))), .val (.int c0_), .val (.int c1_), .unset, .unset, .unset, .unset, .unset, .unset, .unset, .unset] [])) (OEndW s Z consts_1 (fun v h L => v = some (.int (1 : Int32)) ∧ Fr n0 L) room_1.cells room_1.slots)
  refine OGo.step (fun _ kk => XS.iload X325.here hx rfl (hb hby at_42) rfl kk) ?_
  show OGo p e below (T325.setTop (mkF m 44 #[.val (.int p1), .val (.long j1), .second, .val (.int (p1 &&& (7 : Int32))), .val (.int (((p1.toUInt32 >>> ((3 : Int32) &&& 31).toUInt32).toInt32) &&& (3 : Int32))), .val (.int (((p1.toUInt32 >>> ((5 : Int32) &&& 31).toUInt32).toInt32) &&& (127 : Int32))), .val (.int c0_), .val (.int c1_), .unset, .unset, .unset, .unset, .unset, .unset, .unset, .unset] [(.int (((p1.toUInt32 >>> ((3 : Int32) &&& 31).toUInt32).toInt32) &&& (3 : Int32)))])) (OEndW s Z consts_1 (fun v h L => v = some (.int (1 : Int32)) ∧ Fr n0 L) room_1.cells room_1.slots)
  refine OGo.step (fun _ kk => XS.iconst X325.here hx rfl (hb hby at_44) kk) ?_
  show OGo p e below (T325.setTop (mkF m 45 #[.val (.int p1), .val (.long j1), .second, .val (.int (p1 &&& (7 : Int32))), .val (.int (((p1.toUInt32 >>> ((3 : Int32) &&& 31).toUInt32).toInt32) &&& (3 : Int32))), .val (.int (((p1.toUInt32 >>> ((5 : Int32) &&& 31).toUInt32).toInt32) &&& (127 : Int32))), .val (.int c0_), .val (.int c1_), .unset, .unset, .unset, .unset, .unset, .unset, .unset, .unset] [(.int (2 : Int32)), (.int (((p1.toUInt32 >>> ((3 : Int32) &&& 31).toUInt32).toInt32) &&& (3 : Int32)))])) (OEndW s Z consts_1 (fun v h L => v = some (.int (1 : Int32)) ∧ Fr n0 L) room_1.cells room_1.slots)
  refine OGo.step (fun _ kk => XS.iload X325.here hx rfl (hb hby at_45) rfl kk) ?_
  show OGo p e below (T325.setTop (mkF m 47 #[.val (.int p1), .val (.long j1), .second, .val (.int (p1 &&& (7 : Int32))), .val (.int (((p1.toUInt32 >>> ((3 : Int32) &&& 31).toUInt32).toInt32) &&& (3 : Int32))), .val (.int (((p1.toUInt32 >>> ((5 : Int32) &&& 31).toUInt32).toInt32) &&& (127 : Int32))), .val (.int c0_), .val (.int c1_), .unset, .unset, .unset, .unset, .unset, .unset, .unset, .unset] [(.int (((p1.toUInt32 >>> ((5 : Int32) &&& 31).toUInt32).toInt32) &&& (127 : Int32))), (.int (2 : Int32)), (.int (((p1.toUInt32 >>> ((3 : Int32) &&& 31).toUInt32).toInt32) &&& (3 : Int32)))])) (OEndW s Z consts_1 (fun v h L => v = some (.int (1 : Int32)) ∧ Fr n0 L) room_1.cells room_1.slots)
  refine OGo.step (fun _ kk => XS.lloadN X325.here hx rfl (hb hby at_47) rfl kk) ?_
  show OGo p e below (T325.setTop (mkF m 48 #[.val (.int p1), .val (.long j1), .second, .val (.int (p1 &&& (7 : Int32))), .val (.int (((p1.toUInt32 >>> ((3 : Int32) &&& 31).toUInt32).toInt32) &&& (3 : Int32))), .val (.int (((p1.toUInt32 >>> ((5 : Int32) &&& 31).toUInt32).toInt32) &&& (127 : Int32))), .val (.int c0_), .val (.int c1_), .unset, .unset, .unset, .unset, .unset, .unset, .unset, .unset] [(.long j1), (.int (((p1.toUInt32 >>> ((5 : Int32) &&& 31).toUInt32).toInt32) &&& (127 : Int32))), (.int (2 : Int32)), (.int (((p1.toUInt32 >>> ((3 : Int32) &&& 31).toUInt32).toInt32) &&& (3 : Int32)))])) (OEndW s Z consts_1 (fun v h L => v = some (.int (1 : Int32)) ∧ Fr n0 L) room_1.cells room_1.slots)
  have xt326 := (own_ext_trans Xe322 Xe325)
  have fx327 := SC.ext xt326
  have fx328 := SF.ext xt326
  refine own_callSW X325 hx hZ (y := (⟨"com/example/tenantd/tenantd/PermissionOfTextPinLaw", "ch", "(IIIJ)C"⟩ : MethodName)) hown (hw _ (List.mem_of_getElem? (i := 0) rfl)) (hw _ (List.mem_of_getElem? (i := 1) rfl)) (hw _ (List.mem_of_getElem? (i := 2) rfl)) (hw _ (List.mem_of_getElem? (i := 3) rfl)) (by decide) hEL OW325 (W := 0) (own_ch l Z a0 hw [] (((p1.toUInt32 >>> ((3 : Int32) &&& 31).toUInt32).toInt32) &&& (3 : Int32)) (((p1.toUInt32 >>> ((5 : Int32) &&& 31).toUInt32).toInt32) &&& (127 : Int32)) zc 2 j1 fm T325.heap n0 sz325 fx327 hzc fx328 hfm (by decide)) rfl  (pc := 48) (Ls := #[.val (.int p1), .val (.long j1), .second, .val (.int (p1 &&& (7 : Int32))), .val (.int (((p1.toUInt32 >>> ((3 : Int32) &&& 31).toUInt32).toInt32) &&& (3 : Int32))), .val (.int (((p1.toUInt32 >>> ((5 : Int32) &&& 31).toUInt32).toInt32) &&& (127 : Int32))), .val (.int c0_), .val (.int c1_), .unset, .unset, .unset, .unset, .unset, .unset, .unset, .unset]) (argsL := [(.int (((p1.toUInt32 >>> ((3 : Int32) &&& 31).toUInt32).toInt32) &&& (3 : Int32))), (.int (2 : Int32)), (.int (((p1.toUInt32 >>> ((5 : Int32) &&& 31).toUInt32).toInt32) &&& (127 : Int32))), (.long j1)]) (rest := []) (by rw [hml]; rfl) (lenOf own_pd7 rfl) rfl (hb hby at_48) (by decide) (by decide) (by decide) (by decide) ?_
  intro v329 T329 L329 X329 hQ329 OW329 hZ hown CH329
  obtain ⟨c2_, rfl, N329, Xe329, hb2⟩ := hQ329
  show OGo p e below (T329.setTop (mkF m 51 #[.val (.int p1), .val (.long j1), .second, .val (.int (p1 &&& (7 : Int32))), .val (.int (((p1.toUInt32 >>> ((3 : Int32) &&& 31).toUInt32).toInt32) &&& (3 : Int32))), .val (.int (((p1.toUInt32 >>> ((5 : Int32) &&& 31).toUInt32).toInt32) &&& (127 : Int32))), .val (.int c0_), .val (.int c1_), .unset, .unset, .unset, .unset, .unset, .unset, .unset, .unset] [(.int c2_)])) (OEndW s Z consts_1 (fun v h L => v = some (.int (1 : Int32)) ∧ Fr n0 L) room_1.cells room_1.slots)
  have Nc329 := Fr.app Nc325 N329
  have sz329 : n0 ≤ T329.heap.size := Nat.le_trans sz325 Xe329.1
  refine OGo.step (fun _ kk => XS.istore X329.here hx rfl (hb hby at_51) rfl (l' := #[.val (.int p1), .val (.long j1), .second, .val (.int (p1 &&& (7 : Int32))), .val (.int (((p1.toUInt32 >>> ((3 : Int32) &&& 31).toUInt32).toInt32) &&& (3 : Int32))), .val (.int (((p1.toUInt32 >>> ((5 : Int32) &&& 31).toUInt32).toInt32) &&& (127 : Int32))), .val (.int c0_), .val (.int c1_), .val (.int c2_), .unset, .unset, .unset, .unset, .unset, .unset, .unset]) rfl kk) ?_
  show OGo p e below (T329.setTop (mkF m 53 #[.val (.int p1), .val (.long j1), .second, .val (.int (p1 &&& (7 : Int32))), .val (.int (((p1.toUInt32 >>> ((3 : Int32) &&& 31).toUInt32).toInt32) &&& (3 : Int32))), .val (.int (((p1.toUInt32 >>> ((5 : Int32) &&& 31).toUInt32).toInt32) &&& (127 : Int32))), .val (.int c0_), .val (.int c1_), .val (.int c2_), .unset, .unset, .unset, .unset, .unset, .unset, .unset] [])) (OEndW s Z consts_1 (fun v h L => v = some (.int (1 : Int32)) ∧ Fr n0 L) room_1.cells room_1.slots)
  refine OGo.step (fun _ kk => XS.iload X329.here hx rfl (hb hby at_53) rfl kk) ?_
  show OGo p e below (T329.setTop (mkF m 55 #[.val (.int p1), .val (.long j1), .second, .val (.int (p1 &&& (7 : Int32))), .val (.int (((p1.toUInt32 >>> ((3 : Int32) &&& 31).toUInt32).toInt32) &&& (3 : Int32))), .val (.int (((p1.toUInt32 >>> ((5 : Int32) &&& 31).toUInt32).toInt32) &&& (127 : Int32))), .val (.int c0_), .val (.int c1_), .val (.int c2_), .unset, .unset, .unset, .unset, .unset, .unset, .unset] [(.int (((p1.toUInt32 >>> ((3 : Int32) &&& 31).toUInt32).toInt32) &&& (3 : Int32)))])) (OEndW s Z consts_1 (fun v h L => v = some (.int (1 : Int32)) ∧ Fr n0 L) room_1.cells room_1.slots)
  refine OGo.step (fun _ kk => XS.iconst X329.here hx rfl (hb hby at_55) kk) ?_
  show OGo p e below (T329.setTop (mkF m 56 #[.val (.int p1), .val (.long j1), .second, .val (.int (p1 &&& (7 : Int32))), .val (.int (((p1.toUInt32 >>> ((3 : Int32) &&& 31).toUInt32).toInt32) &&& (3 : Int32))), .val (.int (((p1.toUInt32 >>> ((5 : Int32) &&& 31).toUInt32).toInt32) &&& (127 : Int32))), .val (.int c0_), .val (.int c1_), .val (.int c2_), .unset, .unset, .unset, .unset, .unset, .unset, .unset] [(.int (3 : Int32)), (.int (((p1.toUInt32 >>> ((3 : Int32) &&& 31).toUInt32).toInt32) &&& (3 : Int32)))])) (OEndW s Z consts_1 (fun v h L => v = some (.int (1 : Int32)) ∧ Fr n0 L) room_1.cells room_1.slots)
  refine OGo.step (fun _ kk => XS.iload X329.here hx rfl (hb hby at_56) rfl kk) ?_
  show OGo p e below (T329.setTop (mkF m 58 #[.val (.int p1), .val (.long j1), .second, .val (.int (p1 &&& (7 : Int32))), .val (.int (((p1.toUInt32 >>> ((3 : Int32) &&& 31).toUInt32).toInt32) &&& (3 : Int32))), .val (.int (((p1.toUInt32 >>> ((5 : Int32) &&& 31).toUInt32).toInt32) &&& (127 : Int32))), .val (.int c0_), .val (.int c1_), .val (.int c2_), .unset, .unset, .unset, .unset, .unset, .unset, .unset] [(.int (((p1.toUInt32 >>> ((5 : Int32) &&& 31).toUInt32).toInt32) &&& (127 : Int32))), (.int (3 : Int32)), (.int (((p1.toUInt32 >>> ((3 : Int32) &&& 31).toUInt32).toInt32) &&& (3 : Int32)))])) (OEndW s Z consts_1 (fun v h L => v = some (.int (1 : Int32)) ∧ Fr n0 L) room_1.cells room_1.slots)
  refine OGo.step (fun _ kk => XS.lloadN X329.here hx rfl (hb hby at_58) rfl kk) ?_
  show OGo p e below (T329.setTop (mkF m 59 #[.val (.int p1), .val (.long j1), .second, .val (.int (p1 &&& (7 : Int32))), .val (.int (((p1.toUInt32 >>> ((3 : Int32) &&& 31).toUInt32).toInt32) &&& (3 : Int32))), .val (.int (((p1.toUInt32 >>> ((5 : Int32) &&& 31).toUInt32).toInt32) &&& (127 : Int32))), .val (.int c0_), .val (.int c1_), .val (.int c2_), .unset, .unset, .unset, .unset, .unset, .unset, .unset] [(.long j1), (.int (((p1.toUInt32 >>> ((5 : Int32) &&& 31).toUInt32).toInt32) &&& (127 : Int32))), (.int (3 : Int32)), (.int (((p1.toUInt32 >>> ((3 : Int32) &&& 31).toUInt32).toInt32) &&& (3 : Int32)))])) (OEndW s Z consts_1 (fun v h L => v = some (.int (1 : Int32)) ∧ Fr n0 L) room_1.cells room_1.slots)
  have xt330 := (own_ext_trans xt326 Xe329)
  have fx331 := SC.ext xt330
  have fx332 := SF.ext xt330
  refine own_callSW X329 hx hZ (y := (⟨"com/example/tenantd/tenantd/PermissionOfTextPinLaw", "ch", "(IIIJ)C"⟩ : MethodName)) hown (hw _ (List.mem_of_getElem? (i := 0) rfl)) (hw _ (List.mem_of_getElem? (i := 1) rfl)) (hw _ (List.mem_of_getElem? (i := 2) rfl)) (hw _ (List.mem_of_getElem? (i := 3) rfl)) (by decide) hEL OW329 (W := 0) (own_ch l Z a0 hw [] (((p1.toUInt32 >>> ((3 : Int32) &&& 31).toUInt32).toInt32) &&& (3 : Int32)) (((p1.toUInt32 >>> ((5 : Int32) &&& 31).toUInt32).toInt32) &&& (127 : Int32)) zc 3 j1 fm T329.heap n0 sz329 fx331 hzc fx332 hfm (by decide)) rfl  (pc := 59) (Ls := #[.val (.int p1), .val (.long j1), .second, .val (.int (p1 &&& (7 : Int32))), .val (.int (((p1.toUInt32 >>> ((3 : Int32) &&& 31).toUInt32).toInt32) &&& (3 : Int32))), .val (.int (((p1.toUInt32 >>> ((5 : Int32) &&& 31).toUInt32).toInt32) &&& (127 : Int32))), .val (.int c0_), .val (.int c1_), .val (.int c2_), .unset, .unset, .unset, .unset, .unset, .unset, .unset]) (argsL := [(.int (((p1.toUInt32 >>> ((3 : Int32) &&& 31).toUInt32).toInt32) &&& (3 : Int32))), (.int (3 : Int32)), (.int (((p1.toUInt32 >>> ((5 : Int32) &&& 31).toUInt32).toInt32) &&& (127 : Int32))), (.long j1)]) (rest := []) (by rw [hml]; rfl) (lenOf own_pd7 rfl) rfl (hb hby at_59) (by decide) (by decide) (by decide) (by decide) ?_
  intro v333 T333 L333 X333 hQ333 OW333 hZ hown CH333
  obtain ⟨c3_, rfl, N333, Xe333, hb3⟩ := hQ333
  show OGo p e below (T333.setTop (mkF m 62 #[.val (.int p1), .val (.long j1), .second, .val (.int (p1 &&& (7 : Int32))), .val (.int (((p1.toUInt32 >>> ((3 : Int32) &&& 31).toUInt32).toInt32) &&& (3 : Int32))), .val (.int (((p1.toUInt32 >>> ((5 : Int32) &&& 31).toUInt32).toInt32) &&& (127 : Int32))), .val (.int c0_), .val (.int c1_), .val (.int c2_), .unset, .unset, .unset, .unset, .unset, .unset, .unset] [(.int c3_)])) (OEndW s Z consts_1 (fun v h L => v = some (.int (1 : Int32)) ∧ Fr n0 L) room_1.cells room_1.slots)
  have Nc333 := Fr.app Nc329 N333
  have sz333 : n0 ≤ T333.heap.size := Nat.le_trans sz329 Xe333.1
  refine OGo.step (fun _ kk => XS.istore X333.here hx rfl (hb hby at_62) rfl (l' := #[.val (.int p1), .val (.long j1), .second, .val (.int (p1 &&& (7 : Int32))), .val (.int (((p1.toUInt32 >>> ((3 : Int32) &&& 31).toUInt32).toInt32) &&& (3 : Int32))), .val (.int (((p1.toUInt32 >>> ((5 : Int32) &&& 31).toUInt32).toInt32) &&& (127 : Int32))), .val (.int c0_), .val (.int c1_), .val (.int c2_), .val (.int c3_), .unset, .unset, .unset, .unset, .unset, .unset]) rfl kk) ?_
  show OGo p e below (T333.setTop (mkF m 64 #[.val (.int p1), .val (.long j1), .second, .val (.int (p1 &&& (7 : Int32))), .val (.int (((p1.toUInt32 >>> ((3 : Int32) &&& 31).toUInt32).toInt32) &&& (3 : Int32))), .val (.int (((p1.toUInt32 >>> ((5 : Int32) &&& 31).toUInt32).toInt32) &&& (127 : Int32))), .val (.int c0_), .val (.int c1_), .val (.int c2_), .val (.int c3_), .unset, .unset, .unset, .unset, .unset, .unset] [])) (OEndW s Z consts_1 (fun v h L => v = some (.int (1 : Int32)) ∧ Fr n0 L) room_1.cells room_1.slots)
  refine OGo.step (fun _ kk => XS.iload X333.here hx rfl (hb hby at_64) rfl kk) ?_
  show OGo p e below (T333.setTop (mkF m 66 #[.val (.int p1), .val (.long j1), .second, .val (.int (p1 &&& (7 : Int32))), .val (.int (((p1.toUInt32 >>> ((3 : Int32) &&& 31).toUInt32).toInt32) &&& (3 : Int32))), .val (.int (((p1.toUInt32 >>> ((5 : Int32) &&& 31).toUInt32).toInt32) &&& (127 : Int32))), .val (.int c0_), .val (.int c1_), .val (.int c2_), .val (.int c3_), .unset, .unset, .unset, .unset, .unset, .unset] [(.int (((p1.toUInt32 >>> ((3 : Int32) &&& 31).toUInt32).toInt32) &&& (3 : Int32)))])) (OEndW s Z consts_1 (fun v h L => v = some (.int (1 : Int32)) ∧ Fr n0 L) room_1.cells room_1.slots)
  refine OGo.step (fun _ kk => XS.iconst X333.here hx rfl (hb hby at_66) kk) ?_
  show OGo p e below (T333.setTop (mkF m 67 #[.val (.int p1), .val (.long j1), .second, .val (.int (p1 &&& (7 : Int32))), .val (.int (((p1.toUInt32 >>> ((3 : Int32) &&& 31).toUInt32).toInt32) &&& (3 : Int32))), .val (.int (((p1.toUInt32 >>> ((5 : Int32) &&& 31).toUInt32).toInt32) &&& (127 : Int32))), .val (.int c0_), .val (.int c1_), .val (.int c2_), .val (.int c3_), .unset, .unset, .unset, .unset, .unset, .unset] [(.int (4 : Int32)), (.int (((p1.toUInt32 >>> ((3 : Int32) &&& 31).toUInt32).toInt32) &&& (3 : Int32)))])) (OEndW s Z consts_1 (fun v h L => v = some (.int (1 : Int32)) ∧ Fr n0 L) room_1.cells room_1.slots)
  refine OGo.step (fun _ kk => XS.iload X333.here hx rfl (hb hby at_67) rfl kk) ?_
  show OGo p e below (T333.setTop (mkF m 69 #[.val (.int p1), .val (.long j1), .second, .val (.int (p1 &&& (7 : Int32))), .val (.int (((p1.toUInt32 >>> ((3 : Int32) &&& 31).toUInt32).toInt32) &&& (3 : Int32))), .val (.int (((p1.toUInt32 >>> ((5 : Int32) &&& 31).toUInt32).toInt32) &&& (127 : Int32))), .val (.int c0_), .val (.int c1_), .val (.int c2_), .val (.int c3_), .unset, .unset, .unset, .unset, .unset, .unset] [(.int (((p1.toUInt32 >>> ((5 : Int32) &&& 31).toUInt32).toInt32) &&& (127 : Int32))), (.int (4 : Int32)), (.int (((p1.toUInt32 >>> ((3 : Int32) &&& 31).toUInt32).toInt32) &&& (3 : Int32)))])) (OEndW s Z consts_1 (fun v h L => v = some (.int (1 : Int32)) ∧ Fr n0 L) room_1.cells room_1.slots)
  refine OGo.step (fun _ kk => XS.lloadN X333.here hx rfl (hb hby at_69) rfl kk) ?_
  show OGo p e below (T333.setTop (mkF m 70 #[.val (.int p1), .val (.long j1), .second, .val (.int (p1 &&& (7 : Int32))), .val (.int (((p1.toUInt32 >>> ((3 : Int32) &&& 31).toUInt32).toInt32) &&& (3 : Int32))), .val (.int (((p1.toUInt32 >>> ((5 : Int32) &&& 31).toUInt32).toInt32) &&& (127 : Int32))), .val (.int c0_), .val (.int c1_), .val (.int c2_), .val (.int c3_), .unset, .unset, .unset, .unset, .unset, .unset] [(.long j1), (.int (((p1.toUInt32 >>> ((5 : Int32) &&& 31).toUInt32).toInt32) &&& (127 : Int32))), (.int (4 : Int32)), (.int (((p1.toUInt32 >>> ((3 : Int32) &&& 31).toUInt32).toInt32) &&& (3 : Int32)))])) (OEndW s Z consts_1 (fun v h L => v = some (.int (1 : Int32)) ∧ Fr n0 L) room_1.cells room_1.slots)
  have xt334 := (own_ext_trans xt330 Xe333)
  have fx335 := SC.ext xt334
  have fx336 := SF.ext xt334
  refine own_callSW X333 hx hZ (y := (⟨"com/example/tenantd/tenantd/PermissionOfTextPinLaw", "ch", "(IIIJ)C"⟩ : MethodName)) hown (hw _ (List.mem_of_getElem? (i := 0) rfl)) (hw _ (List.mem_of_getElem? (i := 1) rfl)) (hw _ (List.mem_of_getElem? (i := 2) rfl)) (hw _ (List.mem_of_getElem? (i := 3) rfl)) (by decide) hEL OW333 (W := 0) (own_ch l Z a0 hw [] (((p1.toUInt32 >>> ((3 : Int32) &&& 31).toUInt32).toInt32) &&& (3 : Int32)) (((p1.toUInt32 >>> ((5 : Int32) &&& 31).toUInt32).toInt32) &&& (127 : Int32)) zc 4 j1 fm T333.heap n0 sz333 fx335 hzc fx336 hfm (by decide)) rfl  (pc := 70) (Ls := #[.val (.int p1), .val (.long j1), .second, .val (.int (p1 &&& (7 : Int32))), .val (.int (((p1.toUInt32 >>> ((3 : Int32) &&& 31).toUInt32).toInt32) &&& (3 : Int32))), .val (.int (((p1.toUInt32 >>> ((5 : Int32) &&& 31).toUInt32).toInt32) &&& (127 : Int32))), .val (.int c0_), .val (.int c1_), .val (.int c2_), .val (.int c3_), .unset, .unset, .unset, .unset, .unset, .unset]) (argsL := [(.int (((p1.toUInt32 >>> ((3 : Int32) &&& 31).toUInt32).toInt32) &&& (3 : Int32))), (.int (4 : Int32)), (.int (((p1.toUInt32 >>> ((5 : Int32) &&& 31).toUInt32).toInt32) &&& (127 : Int32))), (.long j1)]) (rest := []) (by rw [hml]; rfl) (lenOf own_pd7 rfl) rfl (hb hby at_70) (by decide) (by decide) (by decide) (by decide) ?_
  intro v337 T337 L337 X337 hQ337 OW337 hZ hown CH337
  obtain ⟨c4_, rfl, N337, Xe337, hb4⟩ := hQ337
  show OGo p e below (T337.setTop (mkF m 73 #[.val (.int p1), .val (.long j1), .second, .val (.int (p1 &&& (7 : Int32))), .val (.int (((p1.toUInt32 >>> ((3 : Int32) &&& 31).toUInt32).toInt32) &&& (3 : Int32))), .val (.int (((p1.toUInt32 >>> ((5 : Int32) &&& 31).toUInt32).toInt32) &&& (127 : Int32))), .val (.int c0_), .val (.int c1_), .val (.int c2_), .val (.int c3_), .unset, .unset, .unset, .unset, .unset, .unset] [(.int c4_)])) (OEndW s Z consts_1 (fun v h L => v = some (.int (1 : Int32)) ∧ Fr n0 L) room_1.cells room_1.slots)
  have Nc337 := Fr.app Nc333 N337
  have sz337 : n0 ≤ T337.heap.size := Nat.le_trans sz333 Xe337.1
  refine OGo.step (fun _ kk => XS.istore X337.here hx rfl (hb hby at_73) rfl (l' := #[.val (.int p1), .val (.long j1), .second, .val (.int (p1 &&& (7 : Int32))), .val (.int (((p1.toUInt32 >>> ((3 : Int32) &&& 31).toUInt32).toInt32) &&& (3 : Int32))), .val (.int (((p1.toUInt32 >>> ((5 : Int32) &&& 31).toUInt32).toInt32) &&& (127 : Int32))), .val (.int c0_), .val (.int c1_), .val (.int c2_), .val (.int c3_), .val (.int c4_), .unset, .unset, .unset, .unset, .unset]) rfl kk) ?_
  show OGo p e below (T337.setTop (mkF m 75 #[.val (.int p1), .val (.long j1), .second, .val (.int (p1 &&& (7 : Int32))), .val (.int (((p1.toUInt32 >>> ((3 : Int32) &&& 31).toUInt32).toInt32) &&& (3 : Int32))), .val (.int (((p1.toUInt32 >>> ((5 : Int32) &&& 31).toUInt32).toInt32) &&& (127 : Int32))), .val (.int c0_), .val (.int c1_), .val (.int c2_), .val (.int c3_), .val (.int c4_), .unset, .unset, .unset, .unset, .unset] [])) (OEndW s Z consts_1 (fun v h L => v = some (.int (1 : Int32)) ∧ Fr n0 L) room_1.cells room_1.slots)
  refine OGo.step (fun _ kk => XS.iload X337.here hx rfl (hb hby at_75) rfl kk) ?_
  show OGo p e below (T337.setTop (mkF m 77 #[.val (.int p1), .val (.long j1), .second, .val (.int (p1 &&& (7 : Int32))), .val (.int (((p1.toUInt32 >>> ((3 : Int32) &&& 31).toUInt32).toInt32) &&& (3 : Int32))), .val (.int (((p1.toUInt32 >>> ((5 : Int32) &&& 31).toUInt32).toInt32) &&& (127 : Int32))), .val (.int c0_), .val (.int c1_), .val (.int c2_), .val (.int c3_), .val (.int c4_), .unset, .unset, .unset, .unset, .unset] [(.int (((p1.toUInt32 >>> ((3 : Int32) &&& 31).toUInt32).toInt32) &&& (3 : Int32)))])) (OEndW s Z consts_1 (fun v h L => v = some (.int (1 : Int32)) ∧ Fr n0 L) room_1.cells room_1.slots)
  refine OGo.step (fun _ kk => XS.iconst X337.here hx rfl (hb hby at_77) kk) ?_
  show OGo p e below (T337.setTop (mkF m 78 #[.val (.int p1), .val (.long j1), .second, .val (.int (p1 &&& (7 : Int32))), .val (.int (((p1.toUInt32 >>> ((3 : Int32) &&& 31).toUInt32).toInt32) &&& (3 : Int32))), .val (.int (((p1.toUInt32 >>> ((5 : Int32) &&& 31).toUInt32).toInt32) &&& (127 : Int32))), .val (.int c0_), .val (.int c1_), .val (.int c2_), .val (.int c3_), .val (.int c4_), .unset, .unset, .unset, .unset, .unset] [(.int (5 : Int32)), (.int (((p1.toUInt32 >>> ((3 : Int32) &&& 31).toUInt32).toInt32) &&& (3 : Int32)))])) (OEndW s Z consts_1 (fun v h L => v = some (.int (1 : Int32)) ∧ Fr n0 L) room_1.cells room_1.slots)
  refine OGo.step (fun _ kk => XS.iload X337.here hx rfl (hb hby at_78) rfl kk) ?_
  show OGo p e below (T337.setTop (mkF m 80 #[.val (.int p1), .val (.long j1), .second, .val (.int (p1 &&& (7 : Int32))), .val (.int (((p1.toUInt32 >>> ((3 : Int32) &&& 31).toUInt32).toInt32) &&& (3 : Int32))), .val (.int (((p1.toUInt32 >>> ((5 : Int32) &&& 31).toUInt32).toInt32) &&& (127 : Int32))), .val (.int c0_), .val (.int c1_), .val (.int c2_), .val (.int c3_), .val (.int c4_), .unset, .unset, .unset, .unset, .unset] [(.int (((p1.toUInt32 >>> ((5 : Int32) &&& 31).toUInt32).toInt32) &&& (127 : Int32))), (.int (5 : Int32)), (.int (((p1.toUInt32 >>> ((3 : Int32) &&& 31).toUInt32).toInt32) &&& (3 : Int32)))])) (OEndW s Z consts_1 (fun v h L => v = some (.int (1 : Int32)) ∧ Fr n0 L) room_1.cells room_1.slots)
  refine OGo.step (fun _ kk => XS.lloadN X337.here hx rfl (hb hby at_80) rfl kk) ?_
  show OGo p e below (T337.setTop (mkF m 81 #[.val (.int p1), .val (.long j1), .second, .val (.int (p1 &&& (7 : Int32))), .val (.int (((p1.toUInt32 >>> ((3 : Int32) &&& 31).toUInt32).toInt32) &&& (3 : Int32))), .val (.int (((p1.toUInt32 >>> ((5 : Int32) &&& 31).toUInt32).toInt32) &&& (127 : Int32))), .val (.int c0_), .val (.int c1_), .val (.int c2_), .val (.int c3_), .val (.int c4_), .unset, .unset, .unset, .unset, .unset] [(.long j1), (.int (((p1.toUInt32 >>> ((5 : Int32) &&& 31).toUInt32).toInt32) &&& (127 : Int32))), (.int (5 : Int32)), (.int (((p1.toUInt32 >>> ((3 : Int32) &&& 31).toUInt32).toInt32) &&& (3 : Int32)))])) (OEndW s Z consts_1 (fun v h L => v = some (.int (1 : Int32)) ∧ Fr n0 L) room_1.cells room_1.slots)
  have xt338 := (own_ext_trans xt334 Xe337)
  have fx339 := SC.ext xt338
  have fx340 := SF.ext xt338
  refine own_callSW X337 hx hZ (y := (⟨"com/example/tenantd/tenantd/PermissionOfTextPinLaw", "ch", "(IIIJ)C"⟩ : MethodName)) hown (hw _ (List.mem_of_getElem? (i := 0) rfl)) (hw _ (List.mem_of_getElem? (i := 1) rfl)) (hw _ (List.mem_of_getElem? (i := 2) rfl)) (hw _ (List.mem_of_getElem? (i := 3) rfl)) (by decide) hEL OW337 (W := 0) (own_ch l Z a0 hw [] (((p1.toUInt32 >>> ((3 : Int32) &&& 31).toUInt32).toInt32) &&& (3 : Int32)) (((p1.toUInt32 >>> ((5 : Int32) &&& 31).toUInt32).toInt32) &&& (127 : Int32)) zc 5 j1 fm T337.heap n0 sz337 fx339 hzc fx340 hfm (by decide)) rfl  (pc := 81) (Ls := #[.val (.int p1), .val (.long j1), .second, .val (.int (p1 &&& (7 : Int32))), .val (.int (((p1.toUInt32 >>> ((3 : Int32) &&& 31).toUInt32).toInt32) &&& (3 : Int32))), .val (.int (((p1.toUInt32 >>> ((5 : Int32) &&& 31).toUInt32).toInt32) &&& (127 : Int32))), .val (.int c0_), .val (.int c1_), .val (.int c2_), .val (.int c3_), .val (.int c4_), .unset, .unset, .unset, .unset, .unset]) (argsL := [(.int (((p1.toUInt32 >>> ((3 : Int32) &&& 31).toUInt32).toInt32) &&& (3 : Int32))), (.int (5 : Int32)), (.int (((p1.toUInt32 >>> ((5 : Int32) &&& 31).toUInt32).toInt32) &&& (127 : Int32))), (.long j1)]) (rest := []) (by rw [hml]; rfl) (lenOf own_pd7 rfl) rfl (hb hby at_81) (by decide) (by decide) (by decide) (by decide) ?_
  intro v341 T341 L341 X341 hQ341 OW341 hZ hown CH341
  obtain ⟨c5_, rfl, N341, Xe341, hb5⟩ := hQ341
  show OGo p e below (T341.setTop (mkF m 84 #[.val (.int p1), .val (.long j1), .second, .val (.int (p1 &&& (7 : Int32))), .val (.int (((p1.toUInt32 >>> ((3 : Int32) &&& 31).toUInt32).toInt32) &&& (3 : Int32))), .val (.int (((p1.toUInt32 >>> ((5 : Int32) &&& 31).toUInt32).toInt32) &&& (127 : Int32))), .val (.int c0_), .val (.int c1_), .val (.int c2_), .val (.int c3_), .val (.int c4_), .unset, .unset, .unset, .unset, .unset] [(.int c5_)])) (OEndW s Z consts_1 (fun v h L => v = some (.int (1 : Int32)) ∧ Fr n0 L) room_1.cells room_1.slots)
  have Nc341 := Fr.app Nc337 N341
  have sz341 : n0 ≤ T341.heap.size := Nat.le_trans sz337 Xe341.1
  refine OGo.step (fun _ kk => XS.istore X341.here hx rfl (hb hby at_84) rfl (l' := #[.val (.int p1), .val (.long j1), .second, .val (.int (p1 &&& (7 : Int32))), .val (.int (((p1.toUInt32 >>> ((3 : Int32) &&& 31).toUInt32).toInt32) &&& (3 : Int32))), .val (.int (((p1.toUInt32 >>> ((5 : Int32) &&& 31).toUInt32).toInt32) &&& (127 : Int32))), .val (.int c0_), .val (.int c1_), .val (.int c2_), .val (.int c3_), .val (.int c4_), .val (.int c5_), .unset, .unset, .unset, .unset]) rfl kk) ?_
  show OGo p e below (T341.setTop (mkF m 86 #[.val (.int p1), .val (.long j1), .second, .val (.int (p1 &&& (7 : Int32))), .val (.int (((p1.toUInt32 >>> ((3 : Int32) &&& 31).toUInt32).toInt32) &&& (3 : Int32))), .val (.int (((p1.toUInt32 >>> ((5 : Int32) &&& 31).toUInt32).toInt32) &&& (127 : Int32))), .val (.int c0_), .val (.int c1_), .val (.int c2_), .val (.int c3_), .val (.int c4_), .val (.int c5_), .unset, .unset, .unset, .unset] [])) (OEndW s Z consts_1 (fun v h L => v = some (.int (1 : Int32)) ∧ Fr n0 L) room_1.cells room_1.slots)
  refine OGo.step (fun _ kk => XS.iload X341.here hx rfl (hb hby at_86) rfl kk) ?_
  show OGo p e below (T341.setTop (mkF m 88 #[.val (.int p1), .val (.long j1), .second, .val (.int (p1 &&& (7 : Int32))), .val (.int (((p1.toUInt32 >>> ((3 : Int32) &&& 31).toUInt32).toInt32) &&& (3 : Int32))), .val (.int (((p1.toUInt32 >>> ((5 : Int32) &&& 31).toUInt32).toInt32) &&& (127 : Int32))), .val (.int c0_), .val (.int c1_), .val (.int c2_), .val (.int c3_), .val (.int c4_), .val (.int c5_), .unset, .unset, .unset, .unset] [(.int (((p1.toUInt32 >>> ((3 : Int32) &&& 31).toUInt32).toInt32) &&& (3 : Int32)))])) (OEndW s Z consts_1 (fun v h L => v = some (.int (1 : Int32)) ∧ Fr n0 L) room_1.cells room_1.slots)
  refine OGo.step (fun _ kk => XS.bipush X341.here hx rfl (hb hby at_88) kk) ?_
  show OGo p e below (T341.setTop (mkF m 90 #[.val (.int p1), .val (.long j1), .second, .val (.int (p1 &&& (7 : Int32))), .val (.int (((p1.toUInt32 >>> ((3 : Int32) &&& 31).toUInt32).toInt32) &&& (3 : Int32))), .val (.int (((p1.toUInt32 >>> ((5 : Int32) &&& 31).toUInt32).toInt32) &&& (127 : Int32))), .val (.int c0_), .val (.int c1_), .val (.int c2_), .val (.int c3_), .val (.int c4_), .val (.int c5_), .unset, .unset, .unset, .unset] [(.int (6 : Int32)), (.int (((p1.toUInt32 >>> ((3 : Int32) &&& 31).toUInt32).toInt32) &&& (3 : Int32)))])) (OEndW s Z consts_1 (fun v h L => v = some (.int (1 : Int32)) ∧ Fr n0 L) room_1.cells room_1.slots)
  refine OGo.step (fun _ kk => XS.iload X341.here hx rfl (hb hby at_90) rfl kk) ?_
  show OGo p e below (T341.setTop (mkF m 92 #[.val (.int p1), .val (.long j1), .second, .val (.int (p1 &&& (7 : Int32))), .val (.int (((p1.toUInt32 >>> ((3 : Int32) &&& 31).toUInt32).toInt32) &&& (3 : Int32))), .val (.int (((p1.toUInt32 >>> ((5 : Int32) &&& 31).toUInt32).toInt32) &&& (127 : Int32))), .val (.int c0_), .val (.int c1_), .val (.int c2_), .val (.int c3_), .val (.int c4_), .val (.int c5_), .unset, .unset, .unset, .unset] [(.int (((p1.toUInt32 >>> ((5 : Int32) &&& 31).toUInt32).toInt32) &&& (127 : Int32))), (.int (6 : Int32)), (.int (((p1.toUInt32 >>> ((3 : Int32) &&& 31).toUInt32).toInt32) &&& (3 : Int32)))])) (OEndW s Z consts_1 (fun v h L => v = some (.int (1 : Int32)) ∧ Fr n0 L) room_1.cells room_1.slots)
  refine OGo.step (fun _ kk => XS.lloadN X341.here hx rfl (hb hby at_92) rfl kk) ?_
  show OGo p e below (T341.setTop (mkF m 93 #[.val (.int p1), .val (.long j1), .second, .val (.int (p1 &&& (7 : Int32))), .val (.int (((p1.toUInt32 >>> ((3 : Int32) &&& 31).toUInt32).toInt32) &&& (3 : Int32))), .val (.int (((p1.toUInt32 >>> ((5 : Int32) &&& 31).toUInt32).toInt32) &&& (127 : Int32))), .val (.int c0_), .val (.int c1_), .val (.int c2_), .val (.int c3_), .val (.int c4_), .val (.int c5_), .unset, .unset, .unset, .unset] [(.long j1), (.int (((p1.toUInt32 >>> ((5 : Int32) &&& 31).toUInt32).toInt32) &&& (127 : Int32))), (.int (6 : Int32)), (.int (((p1.toUInt32 >>> ((3 : Int32) &&& 31).toUInt32).toInt32) &&& (3 : Int32)))])) (OEndW s Z consts_1 (fun v h L => v = some (.int (1 : Int32)) ∧ Fr n0 L) room_1.cells room_1.slots)
  have xt342 := (own_ext_trans xt338 Xe341)
  have fx343 := SC.ext xt342
  have fx344 := SF.ext xt342
  refine own_callSW X341 hx hZ (y := (⟨"com/example/tenantd/tenantd/PermissionOfTextPinLaw", "ch", "(IIIJ)C"⟩ : MethodName)) hown (hw _ (List.mem_of_getElem? (i := 0) rfl)) (hw _ (List.mem_of_getElem? (i := 1) rfl)) (hw _ (List.mem_of_getElem? (i := 2) rfl)) (hw _ (List.mem_of_getElem? (i := 3) rfl)) (by decide) hEL OW341 (W := 0) (own_ch l Z a0 hw [] (((p1.toUInt32 >>> ((3 : Int32) &&& 31).toUInt32).toInt32) &&& (3 : Int32)) (((p1.toUInt32 >>> ((5 : Int32) &&& 31).toUInt32).toInt32) &&& (127 : Int32)) zc 6 j1 fm T341.heap n0 sz341 fx343 hzc fx344 hfm (by decide)) rfl  (pc := 93) (Ls := #[.val (.int p1), .val (.long j1), .second, .val (.int (p1 &&& (7 : Int32))), .val (.int (((p1.toUInt32 >>> ((3 : Int32) &&& 31).toUInt32).toInt32) &&& (3 : Int32))), .val (.int (((p1.toUInt32 >>> ((5 : Int32) &&& 31).toUInt32).toInt32) &&& (127 : Int32))), .val (.int c0_), .val (.int c1_), .val (.int c2_), .val (.int c3_), .val (.int c4_), .val (.int c5_), .unset, .unset, .unset, .unset]) (argsL := [(.int (((p1.toUInt32 >>> ((3 : Int32) &&& 31).toUInt32).toInt32) &&& (3 : Int32))), (.int (6 : Int32)), (.int (((p1.toUInt32 >>> ((5 : Int32) &&& 31).toUInt32).toInt32) &&& (127 : Int32))), (.long j1)]) (rest := []) (by rw [hml]; rfl) (lenOf own_pd7 rfl) rfl (hb hby at_93) (by decide) (by decide) (by decide) (by decide) ?_
  intro v345 T345 L345 X345 hQ345 OW345 hZ hown CH345
  obtain ⟨c6_, rfl, N345, Xe345, hb6⟩ := hQ345
  show OGo p e below (T345.setTop (mkF m 96 #[.val (.int p1), .val (.long j1), .second, .val (.int (p1 &&& (7 : Int32))), .val (.int (((p1.toUInt32 >>> ((3 : Int32) &&& 31).toUInt32).toInt32) &&& (3 : Int32))), .val (.int (((p1.toUInt32 >>> ((5 : Int32) &&& 31).toUInt32).toInt32) &&& (127 : Int32))), .val (.int c0_), .val (.int c1_), .val (.int c2_), .val (.int c3_), .val (.int c4_), .val (.int c5_), .unset, .unset, .unset, .unset] [(.int c6_)])) (OEndW s Z consts_1 (fun v h L => v = some (.int (1 : Int32)) ∧ Fr n0 L) room_1.cells room_1.slots)
  have Nc345 := Fr.app Nc341 N345
  have sz345 : n0 ≤ T345.heap.size := Nat.le_trans sz341 Xe345.1
  refine OGo.step (fun _ kk => XS.istore X345.here hx rfl (hb hby at_96) rfl (l' := #[.val (.int p1), .val (.long j1), .second, .val (.int (p1 &&& (7 : Int32))), .val (.int (((p1.toUInt32 >>> ((3 : Int32) &&& 31).toUInt32).toInt32) &&& (3 : Int32))), .val (.int (((p1.toUInt32 >>> ((5 : Int32) &&& 31).toUInt32).toInt32) &&& (127 : Int32))), .val (.int c0_), .val (.int c1_), .val (.int c2_), .val (.int c3_), .val (.int c4_), .val (.int c5_), .val (.int c6_), .unset, .unset, .unset]) rfl kk) ?_
  show OGo p e below (T345.setTop (mkF m 98 #[.val (.int p1), .val (.long j1), .second, .val (.int (p1 &&& (7 : Int32))), .val (.int (((p1.toUInt32 >>> ((3 : Int32) &&& 31).toUInt32).toInt32) &&& (3 : Int32))), .val (.int (((p1.toUInt32 >>> ((5 : Int32) &&& 31).toUInt32).toInt32) &&& (127 : Int32))), .val (.int c0_), .val (.int c1_), .val (.int c2_), .val (.int c3_), .val (.int c4_), .val (.int c5_), .val (.int c6_), .unset, .unset, .unset] [])) (OEndW s Z consts_1 (fun v h L => v = some (.int (1 : Int32)) ∧ Fr n0 L) room_1.cells room_1.slots)
  refine OGo.step (fun _ kk => XS.aconstNull X345.here hx rfl (hb hby at_98) kk) ?_
  show OGo p e below (T345.setTop (mkF m 99 #[.val (.int p1), .val (.long j1), .second, .val (.int (p1 &&& (7 : Int32))), .val (.int (((p1.toUInt32 >>> ((3 : Int32) &&& 31).toUInt32).toInt32) &&& (3 : Int32))), .val (.int (((p1.toUInt32 >>> ((5 : Int32) &&& 31).toUInt32).toInt32) &&& (127 : Int32))), .val (.int c0_), .val (.int c1_), .val (.int c2_), .val (.int c3_), .val (.int c4_), .val (.int c5_), .val (.int c6_), .unset, .unset, .unset] [.null])) (OEndW s Z consts_1 (fun v h L => v = some (.int (1 : Int32)) ∧ Fr n0 L) room_1.cells room_1.slots)
  refine OGo.step (fun _ kk => XS.astore X345.here hx rfl (hb hby at_99) rfl rfl (l' := #[.val (.int p1), .val (.long j1), .second, .val (.int (p1 &&& (7 : Int32))), .val (.int (((p1.toUInt32 >>> ((3 : Int32) &&& 31).toUInt32).toInt32) &&& (3 : Int32))), .val (.int (((p1.toUInt32 >>> ((5 : Int32) &&& 31).toUInt32).toInt32) &&& (127 : Int32))), .val (.int c0_), .val (.int c1_), .val (.int c2_), .val (.int c3_), .val (.int c4_), .val (.int c5_), .val (.int c6_), .val .null, .unset, .unset]) rfl kk) ?_
  show OGo p e below (T345.setTop (mkF m 101 #[.val (.int p1), .val (.long j1), .second, .val (.int (p1 &&& (7 : Int32))), .val (.int (((p1.toUInt32 >>> ((3 : Int32) &&& 31).toUInt32).toInt32) &&& (3 : Int32))), .val (.int (((p1.toUInt32 >>> ((5 : Int32) &&& 31).toUInt32).toInt32) &&& (127 : Int32))), .val (.int c0_), .val (.int c1_), .val (.int c2_), .val (.int c3_), .val (.int c4_), .val (.int c5_), .val (.int c6_), .val .null, .unset, .unset] [])) (OEndW s Z consts_1 (fun v h L => v = some (.int (1 : Int32)) ∧ Fr n0 L) room_1.cells room_1.slots)
  refine OGo.step (fun _ kk => XS.iload X345.here hx rfl (hb hby at_101) rfl kk) ?_
  show OGo p e below (T345.setTop (mkF m 103 #[.val (.int p1), .val (.long j1), .second, .val (.int (p1 &&& (7 : Int32))), .val (.int (((p1.toUInt32 >>> ((3 : Int32) &&& 31).toUInt32).toInt32) &&& (3 : Int32))), .val (.int (((p1.toUInt32 >>> ((5 : Int32) &&& 31).toUInt32).toInt32) &&& (127 : Int32))), .val (.int c0_), .val (.int c1_), .val (.int c2_), .val (.int c3_), .val (.int c4_), .val (.int c5_), .val (.int c6_), .val .null, .unset, .unset] [(.int (((p1.toUInt32 >>> ((3 : Int32) &&& 31).toUInt32).toInt32) &&& (3 : Int32)))])) (OEndW s Z consts_1 (fun v h L => v = some (.int (1 : Int32)) ∧ Fr n0 L) room_1.cells room_1.slots)
  refine OGo.step (fun _ kk => XS.iconst X345.here hx rfl (hb hby at_103) kk) ?_
  show OGo p e below (T345.setTop (mkF m 104 #[.val (.int p1), .val (.long j1), .second, .val (.int (p1 &&& (7 : Int32))), .val (.int (((p1.toUInt32 >>> ((3 : Int32) &&& 31).toUInt32).toInt32) &&& (3 : Int32))), .val (.int (((p1.toUInt32 >>> ((5 : Int32) &&& 31).toUInt32).toInt32) &&& (127 : Int32))), .val (.int c0_), .val (.int c1_), .val (.int c2_), .val (.int c3_), .val (.int c4_), .val (.int c5_), .val (.int c6_), .val .null, .unset, .unset] [(.int (3 : Int32)), (.int (((p1.toUInt32 >>> ((3 : Int32) &&& 31).toUInt32).toInt32) &&& (3 : Int32)))])) (OEndW s Z consts_1 (fun v h L => v = some (.int (1 : Int32)) ∧ Fr n0 L) room_1.cells room_1.slots)
  by_cases hk3 : (((p1.toUInt32 >>> ((3 : Int32) &&& 31).toUInt32).toInt32) &&& (3 : Int32)) = (3 : Int32)
  · refine OGo.step (fun _ kk => XS.icmpYes X345.here hx rfl (pc0 := 104) (pc' := 127) rfl (hb hby at_104) rfl (teq hk3).1 (by decide) (by decide) kk) ?_
    show OGo p e below (T345.setTop (mkF m 127 #[.val (.int p1), .val (.long j1), .second, .val (.int (p1 &&& (7 : Int32))), .val (.int (((p1.toUInt32 >>> ((3 : Int32) &&& 31).toUInt32).toInt32) &&& (3 : Int32))), .val (.int (((p1.toUInt32 >>> ((5 : Int32) &&& 31).toUInt32).toInt32) &&& (127 : Int32))), .val (.int c0_), .val (.int c1_), .val (.int c2_), .val (.int c3_), .val (.int c4_), .val (.int c5_), .val (.int c6_), .val .null, .unset, .unset] [])) (OEndW s Z consts_1 (fun v h L => v = some (.int (1 : Int32)) ∧ Fr n0 L) room_1.cells room_1.slots)
    refine OGo.step (fun _ kk => XS.aconstNull X345.here hx rfl (hb hby at_127) kk) ?_
    show OGo p e below (T345.setTop (mkF m 128 #[.val (.int p1), .val (.long j1), .second, .val (.int (p1 &&& (7 : Int32))), .val (.int (((p1.toUInt32 >>> ((3 : Int32) &&& 31).toUInt32).toInt32) &&& (3 : Int32))), .val (.int (((p1.toUInt32 >>> ((5 : Int32) &&& 31).toUInt32).toInt32) &&& (127 : Int32))), .val (.int c0_), .val (.int c1_), .val (.int c2_), .val (.int c3_), .val (.int c4_), .val (.int c5_), .val (.int c6_), .val .null, .unset, .unset] [.null])) (OEndW s Z consts_1 (fun v h L => v = some (.int (1 : Int32)) ∧ Fr n0 L) room_1.cells room_1.slots)
    refine OGo.step (fun _ kk => XS.astore X345.here hx rfl (hb hby at_128) rfl rfl (l' := #[.val (.int p1), .val (.long j1), .second, .val (.int (p1 &&& (7 : Int32))), .val (.int (((p1.toUInt32 >>> ((3 : Int32) &&& 31).toUInt32).toInt32) &&& (3 : Int32))), .val (.int (((p1.toUInt32 >>> ((5 : Int32) &&& 31).toUInt32).toInt32) &&& (127 : Int32))), .val (.int c0_), .val (.int c1_), .val (.int c2_), .val (.int c3_), .val (.int c4_), .val (.int c5_), .val (.int c6_), .val .null, .val .null, .unset]) rfl kk) ?_
    show OGo p e below (T345.setTop (mkF m 130 #[.val (.int p1), .val (.long j1), .second, .val (.int (p1 &&& (7 : Int32))), .val (.int (((p1.toUInt32 >>> ((3 : Int32) &&& 31).toUInt32).toInt32) &&& (3 : Int32))), .val (.int (((p1.toUInt32 >>> ((5 : Int32) &&& 31).toUInt32).toInt32) &&& (127 : Int32))), .val (.int c0_), .val (.int c1_), .val (.int c2_), .val (.int c3_), .val (.int c4_), .val (.int c5_), .val (.int c6_), .val .null, .val .null, .unset] [])) (OEndW s Z consts_1 (fun v h L => v = some (.int (1 : Int32)) ∧ Fr n0 L) room_1.cells room_1.slots)
    refine OGo.step (fun _ kk => XS.aload X345.here hx rfl (hb hby at_130) rfl rfl kk) ?_
    show OGo p e below (T345.setTop (mkF m 132 #[.val (.int p1), .val (.long j1), .second, .val (.int (p1 &&& (7 : Int32))), .val (.int (((p1.toUInt32 >>> ((3 : Int32) &&& 31).toUInt32).toInt32) &&& (3 : Int32))), .val (.int (((p1.toUInt32 >>> ((5 : Int32) &&& 31).toUInt32).toInt32) &&& (127 : Int32))), .val (.int c0_), .val (.int c1_), .val (.int c2_), .val (.int c3_), .val (.int c4_), .val (.int c5_), .val (.int c6_), .val .null, .val .null, .unset] [.null])) (OEndW s Z consts_1 (fun v h L => v = some (.int (1 : Int32)) ∧ Fr n0 L) room_1.cells room_1.slots)
    refine OGo.step (fun _ kk => XS.ifnullYes X345.here hx rfl (pc0 := 132) (pc' := 221) rfl (hb hby at_132) rfl (by decide) (by decide) kk) ?_
    show OGo p e below (T345.setTop (mkF m 221 #[.val (.int p1), .val (.long j1), .second, .val (.int (p1 &&& (7 : Int32))), .val (.int (((p1.toUInt32 >>> ((3 : Int32) &&& 31).toUInt32).toInt32) &&& (3 : Int32))), .val (.int (((p1.toUInt32 >>> ((5 : Int32) &&& 31).toUInt32).toInt32) &&& (127 : Int32))), .val (.int c0_), .val (.int c1_), .val (.int c2_), .val (.int c3_), .val (.int c4_), .val (.int c5_), .val (.int c6_), .val .null, .val .null, .unset] [])) (OEndW s Z consts_1 (fun v h L => v = some (.int (1 : Int32)) ∧ Fr n0 L) room_1.cells room_1.slots)
    refine OGo.step (fun _ kk => XS.aload X345.here hx rfl (hb hby at_221) rfl rfl kk) ?_
    show OGo p e below (T345.setTop (mkF m 223 #[.val (.int p1), .val (.long j1), .second, .val (.int (p1 &&& (7 : Int32))), .val (.int (((p1.toUInt32 >>> ((3 : Int32) &&& 31).toUInt32).toInt32) &&& (3 : Int32))), .val (.int (((p1.toUInt32 >>> ((5 : Int32) &&& 31).toUInt32).toInt32) &&& (127 : Int32))), .val (.int c0_), .val (.int c1_), .val (.int c2_), .val (.int c3_), .val (.int c4_), .val (.int c5_), .val (.int c6_), .val .null, .val .null, .unset] [.null])) (OEndW s Z consts_1 (fun v h L => v = some (.int (1 : Int32)) ∧ Fr n0 L) room_1.cells room_1.slots)
    have xt346 := (own_ext_trans xt342 Xe345)
    have fx347 := SV.ext xt346
    have fx348 := AV.ext xt346
    have fx349 := EV.ext xt346
    have fx350 := Ft0.ext xt346
    have fx351 := O0.ext xt346
    have fx352 := Ft1.ext xt346
    have fx353 := O1.ext xt346
    have fx354 := SE.ext xt346
    have fx355 := EO.ext xt346
    have fx356 := FO.ext xt346
    have fx357 := SC.ext xt346
    refine own_callS X345 hx hZ (y := (⟨"com/example/tenantd/tenantd/Permission", "ofText", "(Ljava/lang/String;)Ljava/util/Optional;"⟩ : MethodName)) hown (hw _ (List.mem_of_getElem? (i := 54) rfl)) (hw _ (List.mem_of_getElem? (i := 55) rfl)) (hw _ (List.mem_of_getElem? (i := 56) rfl)) (hw _ (List.mem_of_getElem? (i := 57) rfl)) (by decide) (W := 0) (own_ofN l Z a0 hw [] va vc r0 r1 t0 t1 eo zc T345.heap n0 sz345 fx357 hzc fx347 fx348 fx349 FV VS V0 fx350 fx351 V1 fx352 fx353 fx354 fx355 fx356) rfl  (pc := 223) (Ls := #[.val (.int p1), .val (.long j1), .second, .val (.int (p1 &&& (7 : Int32))), .val (.int (((p1.toUInt32 >>> ((3 : Int32) &&& 31).toUInt32).toInt32) &&& (3 : Int32))), .val (.int (((p1.toUInt32 >>> ((5 : Int32) &&& 31).toUInt32).toInt32) &&& (127 : Int32))), .val (.int c0_), .val (.int c1_), .val (.int c2_), .val (.int c3_), .val (.int c4_), .val (.int c5_), .val (.int c6_), .val .null, .val .null, .unset]) (argsL := [.null]) (rest := []) (by rw [hml]; rfl) (lenOf own_pd8 rfl) rfl (hb hby at_223) (by decide) (by decide) (by decide) (by decide) ?_
    intro v358 T358 L358 X358 hQ358
    obtain ⟨ob, u358, rfl, N358, Xe358, Eb358, Gv358, hu358⟩ := hQ358
    show OGo p e below (T358.setTop (mkF m 226 #[.val (.int p1), .val (.long j1), .second, .val (.int (p1 &&& (7 : Int32))), .val (.int (((p1.toUInt32 >>> ((3 : Int32) &&& 31).toUInt32).toInt32) &&& (3 : Int32))), .val (.int (((p1.toUInt32 >>> ((5 : Int32) &&& 31).toUInt32).toInt32) &&& (127 : Int32))), .val (.int c0_), .val (.int c1_), .val (.int c2_), .val (.int c3_), .val (.int c4_), .val (.int c5_), .val (.int c6_), .val .null, .val .null, .unset] [(.ref ob)])) (OEndW s Z consts_1 (fun v h L => v = some (.int (1 : Int32)) ∧ Fr n0 L) room_1.cells room_1.slots)
    have Nc358 := Fr.app Nc345 N358
    have sz358 : n0 ≤ T358.heap.size := Nat.le_trans sz345 Xe358.1
    have OW359 := OW345.ext Xe358
    have hu : u358 = .null := hu358.trans (by rw [own_of, if_neg (fun z => by cases z), if_neg (fun z => by cases z)])
    rw [hu] at Gv358
    refine OGo.step (fun _ kk => XS.aconstNull X358.here hx rfl (hb hby at_226) kk) ?_
    show OGo p e below (T358.setTop (mkF m 227 #[.val (.int p1), .val (.long j1), .second, .val (.int (p1 &&& (7 : Int32))), .val (.int (((p1.toUInt32 >>> ((3 : Int32) &&& 31).toUInt32).toInt32) &&& (3 : Int32))), .val (.int (((p1.toUInt32 >>> ((5 : Int32) &&& 31).toUInt32).toInt32) &&& (127 : Int32))), .val (.int c0_), .val (.int c1_), .val (.int c2_), .val (.int c3_), .val (.int c4_), .val (.int c5_), .val (.int c6_), .val .null, .val .null, .unset] [.null, (.ref ob)])) (OEndW s Z consts_1 (fun v h L => v = some (.int (1 : Int32)) ∧ Fr n0 L) room_1.cells room_1.slots)
    refine own_virtual X358 hx hZ (y := (⟨"java/util/Optional", "orElse", "(Ljava/lang/Object;)Ljava/lang/Object;"⟩ : MethodName)) (z := (⟨"java/util/Optional", "orElse", "(Ljava/lang/Object;)Ljava/lang/Object;"⟩ : MethodName)) hown (hw _ (List.mem_of_getElem? (i := 91) rfl)) (hw _ (List.mem_of_getElem? (i := 92) rfl)) (notFace_of_selects (args := #[]) (mvT hZ (hw _ (List.mem_of_getElem? (i := 94) rfl)))) (hw _ (List.mem_of_getElem? (i := 94) rfl)) (hw _ (List.mem_of_getElem? (i := 93) rfl)) (by decide) (hw _ (List.mem_of_getElem? (i := 95) rfl)) (hw _ (List.mem_of_getElem? (i := 88) rfl)) (b := ob) Eb358 (W := 0) (own_orElseN l Z a0 hw [] ob T358.heap n0 sz358 Gv358) rfl  (pc := 227) (Ls := #[.val (.int p1), .val (.long j1), .second, .val (.int (p1 &&& (7 : Int32))), .val (.int (((p1.toUInt32 >>> ((3 : Int32) &&& 31).toUInt32).toInt32) &&& (3 : Int32))), .val (.int (((p1.toUInt32 >>> ((5 : Int32) &&& 31).toUInt32).toInt32) &&& (127 : Int32))), .val (.int c0_), .val (.int c1_), .val (.int c2_), .val (.int c3_), .val (.int c4_), .val (.int c5_), .val (.int c6_), .val .null, .val .null, .unset]) (argsL := [.null]) (rest := []) (by rw [hml]; rfl) (lenOf own_pd9 rfl) rfl (hb hby at_227) (by decide) (by decide) (by decide) (by decide) ?_
    intro v360 T360 L360 X360 hQ360
    obtain ⟨rfl, N360, e360⟩ := hQ360
    show OGo p e below (T360.setTop (mkF m 230 #[.val (.int p1), .val (.long j1), .second, .val (.int (p1 &&& (7 : Int32))), .val (.int (((p1.toUInt32 >>> ((3 : Int32) &&& 31).toUInt32).toInt32) &&& (3 : Int32))), .val (.int (((p1.toUInt32 >>> ((5 : Int32) &&& 31).toUInt32).toInt32) &&& (127 : Int32))), .val (.int c0_), .val (.int c1_), .val (.int c2_), .val (.int c3_), .val (.int c4_), .val (.int c5_), .val (.int c6_), .val .null, .val .null, .unset] [.null])) (OEndW s Z consts_1 (fun v h L => v = some (.int (1 : Int32)) ∧ Fr n0 L) room_1.cells room_1.slots)
    have Nc360 := Fr.app Nc358 N360
    refine OGo.step (fun _ kk => X360.checkcastNull hx (g := (mkF m 230 #[.val (.int p1), .val (.long j1), .second, .val (.int (p1 &&& (7 : Int32))), .val (.int (((p1.toUInt32 >>> ((3 : Int32) &&& 31).toUInt32).toInt32) &&& (3 : Int32))), .val (.int (((p1.toUInt32 >>> ((5 : Int32) &&& 31).toUInt32).toInt32) &&& (127 : Int32))), .val (.int c0_), .val (.int c1_), .val (.int c2_), .val (.int c3_), .val (.int c4_), .val (.int c5_), .val (.int c6_), .val .null, .val .null, .unset] [.null])) rfl rfl (hb hby at_230) _ kk) ?_
    show OGo p e below (T360.setTop (mkF m 233 #[.val (.int p1), .val (.long j1), .second, .val (.int (p1 &&& (7 : Int32))), .val (.int (((p1.toUInt32 >>> ((3 : Int32) &&& 31).toUInt32).toInt32) &&& (3 : Int32))), .val (.int (((p1.toUInt32 >>> ((5 : Int32) &&& 31).toUInt32).toInt32) &&& (127 : Int32))), .val (.int c0_), .val (.int c1_), .val (.int c2_), .val (.int c3_), .val (.int c4_), .val (.int c5_), .val (.int c6_), .val .null, .val .null, .unset] [.null])) (OEndW s Z consts_1 (fun v h L => v = some (.int (1 : Int32)) ∧ Fr n0 L) room_1.cells room_1.slots)
    refine OGo.step (fun _ kk => XS.astore X360.here hx rfl (hb hby at_233) rfl rfl (l' := #[.val (.int p1), .val (.long j1), .second, .val (.int (p1 &&& (7 : Int32))), .val (.int (((p1.toUInt32 >>> ((3 : Int32) &&& 31).toUInt32).toInt32) &&& (3 : Int32))), .val (.int (((p1.toUInt32 >>> ((5 : Int32) &&& 31).toUInt32).toInt32) &&& (127 : Int32))), .val (.int c0_), .val (.int c1_), .val (.int c2_), .val (.int c3_), .val (.int c4_), .val (.int c5_), .val (.int c6_), .val .null, .val .null, .val .null]) rfl kk) ?_
    show OGo p e below (T360.setTop (mkF m 235 #[.val (.int p1), .val (.long j1), .second, .val (.int (p1 &&& (7 : Int32))), .val (.int (((p1.toUInt32 >>> ((3 : Int32) &&& 31).toUInt32).toInt32) &&& (3 : Int32))), .val (.int (((p1.toUInt32 >>> ((5 : Int32) &&& 31).toUInt32).toInt32) &&& (127 : Int32))), .val (.int c0_), .val (.int c1_), .val (.int c2_), .val (.int c3_), .val (.int c4_), .val (.int c5_), .val (.int c6_), .val .null, .val .null, .val .null] [])) (OEndW s Z consts_1 (fun v h L => v = some (.int (1 : Int32)) ∧ Fr n0 L) room_1.cells room_1.slots)
    refine OGo.step (fun _ kk => XS.aload X360.here hx rfl (hb hby at_235) rfl rfl kk) ?_
    show OGo p e below (T360.setTop (mkF m 237 #[.val (.int p1), .val (.long j1), .second, .val (.int (p1 &&& (7 : Int32))), .val (.int (((p1.toUInt32 >>> ((3 : Int32) &&& 31).toUInt32).toInt32) &&& (3 : Int32))), .val (.int (((p1.toUInt32 >>> ((5 : Int32) &&& 31).toUInt32).toInt32) &&& (127 : Int32))), .val (.int c0_), .val (.int c1_), .val (.int c2_), .val (.int c3_), .val (.int c4_), .val (.int c5_), .val (.int c6_), .val .null, .val .null, .val .null] [.null])) (OEndW s Z consts_1 (fun v h L => v = some (.int (1 : Int32)) ∧ Fr n0 L) room_1.cells room_1.slots)
    refine OGo.step (fun _ kk => XS.aload X360.here hx rfl (hb hby at_237) rfl rfl kk) ?_
    show OGo p e below (T360.setTop (mkF m 239 #[.val (.int p1), .val (.long j1), .second, .val (.int (p1 &&& (7 : Int32))), .val (.int (((p1.toUInt32 >>> ((3 : Int32) &&& 31).toUInt32).toInt32) &&& (3 : Int32))), .val (.int (((p1.toUInt32 >>> ((5 : Int32) &&& 31).toUInt32).toInt32) &&& (127 : Int32))), .val (.int c0_), .val (.int c1_), .val (.int c2_), .val (.int c3_), .val (.int c4_), .val (.int c5_), .val (.int c6_), .val .null, .val .null, .val .null] [.null, .null])) (OEndW s Z consts_1 (fun v h L => v = some (.int (1 : Int32)) ∧ Fr n0 L) room_1.cells room_1.slots)
    refine OGo.step (fun _ kk => Jvm.RoadKit.acmp (g := (mkF m 239 #[.val (.int p1), .val (.long j1), .second, .val (.int (p1 &&& (7 : Int32))), .val (.int (((p1.toUInt32 >>> ((3 : Int32) &&& 31).toUInt32).toInt32) &&& (3 : Int32))), .val (.int (((p1.toUInt32 >>> ((5 : Int32) &&& 31).toUInt32).toInt32) &&& (127 : Int32))), .val (.int c0_), .val (.int c1_), .val (.int c2_), .val (.int c3_), .val (.int c4_), .val (.int c5_), .val (.int c6_), .val .null, .val .null, .val .null] [.null, .null])) X360 hx rfl rfl rfl (pc0 := 239) (pc' := 242) (same := true) rfl (hb hby at_239) rfl (decide_eq_true rfl) (by decide) (by decide) kk) ?_
    show OGo p e below (T360.setTop (mkF m 242 #[.val (.int p1), .val (.long j1), .second, .val (.int (p1 &&& (7 : Int32))), .val (.int (((p1.toUInt32 >>> ((3 : Int32) &&& 31).toUInt32).toInt32) &&& (3 : Int32))), .val (.int (((p1.toUInt32 >>> ((5 : Int32) &&& 31).toUInt32).toInt32) &&& (127 : Int32))), .val (.int c0_), .val (.int c1_), .val (.int c2_), .val (.int c3_), .val (.int c4_), .val (.int c5_), .val (.int c6_), .val .null, .val .null, .val .null] [])) (OEndW s Z consts_1 (fun v h L => v = some (.int (1 : Int32)) ∧ Fr n0 L) room_1.cells room_1.slots)
    refine OGo.step (fun _ kk => XS.iconst X360.here hx rfl (hb hby at_242) kk) ?_
    show OGo p e below (T360.setTop (mkF m 243 #[.val (.int p1), .val (.long j1), .second, .val (.int (p1 &&& (7 : Int32))), .val (.int (((p1.toUInt32 >>> ((3 : Int32) &&& 31).toUInt32).toInt32) &&& (3 : Int32))), .val (.int (((p1.toUInt32 >>> ((5 : Int32) &&& 31).toUInt32).toInt32) &&& (127 : Int32))), .val (.int c0_), .val (.int c1_), .val (.int c2_), .val (.int c3_), .val (.int c4_), .val (.int c5_), .val (.int c6_), .val .null, .val .null, .val .null] [(.int (1 : Int32))])) (OEndW s Z consts_1 (fun v h L => v = some (.int (1 : Int32)) ∧ Fr n0 L) room_1.cells room_1.slots)
    refine OGo.step (fun _ kk => XS.goto X360.here hx rfl (pc0 := 243) (pc' := 247) rfl (hb hby at_243) (by decide) (by decide) kk) ?_
    show OGo p e below (T360.setTop (mkF m 247 #[.val (.int p1), .val (.long j1), .second, .val (.int (p1 &&& (7 : Int32))), .val (.int (((p1.toUInt32 >>> ((3 : Int32) &&& 31).toUInt32).toInt32) &&& (3 : Int32))), .val (.int (((p1.toUInt32 >>> ((5 : Int32) &&& 31).toUInt32).toInt32) &&& (127 : Int32))), .val (.int c0_), .val (.int c1_), .val (.int c2_), .val (.int c3_), .val (.int c4_), .val (.int c5_), .val (.int c6_), .val .null, .val .null, .val .null] [(.int (1 : Int32))])) (OEndW s Z consts_1 (fun v h L => v = some (.int (1 : Int32)) ∧ Fr n0 L) room_1.cells room_1.slots)
    exact own_retNW X360 hx hlk hEL OW359 e360 hret (by simp) (hb hby at_247) ⟨by rw [own_nar1], Nc360⟩ (by decide) (by decide)
  · refine OGo.step (fun _ kk => XS.icmpNo X345.here hx rfl (hb hby at_104) rfl (feq hk3).1 kk) ?_
    show OGo p e below (T345.setTop (mkF m 107 #[.val (.int p1), .val (.long j1), .second, .val (.int (p1 &&& (7 : Int32))), .val (.int (((p1.toUInt32 >>> ((3 : Int32) &&& 31).toUInt32).toInt32) &&& (3 : Int32))), .val (.int (((p1.toUInt32 >>> ((5 : Int32) &&& 31).toUInt32).toInt32) &&& (127 : Int32))), .val (.int c0_), .val (.int c1_), .val (.int c2_), .val (.int c3_), .val (.int c4_), .val (.int c5_), .val (.int c6_), .val .null, .unset, .unset] [])) (OEndW s Z consts_1 (fun v h L => v = some (.int (1 : Int32)) ∧ Fr n0 L) room_1.cells room_1.slots)
    refine OGo.step (fun _ kk => XS.iloadN X345.here hx rfl (hb hby at_107) rfl kk) ?_
    show OGo p e below (T345.setTop (mkF m 108 #[.val (.int p1), .val (.long j1), .second, .val (.int (p1 &&& (7 : Int32))), .val (.int (((p1.toUInt32 >>> ((3 : Int32) &&& 31).toUInt32).toInt32) &&& (3 : Int32))), .val (.int (((p1.toUInt32 >>> ((5 : Int32) &&& 31).toUInt32).toInt32) &&& (127 : Int32))), .val (.int c0_), .val (.int c1_), .val (.int c2_), .val (.int c3_), .val (.int c4_), .val (.int c5_), .val (.int c6_), .val .null, .unset, .unset] [(.int (p1 &&& (7 : Int32)))])) (OEndW s Z consts_1 (fun v h L => v = some (.int (1 : Int32)) ∧ Fr n0 L) room_1.cells room_1.slots)
    refine OGo.step (fun _ kk => XS.iload X345.here hx rfl (hb hby at_108) rfl kk) ?_
    show OGo p e below (T345.setTop (mkF m 110 #[.val (.int p1), .val (.long j1), .second, .val (.int (p1 &&& (7 : Int32))), .val (.int (((p1.toUInt32 >>> ((3 : Int32) &&& 31).toUInt32).toInt32) &&& (3 : Int32))), .val (.int (((p1.toUInt32 >>> ((5 : Int32) &&& 31).toUInt32).toInt32) &&& (127 : Int32))), .val (.int c0_), .val (.int c1_), .val (.int c2_), .val (.int c3_), .val (.int c4_), .val (.int c5_), .val (.int c6_), .val .null, .unset, .unset] [(.int c0_), (.int (p1 &&& (7 : Int32)))])) (OEndW s Z consts_1 (fun v h L => v = some (.int (1 : Int32)) ∧ Fr n0 L) room_1.cells room_1.slots)
    refine OGo.step (fun _ kk => XS.iload X345.here hx rfl (hb hby at_110) rfl kk) ?_
    show OGo p e below (T345.setTop (mkF m 112 #[.val (.int p1), .val (.long j1), .second, .val (.int (p1 &&& (7 : Int32))), .val (.int (((p1.toUInt32 >>> ((3 : Int32) &&& 31).toUInt32).toInt32) &&& (3 : Int32))), .val (.int (((p1.toUInt32 >>> ((5 : Int32) &&& 31).toUInt32).toInt32) &&& (127 : Int32))), .val (.int c0_), .val (.int c1_), .val (.int c2_), .val (.int c3_), .val (.int c4_), .val (.int c5_), .val (.int c6_), .val .null, .unset, .unset] [(.int c1_), (.int c0_), (.int (p1 &&& (7 : Int32)))])) (OEndW s Z consts_1 (fun v h L => v = some (.int (1 : Int32)) ∧ Fr n0 L) room_1.cells room_1.slots)
    refine OGo.step (fun _ kk => XS.iload X345.here hx rfl (hb hby at_112) rfl kk) ?_
    show OGo p e below (T345.setTop (mkF m 114 #[.val (.int p1), .val (.long j1), .second, .val (.int (p1 &&& (7 : Int32))), .val (.int (((p1.toUInt32 >>> ((3 : Int32) &&& 31).toUInt32).toInt32) &&& (3 : Int32))), .val (.int (((p1.toUInt32 >>> ((5 : Int32) &&& 31).toUInt32).toInt32) &&& (127 : Int32))), .val (.int c0_), .val (.int c1_), .val (.int c2_), .val (.int c3_), .val (.int c4_), .val (.int c5_), .val (.int c6_), .val .null, .unset, .unset] [(.int c2_), (.int c1_), (.int c0_), (.int (p1 &&& (7 : Int32)))])) (OEndW s Z consts_1 (fun v h L => v = some (.int (1 : Int32)) ∧ Fr n0 L) room_1.cells room_1.slots)
    refine OGo.step (fun _ kk => XS.iload X345.here hx rfl (hb hby at_114) rfl kk) ?_
    show OGo p e below (T345.setTop (mkF m 116 #[.val (.int p1), .val (.long j1), .second, .val (.int (p1 &&& (7 : Int32))), .val (.int (((p1.toUInt32 >>> ((3 : Int32) &&& 31).toUInt32).toInt32) &&& (3 : Int32))), .val (.int (((p1.toUInt32 >>> ((5 : Int32) &&& 31).toUInt32).toInt32) &&& (127 : Int32))), .val (.int c0_), .val (.int c1_), .val (.int c2_), .val (.int c3_), .val (.int c4_), .val (.int c5_), .val (.int c6_), .val .null, .unset, .unset] [(.int c3_), (.int c2_), (.int c1_), (.int c0_), (.int (p1 &&& (7 : Int32)))])) (OEndW s Z consts_1 (fun v h L => v = some (.int (1 : Int32)) ∧ Fr n0 L) room_1.cells room_1.slots)
    refine OGo.step (fun _ kk => XS.iload X345.here hx rfl (hb hby at_116) rfl kk) ?_
    show OGo p e below (T345.setTop (mkF m 118 #[.val (.int p1), .val (.long j1), .second, .val (.int (p1 &&& (7 : Int32))), .val (.int (((p1.toUInt32 >>> ((3 : Int32) &&& 31).toUInt32).toInt32) &&& (3 : Int32))), .val (.int (((p1.toUInt32 >>> ((5 : Int32) &&& 31).toUInt32).toInt32) &&& (127 : Int32))), .val (.int c0_), .val (.int c1_), .val (.int c2_), .val (.int c3_), .val (.int c4_), .val (.int c5_), .val (.int c6_), .val .null, .unset, .unset] [(.int c4_), (.int c3_), (.int c2_), (.int c1_), (.int c0_), (.int (p1 &&& (7 : Int32)))])) (OEndW s Z consts_1 (fun v h L => v = some (.int (1 : Int32)) ∧ Fr n0 L) room_1.cells room_1.slots)
    refine OGo.step (fun _ kk => XS.iload X345.here hx rfl (hb hby at_118) rfl kk) ?_
    show OGo p e below (T345.setTop (mkF m 120 #[.val (.int p1), .val (.long j1), .second, .val (.int (p1 &&& (7 : Int32))), .val (.int (((p1.toUInt32 >>> ((3 : Int32) &&& 31).toUInt32).toInt32) &&& (3 : Int32))), .val (.int (((p1.toUInt32 >>> ((5 : Int32) &&& 31).toUInt32).toInt32) &&& (127 : Int32))), .val (.int c0_), .val (.int c1_), .val (.int c2_), .val (.int c3_), .val (.int c4_), .val (.int c5_), .val (.int c6_), .val .null, .unset, .unset] [(.int c5_), (.int c4_), (.int c3_), (.int c2_), (.int c1_), (.int c0_), (.int (p1 &&& (7 : Int32)))])) (OEndW s Z consts_1 (fun v h L => v = some (.int (1 : Int32)) ∧ Fr n0 L) room_1.cells room_1.slots)
    refine OGo.step (fun _ kk => XS.iload X345.here hx rfl (hb hby at_120) rfl kk) ?_
    show OGo p e below (T345.setTop (mkF m 122 #[.val (.int p1), .val (.long j1), .second, .val (.int (p1 &&& (7 : Int32))), .val (.int (((p1.toUInt32 >>> ((3 : Int32) &&& 31).toUInt32).toInt32) &&& (3 : Int32))), .val (.int (((p1.toUInt32 >>> ((5 : Int32) &&& 31).toUInt32).toInt32) &&& (127 : Int32))), .val (.int c0_), .val (.int c1_), .val (.int c2_), .val (.int c3_), .val (.int c4_), .val (.int c5_), .val (.int c6_), .val .null, .unset, .unset] [(.int c6_), (.int c5_), (.int c4_), (.int c3_), (.int c2_), (.int c1_), (.int c0_), (.int (p1 &&& (7 : Int32)))])) (OEndW s Z consts_1 (fun v h L => v = some (.int (1 : Int32)) ∧ Fr n0 L) room_1.cells room_1.slots)
    have xt361 := (own_ext_trans xt342 Xe345)
    have fx362 := SC.ext xt361
    refine own_callSW X345 hx hZ (y := (⟨"com/example/tenantd/tenantd/PermissionOfTextPinLaw", "mk", "(ICCCCCCC)Ljava/lang/String;"⟩ : MethodName)) hown (hw _ (List.mem_of_getElem? (i := 38) rfl)) (hw _ (List.mem_of_getElem? (i := 39) rfl)) (hw _ (List.mem_of_getElem? (i := 2) rfl)) (hw _ (List.mem_of_getElem? (i := 40) rfl)) (by decide) hEL OW345 (W := 0) (own_mkc l Z a0 hw [] (p1 &&& (7 : Int32)) c0_ c1_ c2_ c3_ c4_ c5_ c6_ zc T345.heap n0 sz345 fx362 hzc hb0 hb1 hb2 hb3 hb4 hb5 hb6) rfl  (pc := 122) (Ls := #[.val (.int p1), .val (.long j1), .second, .val (.int (p1 &&& (7 : Int32))), .val (.int (((p1.toUInt32 >>> ((3 : Int32) &&& 31).toUInt32).toInt32) &&& (3 : Int32))), .val (.int (((p1.toUInt32 >>> ((5 : Int32) &&& 31).toUInt32).toInt32) &&& (127 : Int32))), .val (.int c0_), .val (.int c1_), .val (.int c2_), .val (.int c3_), .val (.int c4_), .val (.int c5_), .val (.int c6_), .val .null, .unset, .unset]) (argsL := [(.int (p1 &&& (7 : Int32))), (.int c0_), (.int c1_), (.int c2_), (.int c3_), (.int c4_), (.int c5_), (.int c6_)]) (rest := []) (by rw [hml]; rfl) (lenOf own_pd10 rfl) rfl (hb hby at_122) (by decide) (by decide) (by decide) (by decide) ?_
    intro v363 T363 L363 X363 hQ363 OW363 hZ hown CH363
    obtain ⟨xs, rfl, N363, Xe363, Os363⟩ := hQ363
    show OGo p e below (T363.setTop (mkF m 125 #[.val (.int p1), .val (.long j1), .second, .val (.int (p1 &&& (7 : Int32))), .val (.int (((p1.toUInt32 >>> ((3 : Int32) &&& 31).toUInt32).toInt32) &&& (3 : Int32))), .val (.int (((p1.toUInt32 >>> ((5 : Int32) &&& 31).toUInt32).toInt32) &&& (127 : Int32))), .val (.int c0_), .val (.int c1_), .val (.int c2_), .val (.int c3_), .val (.int c4_), .val (.int c5_), .val (.int c6_), .val .null, .unset, .unset] [(.ref xs)])) (OEndW s Z consts_1 (fun v h L => v = some (.int (1 : Int32)) ∧ Fr n0 L) room_1.cells room_1.slots)
    have Nc363 := Fr.app Nc345 N363
    have sz363 : n0 ≤ T363.heap.size := Nat.le_trans sz345 Xe363.1
    obtain ⟨nn, hnn⟩ : ∃ z, z = (p1 &&& (7 : Int32)) := ⟨_, rfl⟩
    rw [← hnn] at Os363
    refine OGo.step (fun _ kk => XS.astore X363.here hx rfl (hb hby at_125) rfl rfl (l' := #[.val (.int p1), .val (.long j1), .second, .val (.int (p1 &&& (7 : Int32))), .val (.int (((p1.toUInt32 >>> ((3 : Int32) &&& 31).toUInt32).toInt32) &&& (3 : Int32))), .val (.int (((p1.toUInt32 >>> ((5 : Int32) &&& 31).toUInt32).toInt32) &&& (127 : Int32))), .val (.int c0_), .val (.int c1_), .val (.int c2_), .val (.int c3_), .val (.int c4_), .val (.int c5_), .val (.int c6_), .val (.ref xs), .unset, .unset]) rfl kk) ?_
    show OGo p e below (T363.setTop (mkF m 127 #[.val (.int p1), .val (.long j1), .second, .val (.int (p1 &&& (7 : Int32))), .val (.int (((p1.toUInt32 >>> ((3 : Int32) &&& 31).toUInt32).toInt32) &&& (3 : Int32))), .val (.int (((p1.toUInt32 >>> ((5 : Int32) &&& 31).toUInt32).toInt32) &&& (127 : Int32))), .val (.int c0_), .val (.int c1_), .val (.int c2_), .val (.int c3_), .val (.int c4_), .val (.int c5_), .val (.int c6_), .val (.ref xs), .unset, .unset] [])) (OEndW s Z consts_1 (fun v h L => v = some (.int (1 : Int32)) ∧ Fr n0 L) room_1.cells room_1.slots)
    refine OGo.step (fun _ kk => XS.aconstNull X363.here hx rfl (hb hby at_127) kk) ?_
    show OGo p e below (T363.setTop (mkF m 128 #[.val (.int p1), .val (.long j1), .second, .val (.int (p1 &&& (7 : Int32))), .val (.int (((p1.toUInt32 >>> ((3 : Int32) &&& 31).toUInt32).toInt32) &&& (3 : Int32))), .val (.int (((p1.toUInt32 >>> ((5 : Int32) &&& 31).toUInt32).toInt32) &&& (127 : Int32))), .val (.int c0_), .val (.int c1_), .val (.int c2_), .val (.int c3_), .val (.int c4_), .val (.int c5_), .val (.int c6_), .val (.ref xs), .unset, .unset] [.null])) (OEndW s Z consts_1 (fun v h L => v = some (.int (1 : Int32)) ∧ Fr n0 L) room_1.cells room_1.slots)
    refine OGo.step (fun _ kk => XS.astore X363.here hx rfl (hb hby at_128) rfl rfl (l' := #[.val (.int p1), .val (.long j1), .second, .val (.int (p1 &&& (7 : Int32))), .val (.int (((p1.toUInt32 >>> ((3 : Int32) &&& 31).toUInt32).toInt32) &&& (3 : Int32))), .val (.int (((p1.toUInt32 >>> ((5 : Int32) &&& 31).toUInt32).toInt32) &&& (127 : Int32))), .val (.int c0_), .val (.int c1_), .val (.int c2_), .val (.int c3_), .val (.int c4_), .val (.int c5_), .val (.int c6_), .val (.ref xs), .val .null, .unset]) rfl kk) ?_
    show OGo p e below (T363.setTop (mkF m 130 #[.val (.int p1), .val (.long j1), .second, .val (.int (p1 &&& (7 : Int32))), .val (.int (((p1.toUInt32 >>> ((3 : Int32) &&& 31).toUInt32).toInt32) &&& (3 : Int32))), .val (.int (((p1.toUInt32 >>> ((5 : Int32) &&& 31).toUInt32).toInt32) &&& (127 : Int32))), .val (.int c0_), .val (.int c1_), .val (.int c2_), .val (.int c3_), .val (.int c4_), .val (.int c5_), .val (.int c6_), .val (.ref xs), .val .null, .unset] [])) (OEndW s Z consts_1 (fun v h L => v = some (.int (1 : Int32)) ∧ Fr n0 L) room_1.cells room_1.slots)
    refine OGo.step (fun _ kk => XS.aload X363.here hx rfl (hb hby at_130) rfl rfl kk) ?_
    show OGo p e below (T363.setTop (mkF m 132 #[.val (.int p1), .val (.long j1), .second, .val (.int (p1 &&& (7 : Int32))), .val (.int (((p1.toUInt32 >>> ((3 : Int32) &&& 31).toUInt32).toInt32) &&& (3 : Int32))), .val (.int (((p1.toUInt32 >>> ((5 : Int32) &&& 31).toUInt32).toInt32) &&& (127 : Int32))), .val (.int c0_), .val (.int c1_), .val (.int c2_), .val (.int c3_), .val (.int c4_), .val (.int c5_), .val (.int c6_), .val (.ref xs), .val .null, .unset] [(.ref xs)])) (OEndW s Z consts_1 (fun v h L => v = some (.int (1 : Int32)) ∧ Fr n0 L) room_1.cells room_1.slots)
    refine OGo.step (fun _ kk => XS.ifnullNo X363.here hx rfl (hb hby at_132) rfl kk) ?_
    show OGo p e below (T363.setTop (mkF m 135 #[.val (.int p1), .val (.long j1), .second, .val (.int (p1 &&& (7 : Int32))), .val (.int (((p1.toUInt32 >>> ((3 : Int32) &&& 31).toUInt32).toInt32) &&& (3 : Int32))), .val (.int (((p1.toUInt32 >>> ((5 : Int32) &&& 31).toUInt32).toInt32) &&& (127 : Int32))), .val (.int c0_), .val (.int c1_), .val (.int c2_), .val (.int c3_), .val (.int c4_), .val (.int c5_), .val (.int c6_), .val (.ref xs), .val .null, .unset] [])) (OEndW s Z consts_1 (fun v h L => v = some (.int (1 : Int32)) ∧ Fr n0 L) room_1.cells room_1.slots)
    rw [← hnn]
    show OGo p e below (T363.setTop (mkF m 135 #[.val (.int p1), .val (.long j1), .second, .val (.int nn), .val (.int (((p1.toUInt32 >>> ((3 : Int32) &&& 31).toUInt32).toInt32) &&& (3 : Int32))), .val (.int (((p1.toUInt32 >>> ((5 : Int32) &&& 31).toUInt32).toInt32) &&& (127 : Int32))), .val (.int c0_), .val (.int c1_), .val (.int c2_), .val (.int c3_), .val (.int c4_), .val (.int c5_), .val (.int c6_), .val (.ref xs), .val .null, .unset] [])) (OEndW s Z consts_1 (fun v h L => v = some (.int (1 : Int32)) ∧ Fr n0 L) room_1.cells room_1.slots)
    have K183 : ¬ (own_mk nn c0_ c1_ c2_ c3_ c4_ c5_ c6_) = [97, 108, 108, 111, 119] → OGo p e below (T363.setTop (mkF m 183 #[.val (.int p1), .val (.long j1), .second, .val (.int nn), .val (.int (((p1.toUInt32 >>> ((3 : Int32) &&& 31).toUInt32).toInt32) &&& (3 : Int32))), .val (.int (((p1.toUInt32 >>> ((5 : Int32) &&& 31).toUInt32).toInt32) &&& (127 : Int32))), .val (.int c0_), .val (.int c1_), .val (.int c2_), .val (.int c3_), .val (.int c4_), .val (.int c5_), .val (.int c6_), .val (.ref xs), .val .null, .unset] [])) (OEndW s Z consts_1 (fun v h L => v = some (.int (1 : Int32)) ∧ Fr n0 L) room_1.cells room_1.slots) := by
      intro hna
      show OGo p e below (T363.setTop (mkF m 183 #[.val (.int p1), .val (.long j1), .second, .val (.int nn), .val (.int (((p1.toUInt32 >>> ((3 : Int32) &&& 31).toUInt32).toInt32) &&& (3 : Int32))), .val (.int (((p1.toUInt32 >>> ((5 : Int32) &&& 31).toUInt32).toInt32) &&& (127 : Int32))), .val (.int c0_), .val (.int c1_), .val (.int c2_), .val (.int c3_), .val (.int c4_), .val (.int c5_), .val (.int c6_), .val (.ref xs), .val .null, .unset] [])) (OEndW s Z consts_1 (fun v h L => v = some (.int (1 : Int32)) ∧ Fr n0 L) room_1.cells room_1.slots)
      refine OGo.step (fun _ kk => XS.iloadN X363.here hx rfl (hb hby at_183) rfl kk) ?_
      show OGo p e below (T363.setTop (mkF m 184 #[.val (.int p1), .val (.long j1), .second, .val (.int nn), .val (.int (((p1.toUInt32 >>> ((3 : Int32) &&& 31).toUInt32).toInt32) &&& (3 : Int32))), .val (.int (((p1.toUInt32 >>> ((5 : Int32) &&& 31).toUInt32).toInt32) &&& (127 : Int32))), .val (.int c0_), .val (.int c1_), .val (.int c2_), .val (.int c3_), .val (.int c4_), .val (.int c5_), .val (.int c6_), .val (.ref xs), .val .null, .unset] [(.int nn)])) (OEndW s Z consts_1 (fun v h L => v = some (.int (1 : Int32)) ∧ Fr n0 L) room_1.cells room_1.slots)
      refine OGo.step (fun _ kk => XS.iconst X363.here hx rfl (hb hby at_184) kk) ?_
      show OGo p e below (T363.setTop (mkF m 185 #[.val (.int p1), .val (.long j1), .second, .val (.int nn), .val (.int (((p1.toUInt32 >>> ((3 : Int32) &&& 31).toUInt32).toInt32) &&& (3 : Int32))), .val (.int (((p1.toUInt32 >>> ((5 : Int32) &&& 31).toUInt32).toInt32) &&& (127 : Int32))), .val (.int c0_), .val (.int c1_), .val (.int c2_), .val (.int c3_), .val (.int c4_), .val (.int c5_), .val (.int c6_), .val (.ref xs), .val .null, .unset] [(.int (4 : Int32)), (.int nn)])) (OEndW s Z consts_1 (fun v h L => v = some (.int (1 : Int32)) ∧ Fr n0 L) room_1.cells room_1.slots)
      by_cases hq185_0 : nn = (4 : Int32)
      · refine OGo.step (fun _ kk => XS.icmpNo X363.here hx rfl (hb hby at_185) rfl (teq hq185_0).2 kk) ?_
        show OGo p e below (T363.setTop (mkF m 188 #[.val (.int p1), .val (.long j1), .second, .val (.int nn), .val (.int (((p1.toUInt32 >>> ((3 : Int32) &&& 31).toUInt32).toInt32) &&& (3 : Int32))), .val (.int (((p1.toUInt32 >>> ((5 : Int32) &&& 31).toUInt32).toInt32) &&& (127 : Int32))), .val (.int c0_), .val (.int c1_), .val (.int c2_), .val (.int c3_), .val (.int c4_), .val (.int c5_), .val (.int c6_), .val (.ref xs), .val .null, .unset] [])) (OEndW s Z consts_1 (fun v h L => v = some (.int (1 : Int32)) ∧ Fr n0 L) room_1.cells room_1.slots)
        refine OGo.step (fun _ kk => XS.iload X363.here hx rfl (hb hby at_188) rfl kk) ?_
        show OGo p e below (T363.setTop (mkF m 190 #[.val (.int p1), .val (.long j1), .second, .val (.int nn), .val (.int (((p1.toUInt32 >>> ((3 : Int32) &&& 31).toUInt32).toInt32) &&& (3 : Int32))), .val (.int (((p1.toUInt32 >>> ((5 : Int32) &&& 31).toUInt32).toInt32) &&& (127 : Int32))), .val (.int c0_), .val (.int c1_), .val (.int c2_), .val (.int c3_), .val (.int c4_), .val (.int c5_), .val (.int c6_), .val (.ref xs), .val .null, .unset] [(.int c0_)])) (OEndW s Z consts_1 (fun v h L => v = some (.int (1 : Int32)) ∧ Fr n0 L) room_1.cells room_1.slots)
        refine OGo.step (fun _ kk => XS.bipush X363.here hx rfl (hb hby at_190) kk) ?_
        show OGo p e below (T363.setTop (mkF m 192 #[.val (.int p1), .val (.long j1), .second, .val (.int nn), .val (.int (((p1.toUInt32 >>> ((3 : Int32) &&& 31).toUInt32).toInt32) &&& (3 : Int32))), .val (.int (((p1.toUInt32 >>> ((5 : Int32) &&& 31).toUInt32).toInt32) &&& (127 : Int32))), .val (.int c0_), .val (.int c1_), .val (.int c2_), .val (.int c3_), .val (.int c4_), .val (.int c5_), .val (.int c6_), .val (.ref xs), .val .null, .unset] [(.int (100 : Int32)), (.int c0_)])) (OEndW s Z consts_1 (fun v h L => v = some (.int (1 : Int32)) ∧ Fr n0 L) room_1.cells room_1.slots)
        by_cases hq185_1 : c0_ = (100 : Int32)
        · refine OGo.step (fun _ kk => XS.icmpNo X363.here hx rfl (hb hby at_192) rfl (teq hq185_1).2 kk) ?_
          show OGo p e below (T363.setTop (mkF m 195 #[.val (.int p1), .val (.long j1), .second, .val (.int nn), .val (.int (((p1.toUInt32 >>> ((3 : Int32) &&& 31).toUInt32).toInt32) &&& (3 : Int32))), .val (.int (((p1.toUInt32 >>> ((5 : Int32) &&& 31).toUInt32).toInt32) &&& (127 : Int32))), .val (.int c0_), .val (.int c1_), .val (.int c2_), .val (.int c3_), .val (.int c4_), .val (.int c5_), .val (.int c6_), .val (.ref xs), .val .null, .unset] [])) (OEndW s Z consts_1 (fun v h L => v = some (.int (1 : Int32)) ∧ Fr n0 L) room_1.cells room_1.slots)
          refine OGo.step (fun _ kk => XS.iload X363.here hx rfl (hb hby at_195) rfl kk) ?_
          show OGo p e below (T363.setTop (mkF m 197 #[.val (.int p1), .val (.long j1), .second, .val (.int nn), .val (.int (((p1.toUInt32 >>> ((3 : Int32) &&& 31).toUInt32).toInt32) &&& (3 : Int32))), .val (.int (((p1.toUInt32 >>> ((5 : Int32) &&& 31).toUInt32).toInt32) &&& (127 : Int32))), .val (.int c0_), .val (.int c1_), .val (.int c2_), .val (.int c3_), .val (.int c4_), .val (.int c5_), .val (.int c6_), .val (.ref xs), .val .null, .unset] [(.int c1_)])) (OEndW s Z consts_1 (fun v h L => v = some (.int (1 : Int32)) ∧ Fr n0 L) room_1.cells room_1.slots)
          refine OGo.step (fun _ kk => XS.bipush X363.here hx rfl (hb hby at_197) kk) ?_
          show OGo p e below (T363.setTop (mkF m 199 #[.val (.int p1), .val (.long j1), .second, .val (.int nn), .val (.int (((p1.toUInt32 >>> ((3 : Int32) &&& 31).toUInt32).toInt32) &&& (3 : Int32))), .val (.int (((p1.toUInt32 >>> ((5 : Int32) &&& 31).toUInt32).toInt32) &&& (127 : Int32))), .val (.int c0_), .val (.int c1_), .val (.int c2_), .val (.int c3_), .val (.int c4_), .val (.int c5_), .val (.int c6_), .val (.ref xs), .val .null, .unset] [(.int (101 : Int32)), (.int c1_)])) (OEndW s Z consts_1 (fun v h L => v = some (.int (1 : Int32)) ∧ Fr n0 L) room_1.cells room_1.slots)
          by_cases hq185_2 : c1_ = (101 : Int32)
          · refine OGo.step (fun _ kk => XS.icmpNo X363.here hx rfl (hb hby at_199) rfl (teq hq185_2).2 kk) ?_
            show OGo p e below (T363.setTop (mkF m 202 #[.val (.int p1), .val (.long j1), .second, .val (.int nn), .val (.int (((p1.toUInt32 >>> ((3 : Int32) &&& 31).toUInt32).toInt32) &&& (3 : Int32))), .val (.int (((p1.toUInt32 >>> ((5 : Int32) &&& 31).toUInt32).toInt32) &&& (127 : Int32))), .val (.int c0_), .val (.int c1_), .val (.int c2_), .val (.int c3_), .val (.int c4_), .val (.int c5_), .val (.int c6_), .val (.ref xs), .val .null, .unset] [])) (OEndW s Z consts_1 (fun v h L => v = some (.int (1 : Int32)) ∧ Fr n0 L) room_1.cells room_1.slots)
            refine OGo.step (fun _ kk => XS.iload X363.here hx rfl (hb hby at_202) rfl kk) ?_
            show OGo p e below (T363.setTop (mkF m 204 #[.val (.int p1), .val (.long j1), .second, .val (.int nn), .val (.int (((p1.toUInt32 >>> ((3 : Int32) &&& 31).toUInt32).toInt32) &&& (3 : Int32))), .val (.int (((p1.toUInt32 >>> ((5 : Int32) &&& 31).toUInt32).toInt32) &&& (127 : Int32))), .val (.int c0_), .val (.int c1_), .val (.int c2_), .val (.int c3_), .val (.int c4_), .val (.int c5_), .val (.int c6_), .val (.ref xs), .val .null, .unset] [(.int c2_)])) (OEndW s Z consts_1 (fun v h L => v = some (.int (1 : Int32)) ∧ Fr n0 L) room_1.cells room_1.slots)
            refine OGo.step (fun _ kk => XS.bipush X363.here hx rfl (hb hby at_204) kk) ?_
            show OGo p e below (T363.setTop (mkF m 206 #[.val (.int p1), .val (.long j1), .second, .val (.int nn), .val (.int (((p1.toUInt32 >>> ((3 : Int32) &&& 31).toUInt32).toInt32) &&& (3 : Int32))), .val (.int (((p1.toUInt32 >>> ((5 : Int32) &&& 31).toUInt32).toInt32) &&& (127 : Int32))), .val (.int c0_), .val (.int c1_), .val (.int c2_), .val (.int c3_), .val (.int c4_), .val (.int c5_), .val (.int c6_), .val (.ref xs), .val .null, .unset] [(.int (110 : Int32)), (.int c2_)])) (OEndW s Z consts_1 (fun v h L => v = some (.int (1 : Int32)) ∧ Fr n0 L) room_1.cells room_1.slots)
            by_cases hq185_3 : c2_ = (110 : Int32)
            · refine OGo.step (fun _ kk => XS.icmpNo X363.here hx rfl (hb hby at_206) rfl (teq hq185_3).2 kk) ?_
              show OGo p e below (T363.setTop (mkF m 209 #[.val (.int p1), .val (.long j1), .second, .val (.int nn), .val (.int (((p1.toUInt32 >>> ((3 : Int32) &&& 31).toUInt32).toInt32) &&& (3 : Int32))), .val (.int (((p1.toUInt32 >>> ((5 : Int32) &&& 31).toUInt32).toInt32) &&& (127 : Int32))), .val (.int c0_), .val (.int c1_), .val (.int c2_), .val (.int c3_), .val (.int c4_), .val (.int c5_), .val (.int c6_), .val (.ref xs), .val .null, .unset] [])) (OEndW s Z consts_1 (fun v h L => v = some (.int (1 : Int32)) ∧ Fr n0 L) room_1.cells room_1.slots)
              refine OGo.step (fun _ kk => XS.iload X363.here hx rfl (hb hby at_209) rfl kk) ?_
              show OGo p e below (T363.setTop (mkF m 211 #[.val (.int p1), .val (.long j1), .second, .val (.int nn), .val (.int (((p1.toUInt32 >>> ((3 : Int32) &&& 31).toUInt32).toInt32) &&& (3 : Int32))), .val (.int (((p1.toUInt32 >>> ((5 : Int32) &&& 31).toUInt32).toInt32) &&& (127 : Int32))), .val (.int c0_), .val (.int c1_), .val (.int c2_), .val (.int c3_), .val (.int c4_), .val (.int c5_), .val (.int c6_), .val (.ref xs), .val .null, .unset] [(.int c3_)])) (OEndW s Z consts_1 (fun v h L => v = some (.int (1 : Int32)) ∧ Fr n0 L) room_1.cells room_1.slots)
              refine OGo.step (fun _ kk => XS.bipush X363.here hx rfl (hb hby at_211) kk) ?_
              show OGo p e below (T363.setTop (mkF m 213 #[.val (.int p1), .val (.long j1), .second, .val (.int nn), .val (.int (((p1.toUInt32 >>> ((3 : Int32) &&& 31).toUInt32).toInt32) &&& (3 : Int32))), .val (.int (((p1.toUInt32 >>> ((5 : Int32) &&& 31).toUInt32).toInt32) &&& (127 : Int32))), .val (.int c0_), .val (.int c1_), .val (.int c2_), .val (.int c3_), .val (.int c4_), .val (.int c5_), .val (.int c6_), .val (.ref xs), .val .null, .unset] [(.int (121 : Int32)), (.int c3_)])) (OEndW s Z consts_1 (fun v h L => v = some (.int (1 : Int32)) ∧ Fr n0 L) room_1.cells room_1.slots)
              by_cases hq185_4 : c3_ = (121 : Int32)
              · refine OGo.step (fun _ kk => XS.icmpNo X363.here hx rfl (hb hby at_213) rfl (teq hq185_4).2 kk) ?_
                show OGo p e below (T363.setTop (mkF m 216 #[.val (.int p1), .val (.long j1), .second, .val (.int nn), .val (.int (((p1.toUInt32 >>> ((3 : Int32) &&& 31).toUInt32).toInt32) &&& (3 : Int32))), .val (.int (((p1.toUInt32 >>> ((5 : Int32) &&& 31).toUInt32).toInt32) &&& (127 : Int32))), .val (.int c0_), .val (.int c1_), .val (.int c2_), .val (.int c3_), .val (.int c4_), .val (.int c5_), .val (.int c6_), .val (.ref xs), .val .null, .unset] [])) (OEndW s Z consts_1 (fun v h L => v = some (.int (1 : Int32)) ∧ Fr n0 L) room_1.cells room_1.slots)
                have xt364 := (own_ext_trans xt361 Xe363)
                have fx365 := SD_.ext xt364
                obtain ⟨T366, X366, e366, st366⟩ := getS2 X363 hx hZ hown (host := "") (Or.inl (hw _ (List.mem_of_getElem? (i := 138) rfl))) Via.refl rfl fx365 (g := (mkF m 216 #[.val (.int p1), .val (.long j1), .second, .val (.int nn), .val (.int (((p1.toUInt32 >>> ((3 : Int32) &&& 31).toUInt32).toInt32) &&& (3 : Int32))), .val (.int (((p1.toUInt32 >>> ((5 : Int32) &&& 31).toUInt32).toInt32) &&& (127 : Int32))), .val (.int c0_), .val (.int c1_), .val (.int c2_), .val (.int c3_), .val (.int c4_), .val (.int c5_), .val (.int c6_), .val (.ref xs), .val .null, .unset] [])) rfl (hb hby at_216)
                refine OGo.step st366 ?_
                show OGo p e below (T366.setTop (mkF m 219 #[.val (.int p1), .val (.long j1), .second, .val (.int nn), .val (.int (((p1.toUInt32 >>> ((3 : Int32) &&& 31).toUInt32).toInt32) &&& (3 : Int32))), .val (.int (((p1.toUInt32 >>> ((5 : Int32) &&& 31).toUInt32).toInt32) &&& (127 : Int32))), .val (.int c0_), .val (.int c1_), .val (.int c2_), .val (.int c3_), .val (.int c4_), .val (.int c5_), .val (.int c6_), .val (.ref xs), .val .null, .unset] [(.ref r1)])) (OEndW s Z consts_1 (fun v h L => v = some (.int (1 : Int32)) ∧ Fr n0 L) room_1.cells room_1.slots)
                refine OGo.step (fun _ kk => XS.astore X366.here hx rfl (hb hby at_219) rfl rfl (l' := #[.val (.int p1), .val (.long j1), .second, .val (.int nn), .val (.int (((p1.toUInt32 >>> ((3 : Int32) &&& 31).toUInt32).toInt32) &&& (3 : Int32))), .val (.int (((p1.toUInt32 >>> ((5 : Int32) &&& 31).toUInt32).toInt32) &&& (127 : Int32))), .val (.int c0_), .val (.int c1_), .val (.int c2_), .val (.int c3_), .val (.int c4_), .val (.int c5_), .val (.int c6_), .val (.ref xs), .val (.ref r1), .unset]) rfl kk) ?_
                show OGo p e below (T366.setTop (mkF m 221 #[.val (.int p1), .val (.long j1), .second, .val (.int nn), .val (.int (((p1.toUInt32 >>> ((3 : Int32) &&& 31).toUInt32).toInt32) &&& (3 : Int32))), .val (.int (((p1.toUInt32 >>> ((5 : Int32) &&& 31).toUInt32).toInt32) &&& (127 : Int32))), .val (.int c0_), .val (.int c1_), .val (.int c2_), .val (.int c3_), .val (.int c4_), .val (.int c5_), .val (.int c6_), .val (.ref xs), .val (.ref r1), .unset] [])) (OEndW s Z consts_1 (fun v h L => v = some (.int (1 : Int32)) ∧ Fr n0 L) room_1.cells room_1.slots)
                refine OGo.step (fun _ kk => XS.aload X366.here hx rfl (hb hby at_221) rfl rfl kk) ?_
                show OGo p e below (T366.setTop (mkF m 223 #[.val (.int p1), .val (.long j1), .second, .val (.int nn), .val (.int (((p1.toUInt32 >>> ((3 : Int32) &&& 31).toUInt32).toInt32) &&& (3 : Int32))), .val (.int (((p1.toUInt32 >>> ((5 : Int32) &&& 31).toUInt32).toInt32) &&& (127 : Int32))), .val (.int c0_), .val (.int c1_), .val (.int c2_), .val (.int c3_), .val (.int c4_), .val (.int c5_), .val (.int c6_), .val (.ref xs), .val (.ref r1), .unset] [(.ref xs)])) (OEndW s Z consts_1 (fun v h L => v = some (.int (1 : Int32)) ∧ Fr n0 L) room_1.cells room_1.slots)
                have fx367 := SV.ext xt364
                have fx368 := AV.ext xt364
                have fx369 := EV.ext xt364
                have fx370 := Ft0.ext xt364
                have fx371 := O0.ext xt364
                have fx372 := Ft1.ext xt364
                have fx373 := O1.ext xt364
                have fx374 := SE.ext xt364
                have fx375 := EO.ext xt364
                have fx376 := FO.ext xt364
                have fx377 := SC.ext xt364
                refine own_callS X366 hx hZ (y := (⟨"com/example/tenantd/tenantd/Permission", "ofText", "(Ljava/lang/String;)Ljava/util/Optional;"⟩ : MethodName)) hown (hw _ (List.mem_of_getElem? (i := 54) rfl)) (hw _ (List.mem_of_getElem? (i := 55) rfl)) (hw _ (List.mem_of_getElem? (i := 56) rfl)) (hw _ (List.mem_of_getElem? (i := 57) rfl)) (by decide) (W := 0) (own_ofS l Z a0 hw [] va vc r0 r1 t0 t1 eo zc xs _ T363.heap n0 sz363 fx377 hzc fx367 fx368 fx369 FV VS V0 fx370 fx371 V1 fx372 fx373 fx374 fx375 fx376 Os363) e366  (pc := 223) (Ls := #[.val (.int p1), .val (.long j1), .second, .val (.int nn), .val (.int (((p1.toUInt32 >>> ((3 : Int32) &&& 31).toUInt32).toInt32) &&& (3 : Int32))), .val (.int (((p1.toUInt32 >>> ((5 : Int32) &&& 31).toUInt32).toInt32) &&& (127 : Int32))), .val (.int c0_), .val (.int c1_), .val (.int c2_), .val (.int c3_), .val (.int c4_), .val (.int c5_), .val (.int c6_), .val (.ref xs), .val (.ref r1), .unset]) (argsL := [(.ref xs)]) (rest := []) (by rw [hml]; rfl) (lenOf own_pd8 rfl) rfl (hb hby at_223) (by decide) (by decide) (by decide) (by decide) ?_
                intro v378 T378 L378 X378 hQ378
                obtain ⟨ob, u378, rfl, N378, Xe378, Eb378, Gv378, hu378⟩ := hQ378
                show OGo p e below (T378.setTop (mkF m 226 #[.val (.int p1), .val (.long j1), .second, .val (.int nn), .val (.int (((p1.toUInt32 >>> ((3 : Int32) &&& 31).toUInt32).toInt32) &&& (3 : Int32))), .val (.int (((p1.toUInt32 >>> ((5 : Int32) &&& 31).toUInt32).toInt32) &&& (127 : Int32))), .val (.int c0_), .val (.int c1_), .val (.int c2_), .val (.int c3_), .val (.int c4_), .val (.int c5_), .val (.int c6_), .val (.ref xs), .val (.ref r1), .unset] [(.ref ob)])) (OEndW s Z consts_1 (fun v h L => v = some (.int (1 : Int32)) ∧ Fr n0 L) room_1.cells room_1.slots)
                have Nc378 := Fr.app Nc363 N378
                have sz378 : n0 ≤ T378.heap.size := Nat.le_trans sz363 Xe378.1
                have OW379 := OW363.ext Xe378
                have hu : u378 = (.ref r1) := hu378.trans (by rw [own_of, if_neg (fun z => hna (Option.some.inj z)), if_pos (congrArg some ((own_mk_deny _ _ _ _ _ _ _ _).mpr ⟨hq185_0, hq185_1, hq185_2, hq185_3, hq185_4⟩))])
                rw [hu] at Gv378
                refine OGo.step (fun _ kk => XS.aconstNull X378.here hx rfl (hb hby at_226) kk) ?_
                show OGo p e below (T378.setTop (mkF m 227 #[.val (.int p1), .val (.long j1), .second, .val (.int nn), .val (.int (((p1.toUInt32 >>> ((3 : Int32) &&& 31).toUInt32).toInt32) &&& (3 : Int32))), .val (.int (((p1.toUInt32 >>> ((5 : Int32) &&& 31).toUInt32).toInt32) &&& (127 : Int32))), .val (.int c0_), .val (.int c1_), .val (.int c2_), .val (.int c3_), .val (.int c4_), .val (.int c5_), .val (.int c6_), .val (.ref xs), .val (.ref r1), .unset] [.null, (.ref ob)])) (OEndW s Z consts_1 (fun v h L => v = some (.int (1 : Int32)) ∧ Fr n0 L) room_1.cells room_1.slots)
                refine own_virtual X378 hx hZ (y := (⟨"java/util/Optional", "orElse", "(Ljava/lang/Object;)Ljava/lang/Object;"⟩ : MethodName)) (z := (⟨"java/util/Optional", "orElse", "(Ljava/lang/Object;)Ljava/lang/Object;"⟩ : MethodName)) hown (hw _ (List.mem_of_getElem? (i := 91) rfl)) (hw _ (List.mem_of_getElem? (i := 92) rfl)) (notFace_of_selects (args := #[]) (mvT hZ (hw _ (List.mem_of_getElem? (i := 94) rfl)))) (hw _ (List.mem_of_getElem? (i := 94) rfl)) (hw _ (List.mem_of_getElem? (i := 93) rfl)) (by decide) (hw _ (List.mem_of_getElem? (i := 95) rfl)) (hw _ (List.mem_of_getElem? (i := 88) rfl)) (b := ob) Eb378 (W := 0) (own_orElseR l Z a0 hw [] ob r1 T378.heap n0 sz378 Gv378) rfl  (pc := 227) (Ls := #[.val (.int p1), .val (.long j1), .second, .val (.int nn), .val (.int (((p1.toUInt32 >>> ((3 : Int32) &&& 31).toUInt32).toInt32) &&& (3 : Int32))), .val (.int (((p1.toUInt32 >>> ((5 : Int32) &&& 31).toUInt32).toInt32) &&& (127 : Int32))), .val (.int c0_), .val (.int c1_), .val (.int c2_), .val (.int c3_), .val (.int c4_), .val (.int c5_), .val (.int c6_), .val (.ref xs), .val (.ref r1), .unset]) (argsL := [.null]) (rest := []) (by rw [hml]; rfl) (lenOf own_pd9 rfl) rfl (hb hby at_227) (by decide) (by decide) (by decide) (by decide) ?_
                intro v380 T380 L380 X380 hQ380
                obtain ⟨rfl, N380, e380⟩ := hQ380
                show OGo p e below (T380.setTop (mkF m 230 #[.val (.int p1), .val (.long j1), .second, .val (.int nn), .val (.int (((p1.toUInt32 >>> ((3 : Int32) &&& 31).toUInt32).toInt32) &&& (3 : Int32))), .val (.int (((p1.toUInt32 >>> ((5 : Int32) &&& 31).toUInt32).toInt32) &&& (127 : Int32))), .val (.int c0_), .val (.int c1_), .val (.int c2_), .val (.int c3_), .val (.int c4_), .val (.int c5_), .val (.int c6_), .val (.ref xs), .val (.ref r1), .unset] [(.ref r1)])) (OEndW s Z consts_1 (fun v h L => v = some (.int (1 : Int32)) ∧ Fr n0 L) room_1.cells room_1.slots)
                have Nc380 := Fr.app Nc378 N380
                have xt381 := (own_ext_trans xt364 Xe378)
                have fx382 := ED.ext xt381
                obtain ⟨T383, X383, e383, st383⟩ := castY X380 hx hZ hown (hw _ (List.mem_of_getElem? (i := 136) rfl)) e380 (Ins.self fx382) (g := (mkF m 230 #[.val (.int p1), .val (.long j1), .second, .val (.int nn), .val (.int (((p1.toUInt32 >>> ((3 : Int32) &&& 31).toUInt32).toInt32) &&& (3 : Int32))), .val (.int (((p1.toUInt32 >>> ((5 : Int32) &&& 31).toUInt32).toInt32) &&& (127 : Int32))), .val (.int c0_), .val (.int c1_), .val (.int c2_), .val (.int c3_), .val (.int c4_), .val (.int c5_), .val (.int c6_), .val (.ref xs), .val (.ref r1), .unset] [(.ref r1)])) rfl rfl (hb hby at_230)
                refine OGo.step st383 ?_
                show OGo p e below (T383.setTop (mkF m 233 #[.val (.int p1), .val (.long j1), .second, .val (.int nn), .val (.int (((p1.toUInt32 >>> ((3 : Int32) &&& 31).toUInt32).toInt32) &&& (3 : Int32))), .val (.int (((p1.toUInt32 >>> ((5 : Int32) &&& 31).toUInt32).toInt32) &&& (127 : Int32))), .val (.int c0_), .val (.int c1_), .val (.int c2_), .val (.int c3_), .val (.int c4_), .val (.int c5_), .val (.int c6_), .val (.ref xs), .val (.ref r1), .unset] [(.ref r1)])) (OEndW s Z consts_1 (fun v h L => v = some (.int (1 : Int32)) ∧ Fr n0 L) room_1.cells room_1.slots)
                refine OGo.step (fun _ kk => XS.astore X383.here hx rfl (hb hby at_233) rfl rfl (l' := #[.val (.int p1), .val (.long j1), .second, .val (.int nn), .val (.int (((p1.toUInt32 >>> ((3 : Int32) &&& 31).toUInt32).toInt32) &&& (3 : Int32))), .val (.int (((p1.toUInt32 >>> ((5 : Int32) &&& 31).toUInt32).toInt32) &&& (127 : Int32))), .val (.int c0_), .val (.int c1_), .val (.int c2_), .val (.int c3_), .val (.int c4_), .val (.int c5_), .val (.int c6_), .val (.ref xs), .val (.ref r1), .val (.ref r1)]) rfl kk) ?_
                show OGo p e below (T383.setTop (mkF m 235 #[.val (.int p1), .val (.long j1), .second, .val (.int nn), .val (.int (((p1.toUInt32 >>> ((3 : Int32) &&& 31).toUInt32).toInt32) &&& (3 : Int32))), .val (.int (((p1.toUInt32 >>> ((5 : Int32) &&& 31).toUInt32).toInt32) &&& (127 : Int32))), .val (.int c0_), .val (.int c1_), .val (.int c2_), .val (.int c3_), .val (.int c4_), .val (.int c5_), .val (.int c6_), .val (.ref xs), .val (.ref r1), .val (.ref r1)] [])) (OEndW s Z consts_1 (fun v h L => v = some (.int (1 : Int32)) ∧ Fr n0 L) room_1.cells room_1.slots)
                refine OGo.step (fun _ kk => XS.aload X383.here hx rfl (hb hby at_235) rfl rfl kk) ?_
                show OGo p e below (T383.setTop (mkF m 237 #[.val (.int p1), .val (.long j1), .second, .val (.int nn), .val (.int (((p1.toUInt32 >>> ((3 : Int32) &&& 31).toUInt32).toInt32) &&& (3 : Int32))), .val (.int (((p1.toUInt32 >>> ((5 : Int32) &&& 31).toUInt32).toInt32) &&& (127 : Int32))), .val (.int c0_), .val (.int c1_), .val (.int c2_), .val (.int c3_), .val (.int c4_), .val (.int c5_), .val (.int c6_), .val (.ref xs), .val (.ref r1), .val (.ref r1)] [(.ref r1)])) (OEndW s Z consts_1 (fun v h L => v = some (.int (1 : Int32)) ∧ Fr n0 L) room_1.cells room_1.slots)
                refine OGo.step (fun _ kk => XS.aload X383.here hx rfl (hb hby at_237) rfl rfl kk) ?_
                show OGo p e below (T383.setTop (mkF m 239 #[.val (.int p1), .val (.long j1), .second, .val (.int nn), .val (.int (((p1.toUInt32 >>> ((3 : Int32) &&& 31).toUInt32).toInt32) &&& (3 : Int32))), .val (.int (((p1.toUInt32 >>> ((5 : Int32) &&& 31).toUInt32).toInt32) &&& (127 : Int32))), .val (.int c0_), .val (.int c1_), .val (.int c2_), .val (.int c3_), .val (.int c4_), .val (.int c5_), .val (.int c6_), .val (.ref xs), .val (.ref r1), .val (.ref r1)] [(.ref r1), (.ref r1)])) (OEndW s Z consts_1 (fun v h L => v = some (.int (1 : Int32)) ∧ Fr n0 L) room_1.cells room_1.slots)
                refine OGo.step (fun _ kk => Jvm.RoadKit.acmp (g := (mkF m 239 #[.val (.int p1), .val (.long j1), .second, .val (.int nn), .val (.int (((p1.toUInt32 >>> ((3 : Int32) &&& 31).toUInt32).toInt32) &&& (3 : Int32))), .val (.int (((p1.toUInt32 >>> ((5 : Int32) &&& 31).toUInt32).toInt32) &&& (127 : Int32))), .val (.int c0_), .val (.int c1_), .val (.int c2_), .val (.int c3_), .val (.int c4_), .val (.int c5_), .val (.int c6_), .val (.ref xs), .val (.ref r1), .val (.ref r1)] [(.ref r1), (.ref r1)])) X383 hx rfl rfl rfl (pc0 := 239) (pc' := 242) (same := true) rfl (hb hby at_239) rfl (decide_eq_true rfl) (by decide) (by decide) kk) ?_
                show OGo p e below (T383.setTop (mkF m 242 #[.val (.int p1), .val (.long j1), .second, .val (.int nn), .val (.int (((p1.toUInt32 >>> ((3 : Int32) &&& 31).toUInt32).toInt32) &&& (3 : Int32))), .val (.int (((p1.toUInt32 >>> ((5 : Int32) &&& 31).toUInt32).toInt32) &&& (127 : Int32))), .val (.int c0_), .val (.int c1_), .val (.int c2_), .val (.int c3_), .val (.int c4_), .val (.int c5_), .val (.int c6_), .val (.ref xs), .val (.ref r1), .val (.ref r1)] [])) (OEndW s Z consts_1 (fun v h L => v = some (.int (1 : Int32)) ∧ Fr n0 L) room_1.cells room_1.slots)
                refine OGo.step (fun _ kk => XS.iconst X383.here hx rfl (hb hby at_242) kk) ?_
                show OGo p e below (T383.setTop (mkF m 243 #[.val (.int p1), .val (.long j1), .second, .val (.int nn), .val (.int (((p1.toUInt32 >>> ((3 : Int32) &&& 31).toUInt32).toInt32) &&& (3 : Int32))), .val (.int (((p1.toUInt32 >>> ((5 : Int32) &&& 31).toUInt32).toInt32) &&& (127 : Int32))), .val (.int c0_), .val (.int c1_), .val (.int c2_), .val (.int c3_), .val (.int c4_), .val (.int c5_), .val (.int c6_), .val (.ref xs), .val (.ref r1), .val (.ref r1)] [(.int (1 : Int32))])) (OEndW s Z consts_1 (fun v h L => v = some (.int (1 : Int32)) ∧ Fr n0 L) room_1.cells room_1.slots)
                refine OGo.step (fun _ kk => XS.goto X383.here hx rfl (pc0 := 243) (pc' := 247) rfl (hb hby at_243) (by decide) (by decide) kk) ?_
                show OGo p e below (T383.setTop (mkF m 247 #[.val (.int p1), .val (.long j1), .second, .val (.int nn), .val (.int (((p1.toUInt32 >>> ((3 : Int32) &&& 31).toUInt32).toInt32) &&& (3 : Int32))), .val (.int (((p1.toUInt32 >>> ((5 : Int32) &&& 31).toUInt32).toInt32) &&& (127 : Int32))), .val (.int c0_), .val (.int c1_), .val (.int c2_), .val (.int c3_), .val (.int c4_), .val (.int c5_), .val (.int c6_), .val (.ref xs), .val (.ref r1), .val (.ref r1)] [(.int (1 : Int32))])) (OEndW s Z consts_1 (fun v h L => v = some (.int (1 : Int32)) ∧ Fr n0 L) room_1.cells room_1.slots)
                exact own_retNW X383 hx hlk hEL OW379 e383 hret (by simp) (hb hby at_247) ⟨by rw [own_nar1], Nc380⟩ (by decide) (by decide)
              · refine OGo.step (fun _ kk => XS.icmpYes X363.here hx rfl (pc0 := 213) (pc' := 221) rfl (hb hby at_213) rfl (feq hq185_4).2 (by decide) (by decide) kk) ?_
                show OGo p e below (T363.setTop (mkF m 221 #[.val (.int p1), .val (.long j1), .second, .val (.int nn), .val (.int (((p1.toUInt32 >>> ((3 : Int32) &&& 31).toUInt32).toInt32) &&& (3 : Int32))), .val (.int (((p1.toUInt32 >>> ((5 : Int32) &&& 31).toUInt32).toInt32) &&& (127 : Int32))), .val (.int c0_), .val (.int c1_), .val (.int c2_), .val (.int c3_), .val (.int c4_), .val (.int c5_), .val (.int c6_), .val (.ref xs), .val .null, .unset] [])) (OEndW s Z consts_1 (fun v h L => v = some (.int (1 : Int32)) ∧ Fr n0 L) room_1.cells room_1.slots)
                refine OGo.step (fun _ kk => XS.aload X363.here hx rfl (hb hby at_221) rfl rfl kk) ?_
                show OGo p e below (T363.setTop (mkF m 223 #[.val (.int p1), .val (.long j1), .second, .val (.int nn), .val (.int (((p1.toUInt32 >>> ((3 : Int32) &&& 31).toUInt32).toInt32) &&& (3 : Int32))), .val (.int (((p1.toUInt32 >>> ((5 : Int32) &&& 31).toUInt32).toInt32) &&& (127 : Int32))), .val (.int c0_), .val (.int c1_), .val (.int c2_), .val (.int c3_), .val (.int c4_), .val (.int c5_), .val (.int c6_), .val (.ref xs), .val .null, .unset] [(.ref xs)])) (OEndW s Z consts_1 (fun v h L => v = some (.int (1 : Int32)) ∧ Fr n0 L) room_1.cells room_1.slots)
                have xt384 := (own_ext_trans xt361 Xe363)
                have fx385 := SV.ext xt384
                have fx386 := AV.ext xt384
                have fx387 := EV.ext xt384
                have fx388 := Ft0.ext xt384
                have fx389 := O0.ext xt384
                have fx390 := Ft1.ext xt384
                have fx391 := O1.ext xt384
                have fx392 := SE.ext xt384
                have fx393 := EO.ext xt384
                have fx394 := FO.ext xt384
                have fx395 := SC.ext xt384
                refine own_callS X363 hx hZ (y := (⟨"com/example/tenantd/tenantd/Permission", "ofText", "(Ljava/lang/String;)Ljava/util/Optional;"⟩ : MethodName)) hown (hw _ (List.mem_of_getElem? (i := 54) rfl)) (hw _ (List.mem_of_getElem? (i := 55) rfl)) (hw _ (List.mem_of_getElem? (i := 56) rfl)) (hw _ (List.mem_of_getElem? (i := 57) rfl)) (by decide) (W := 0) (own_ofS l Z a0 hw [] va vc r0 r1 t0 t1 eo zc xs _ T363.heap n0 sz363 fx395 hzc fx385 fx386 fx387 FV VS V0 fx388 fx389 V1 fx390 fx391 fx392 fx393 fx394 Os363) rfl  (pc := 223) (Ls := #[.val (.int p1), .val (.long j1), .second, .val (.int nn), .val (.int (((p1.toUInt32 >>> ((3 : Int32) &&& 31).toUInt32).toInt32) &&& (3 : Int32))), .val (.int (((p1.toUInt32 >>> ((5 : Int32) &&& 31).toUInt32).toInt32) &&& (127 : Int32))), .val (.int c0_), .val (.int c1_), .val (.int c2_), .val (.int c3_), .val (.int c4_), .val (.int c5_), .val (.int c6_), .val (.ref xs), .val .null, .unset]) (argsL := [(.ref xs)]) (rest := []) (by rw [hml]; rfl) (lenOf own_pd8 rfl) rfl (hb hby at_223) (by decide) (by decide) (by decide) (by decide) ?_
                intro v396 T396 L396 X396 hQ396
                obtain ⟨ob, u396, rfl, N396, Xe396, Eb396, Gv396, hu396⟩ := hQ396
                show OGo p e below (T396.setTop (mkF m 226 #[.val (.int p1), .val (.long j1), .second, .val (.int nn), .val (.int (((p1.toUInt32 >>> ((3 : Int32) &&& 31).toUInt32).toInt32) &&& (3 : Int32))), .val (.int (((p1.toUInt32 >>> ((5 : Int32) &&& 31).toUInt32).toInt32) &&& (127 : Int32))), .val (.int c0_), .val (.int c1_), .val (.int c2_), .val (.int c3_), .val (.int c4_), .val (.int c5_), .val (.int c6_), .val (.ref xs), .val .null, .unset] [(.ref ob)])) (OEndW s Z consts_1 (fun v h L => v = some (.int (1 : Int32)) ∧ Fr n0 L) room_1.cells room_1.slots)
                have Nc396 := Fr.app Nc363 N396
                have sz396 : n0 ≤ T396.heap.size := Nat.le_trans sz363 Xe396.1
                have OW397 := OW363.ext Xe396
                have hu : u396 = .null := hu396.trans (by rw [own_of, if_neg (fun z => hna (Option.some.inj z)), if_neg (fun z => hq185_4 ((own_mk_deny _ _ _ _ _ _ _ _).mp (Option.some.inj z)).2.2.2.2)])
                rw [hu] at Gv396
                refine OGo.step (fun _ kk => XS.aconstNull X396.here hx rfl (hb hby at_226) kk) ?_
                show OGo p e below (T396.setTop (mkF m 227 #[.val (.int p1), .val (.long j1), .second, .val (.int nn), .val (.int (((p1.toUInt32 >>> ((3 : Int32) &&& 31).toUInt32).toInt32) &&& (3 : Int32))), .val (.int (((p1.toUInt32 >>> ((5 : Int32) &&& 31).toUInt32).toInt32) &&& (127 : Int32))), .val (.int c0_), .val (.int c1_), .val (.int c2_), .val (.int c3_), .val (.int c4_), .val (.int c5_), .val (.int c6_), .val (.ref xs), .val .null, .unset] [.null, (.ref ob)])) (OEndW s Z consts_1 (fun v h L => v = some (.int (1 : Int32)) ∧ Fr n0 L) room_1.cells room_1.slots)
                refine own_virtual X396 hx hZ (y := (⟨"java/util/Optional", "orElse", "(Ljava/lang/Object;)Ljava/lang/Object;"⟩ : MethodName)) (z := (⟨"java/util/Optional", "orElse", "(Ljava/lang/Object;)Ljava/lang/Object;"⟩ : MethodName)) hown (hw _ (List.mem_of_getElem? (i := 91) rfl)) (hw _ (List.mem_of_getElem? (i := 92) rfl)) (notFace_of_selects (args := #[]) (mvT hZ (hw _ (List.mem_of_getElem? (i := 94) rfl)))) (hw _ (List.mem_of_getElem? (i := 94) rfl)) (hw _ (List.mem_of_getElem? (i := 93) rfl)) (by decide) (hw _ (List.mem_of_getElem? (i := 95) rfl)) (hw _ (List.mem_of_getElem? (i := 88) rfl)) (b := ob) Eb396 (W := 0) (own_orElseN l Z a0 hw [] ob T396.heap n0 sz396 Gv396) rfl  (pc := 227) (Ls := #[.val (.int p1), .val (.long j1), .second, .val (.int nn), .val (.int (((p1.toUInt32 >>> ((3 : Int32) &&& 31).toUInt32).toInt32) &&& (3 : Int32))), .val (.int (((p1.toUInt32 >>> ((5 : Int32) &&& 31).toUInt32).toInt32) &&& (127 : Int32))), .val (.int c0_), .val (.int c1_), .val (.int c2_), .val (.int c3_), .val (.int c4_), .val (.int c5_), .val (.int c6_), .val (.ref xs), .val .null, .unset]) (argsL := [.null]) (rest := []) (by rw [hml]; rfl) (lenOf own_pd9 rfl) rfl (hb hby at_227) (by decide) (by decide) (by decide) (by decide) ?_
                intro v398 T398 L398 X398 hQ398
                obtain ⟨rfl, N398, e398⟩ := hQ398
                show OGo p e below (T398.setTop (mkF m 230 #[.val (.int p1), .val (.long j1), .second, .val (.int nn), .val (.int (((p1.toUInt32 >>> ((3 : Int32) &&& 31).toUInt32).toInt32) &&& (3 : Int32))), .val (.int (((p1.toUInt32 >>> ((5 : Int32) &&& 31).toUInt32).toInt32) &&& (127 : Int32))), .val (.int c0_), .val (.int c1_), .val (.int c2_), .val (.int c3_), .val (.int c4_), .val (.int c5_), .val (.int c6_), .val (.ref xs), .val .null, .unset] [.null])) (OEndW s Z consts_1 (fun v h L => v = some (.int (1 : Int32)) ∧ Fr n0 L) room_1.cells room_1.slots)
                have Nc398 := Fr.app Nc396 N398
                refine OGo.step (fun _ kk => X398.checkcastNull hx (g := (mkF m 230 #[.val (.int p1), .val (.long j1), .second, .val (.int nn), .val (.int (((p1.toUInt32 >>> ((3 : Int32) &&& 31).toUInt32).toInt32) &&& (3 : Int32))), .val (.int (((p1.toUInt32 >>> ((5 : Int32) &&& 31).toUInt32).toInt32) &&& (127 : Int32))), .val (.int c0_), .val (.int c1_), .val (.int c2_), .val (.int c3_), .val (.int c4_), .val (.int c5_), .val (.int c6_), .val (.ref xs), .val .null, .unset] [.null])) rfl rfl (hb hby at_230) _ kk) ?_
                show OGo p e below (T398.setTop (mkF m 233 #[.val (.int p1), .val (.long j1), .second, .val (.int nn), .val (.int (((p1.toUInt32 >>> ((3 : Int32) &&& 31).toUInt32).toInt32) &&& (3 : Int32))), .val (.int (((p1.toUInt32 >>> ((5 : Int32) &&& 31).toUInt32).toInt32) &&& (127 : Int32))), .val (.int c0_), .val (.int c1_), .val (.int c2_), .val (.int c3_), .val (.int c4_), .val (.int c5_), .val (.int c6_), .val (.ref xs), .val .null, .unset] [.null])) (OEndW s Z consts_1 (fun v h L => v = some (.int (1 : Int32)) ∧ Fr n0 L) room_1.cells room_1.slots)
                refine OGo.step (fun _ kk => XS.astore X398.here hx rfl (hb hby at_233) rfl rfl (l' := #[.val (.int p1), .val (.long j1), .second, .val (.int nn), .val (.int (((p1.toUInt32 >>> ((3 : Int32) &&& 31).toUInt32).toInt32) &&& (3 : Int32))), .val (.int (((p1.toUInt32 >>> ((5 : Int32) &&& 31).toUInt32).toInt32) &&& (127 : Int32))), .val (.int c0_), .val (.int c1_), .val (.int c2_), .val (.int c3_), .val (.int c4_), .val (.int c5_), .val (.int c6_), .val (.ref xs), .val .null, .val .null]) rfl kk) ?_
                show OGo p e below (T398.setTop (mkF m 235 #[.val (.int p1), .val (.long j1), .second, .val (.int nn), .val (.int (((p1.toUInt32 >>> ((3 : Int32) &&& 31).toUInt32).toInt32) &&& (3 : Int32))), .val (.int (((p1.toUInt32 >>> ((5 : Int32) &&& 31).toUInt32).toInt32) &&& (127 : Int32))), .val (.int c0_), .val (.int c1_), .val (.int c2_), .val (.int c3_), .val (.int c4_), .val (.int c5_), .val (.int c6_), .val (.ref xs), .val .null, .val .null] [])) (OEndW s Z consts_1 (fun v h L => v = some (.int (1 : Int32)) ∧ Fr n0 L) room_1.cells room_1.slots)
                refine OGo.step (fun _ kk => XS.aload X398.here hx rfl (hb hby at_235) rfl rfl kk) ?_
                show OGo p e below (T398.setTop (mkF m 237 #[.val (.int p1), .val (.long j1), .second, .val (.int nn), .val (.int (((p1.toUInt32 >>> ((3 : Int32) &&& 31).toUInt32).toInt32) &&& (3 : Int32))), .val (.int (((p1.toUInt32 >>> ((5 : Int32) &&& 31).toUInt32).toInt32) &&& (127 : Int32))), .val (.int c0_), .val (.int c1_), .val (.int c2_), .val (.int c3_), .val (.int c4_), .val (.int c5_), .val (.int c6_), .val (.ref xs), .val .null, .val .null] [.null])) (OEndW s Z consts_1 (fun v h L => v = some (.int (1 : Int32)) ∧ Fr n0 L) room_1.cells room_1.slots)
                refine OGo.step (fun _ kk => XS.aload X398.here hx rfl (hb hby at_237) rfl rfl kk) ?_
                show OGo p e below (T398.setTop (mkF m 239 #[.val (.int p1), .val (.long j1), .second, .val (.int nn), .val (.int (((p1.toUInt32 >>> ((3 : Int32) &&& 31).toUInt32).toInt32) &&& (3 : Int32))), .val (.int (((p1.toUInt32 >>> ((5 : Int32) &&& 31).toUInt32).toInt32) &&& (127 : Int32))), .val (.int c0_), .val (.int c1_), .val (.int c2_), .val (.int c3_), .val (.int c4_), .val (.int c5_), .val (.int c6_), .val (.ref xs), .val .null, .val .null] [.null, .null])) (OEndW s Z consts_1 (fun v h L => v = some (.int (1 : Int32)) ∧ Fr n0 L) room_1.cells room_1.slots)
                refine OGo.step (fun _ kk => Jvm.RoadKit.acmp (g := (mkF m 239 #[.val (.int p1), .val (.long j1), .second, .val (.int nn), .val (.int (((p1.toUInt32 >>> ((3 : Int32) &&& 31).toUInt32).toInt32) &&& (3 : Int32))), .val (.int (((p1.toUInt32 >>> ((5 : Int32) &&& 31).toUInt32).toInt32) &&& (127 : Int32))), .val (.int c0_), .val (.int c1_), .val (.int c2_), .val (.int c3_), .val (.int c4_), .val (.int c5_), .val (.int c6_), .val (.ref xs), .val .null, .val .null] [.null, .null])) X398 hx rfl rfl rfl (pc0 := 239) (pc' := 242) (same := true) rfl (hb hby at_239) rfl (decide_eq_true rfl) (by decide) (by decide) kk) ?_
                show OGo p e below (T398.setTop (mkF m 242 #[.val (.int p1), .val (.long j1), .second, .val (.int nn), .val (.int (((p1.toUInt32 >>> ((3 : Int32) &&& 31).toUInt32).toInt32) &&& (3 : Int32))), .val (.int (((p1.toUInt32 >>> ((5 : Int32) &&& 31).toUInt32).toInt32) &&& (127 : Int32))), .val (.int c0_), .val (.int c1_), .val (.int c2_), .val (.int c3_), .val (.int c4_), .val (.int c5_), .val (.int c6_), .val (.ref xs), .val .null, .val .null] [])) (OEndW s Z consts_1 (fun v h L => v = some (.int (1 : Int32)) ∧ Fr n0 L) room_1.cells room_1.slots)
                refine OGo.step (fun _ kk => XS.iconst X398.here hx rfl (hb hby at_242) kk) ?_
                show OGo p e below (T398.setTop (mkF m 243 #[.val (.int p1), .val (.long j1), .second, .val (.int nn), .val (.int (((p1.toUInt32 >>> ((3 : Int32) &&& 31).toUInt32).toInt32) &&& (3 : Int32))), .val (.int (((p1.toUInt32 >>> ((5 : Int32) &&& 31).toUInt32).toInt32) &&& (127 : Int32))), .val (.int c0_), .val (.int c1_), .val (.int c2_), .val (.int c3_), .val (.int c4_), .val (.int c5_), .val (.int c6_), .val (.ref xs), .val .null, .val .null] [(.int (1 : Int32))])) (OEndW s Z consts_1 (fun v h L => v = some (.int (1 : Int32)) ∧ Fr n0 L) room_1.cells room_1.slots)
                refine OGo.step (fun _ kk => XS.goto X398.here hx rfl (pc0 := 243) (pc' := 247) rfl (hb hby at_243) (by decide) (by decide) kk) ?_
                show OGo p e below (T398.setTop (mkF m 247 #[.val (.int p1), .val (.long j1), .second, .val (.int nn), .val (.int (((p1.toUInt32 >>> ((3 : Int32) &&& 31).toUInt32).toInt32) &&& (3 : Int32))), .val (.int (((p1.toUInt32 >>> ((5 : Int32) &&& 31).toUInt32).toInt32) &&& (127 : Int32))), .val (.int c0_), .val (.int c1_), .val (.int c2_), .val (.int c3_), .val (.int c4_), .val (.int c5_), .val (.int c6_), .val (.ref xs), .val .null, .val .null] [(.int (1 : Int32))])) (OEndW s Z consts_1 (fun v h L => v = some (.int (1 : Int32)) ∧ Fr n0 L) room_1.cells room_1.slots)
                exact own_retNW X398 hx hlk hEL OW397 e398 hret (by simp) (hb hby at_247) ⟨by rw [own_nar1], Nc398⟩ (by decide) (by decide)
            · refine OGo.step (fun _ kk => XS.icmpYes X363.here hx rfl (pc0 := 206) (pc' := 221) rfl (hb hby at_206) rfl (feq hq185_3).2 (by decide) (by decide) kk) ?_
              show OGo p e below (T363.setTop (mkF m 221 #[.val (.int p1), .val (.long j1), .second, .val (.int nn), .val (.int (((p1.toUInt32 >>> ((3 : Int32) &&& 31).toUInt32).toInt32) &&& (3 : Int32))), .val (.int (((p1.toUInt32 >>> ((5 : Int32) &&& 31).toUInt32).toInt32) &&& (127 : Int32))), .val (.int c0_), .val (.int c1_), .val (.int c2_), .val (.int c3_), .val (.int c4_), .val (.int c5_), .val (.int c6_), .val (.ref xs), .val .null, .unset] [])) (OEndW s Z consts_1 (fun v h L => v = some (.int (1 : Int32)) ∧ Fr n0 L) room_1.cells room_1.slots)
              refine OGo.step (fun _ kk => XS.aload X363.here hx rfl (hb hby at_221) rfl rfl kk) ?_
              show OGo p e below (T363.setTop (mkF m 223 #[.val (.int p1), .val (.long j1), .second, .val (.int nn), .val (.int (((p1.toUInt32 >>> ((3 : Int32) &&& 31).toUInt32).toInt32) &&& (3 : Int32))), .val (.int (((p1.toUInt32 >>> ((5 : Int32) &&& 31).toUInt32).toInt32) &&& (127 : Int32))), .val (.int c0_), .val (.int c1_), .val (.int c2_), .val (.int c3_), .val (.int c4_), .val (.int c5_), .val (.int c6_), .val (.ref xs), .val .null, .unset] [(.ref xs)])) (OEndW s Z consts_1 (fun v h L => v = some (.int (1 : Int32)) ∧ Fr n0 L) room_1.cells room_1.slots)
              have xt399 := (own_ext_trans xt361 Xe363)
              have fx400 := SV.ext xt399
              have fx401 := AV.ext xt399
              have fx402 := EV.ext xt399
              have fx403 := Ft0.ext xt399
              have fx404 := O0.ext xt399
              have fx405 := Ft1.ext xt399
              have fx406 := O1.ext xt399
              have fx407 := SE.ext xt399
              have fx408 := EO.ext xt399
              have fx409 := FO.ext xt399
              have fx410 := SC.ext xt399
              refine own_callS X363 hx hZ (y := (⟨"com/example/tenantd/tenantd/Permission", "ofText", "(Ljava/lang/String;)Ljava/util/Optional;"⟩ : MethodName)) hown (hw _ (List.mem_of_getElem? (i := 54) rfl)) (hw _ (List.mem_of_getElem? (i := 55) rfl)) (hw _ (List.mem_of_getElem? (i := 56) rfl)) (hw _ (List.mem_of_getElem? (i := 57) rfl)) (by decide) (W := 0) (own_ofS l Z a0 hw [] va vc r0 r1 t0 t1 eo zc xs _ T363.heap n0 sz363 fx410 hzc fx400 fx401 fx402 FV VS V0 fx403 fx404 V1 fx405 fx406 fx407 fx408 fx409 Os363) rfl  (pc := 223) (Ls := #[.val (.int p1), .val (.long j1), .second, .val (.int nn), .val (.int (((p1.toUInt32 >>> ((3 : Int32) &&& 31).toUInt32).toInt32) &&& (3 : Int32))), .val (.int (((p1.toUInt32 >>> ((5 : Int32) &&& 31).toUInt32).toInt32) &&& (127 : Int32))), .val (.int c0_), .val (.int c1_), .val (.int c2_), .val (.int c3_), .val (.int c4_), .val (.int c5_), .val (.int c6_), .val (.ref xs), .val .null, .unset]) (argsL := [(.ref xs)]) (rest := []) (by rw [hml]; rfl) (lenOf own_pd8 rfl) rfl (hb hby at_223) (by decide) (by decide) (by decide) (by decide) ?_
              intro v411 T411 L411 X411 hQ411
              obtain ⟨ob, u411, rfl, N411, Xe411, Eb411, Gv411, hu411⟩ := hQ411
              show OGo p e below (T411.setTop (mkF m 226 #[.val (.int p1), .val (.long j1), .second, .val (.int nn), .val (.int (((p1.toUInt32 >>> ((3 : Int32) &&& 31).toUInt32).toInt32) &&& (3 : Int32))), .val (.int (((p1.toUInt32 >>> ((5 : Int32) &&& 31).toUInt32).toInt32) &&& (127 : Int32))), .val (.int c0_), .val (.int c1_), .val (.int c2_), .val (.int c3_), .val (.int c4_), .val (.int c5_), .val (.int c6_), .val (.ref xs), .val .null, .unset] [(.ref ob)])) (OEndW s Z consts_1 (fun v h L => v = some (.int (1 : Int32)) ∧ Fr n0 L) room_1.cells room_1.slots)
              have Nc411 := Fr.app Nc363 N411
              have sz411 : n0 ≤ T411.heap.size := Nat.le_trans sz363 Xe411.1
              have OW412 := OW363.ext Xe411
              have hu : u411 = .null := hu411.trans (by rw [own_of, if_neg (fun z => hna (Option.some.inj z)), if_neg (fun z => hq185_3 ((own_mk_deny _ _ _ _ _ _ _ _).mp (Option.some.inj z)).2.2.2.1)])
              rw [hu] at Gv411
              refine OGo.step (fun _ kk => XS.aconstNull X411.here hx rfl (hb hby at_226) kk) ?_
              show OGo p e below (T411.setTop (mkF m 227 #[.val (.int p1), .val (.long j1), .second, .val (.int nn), .val (.int (((p1.toUInt32 >>> ((3 : Int32) &&& 31).toUInt32).toInt32) &&& (3 : Int32))), .val (.int (((p1.toUInt32 >>> ((5 : Int32) &&& 31).toUInt32).toInt32) &&& (127 : Int32))), .val (.int c0_), .val (.int c1_), .val (.int c2_), .val (.int c3_), .val (.int c4_), .val (.int c5_), .val (.int c6_), .val (.ref xs), .val .null, .unset] [.null, (.ref ob)])) (OEndW s Z consts_1 (fun v h L => v = some (.int (1 : Int32)) ∧ Fr n0 L) room_1.cells room_1.slots)
              refine own_virtual X411 hx hZ (y := (⟨"java/util/Optional", "orElse", "(Ljava/lang/Object;)Ljava/lang/Object;"⟩ : MethodName)) (z := (⟨"java/util/Optional", "orElse", "(Ljava/lang/Object;)Ljava/lang/Object;"⟩ : MethodName)) hown (hw _ (List.mem_of_getElem? (i := 91) rfl)) (hw _ (List.mem_of_getElem? (i := 92) rfl)) (notFace_of_selects (args := #[]) (mvT hZ (hw _ (List.mem_of_getElem? (i := 94) rfl)))) (hw _ (List.mem_of_getElem? (i := 94) rfl)) (hw _ (List.mem_of_getElem? (i := 93) rfl)) (by decide) (hw _ (List.mem_of_getElem? (i := 95) rfl)) (hw _ (List.mem_of_getElem? (i := 88) rfl)) (b := ob) Eb411 (W := 0) (own_orElseN l Z a0 hw [] ob T411.heap n0 sz411 Gv411) rfl  (pc := 227) (Ls := #[.val (.int p1), .val (.long j1), .second, .val (.int nn), .val (.int (((p1.toUInt32 >>> ((3 : Int32) &&& 31).toUInt32).toInt32) &&& (3 : Int32))), .val (.int (((p1.toUInt32 >>> ((5 : Int32) &&& 31).toUInt32).toInt32) &&& (127 : Int32))), .val (.int c0_), .val (.int c1_), .val (.int c2_), .val (.int c3_), .val (.int c4_), .val (.int c5_), .val (.int c6_), .val (.ref xs), .val .null, .unset]) (argsL := [.null]) (rest := []) (by rw [hml]; rfl) (lenOf own_pd9 rfl) rfl (hb hby at_227) (by decide) (by decide) (by decide) (by decide) ?_
              intro v413 T413 L413 X413 hQ413
              obtain ⟨rfl, N413, e413⟩ := hQ413
              show OGo p e below (T413.setTop (mkF m 230 #[.val (.int p1), .val (.long j1), .second, .val (.int nn), .val (.int (((p1.toUInt32 >>> ((3 : Int32) &&& 31).toUInt32).toInt32) &&& (3 : Int32))), .val (.int (((p1.toUInt32 >>> ((5 : Int32) &&& 31).toUInt32).toInt32) &&& (127 : Int32))), .val (.int c0_), .val (.int c1_), .val (.int c2_), .val (.int c3_), .val (.int c4_), .val (.int c5_), .val (.int c6_), .val (.ref xs), .val .null, .unset] [.null])) (OEndW s Z consts_1 (fun v h L => v = some (.int (1 : Int32)) ∧ Fr n0 L) room_1.cells room_1.slots)
              have Nc413 := Fr.app Nc411 N413
              refine OGo.step (fun _ kk => X413.checkcastNull hx (g := (mkF m 230 #[.val (.int p1), .val (.long j1), .second, .val (.int nn), .val (.int (((p1.toUInt32 >>> ((3 : Int32) &&& 31).toUInt32).toInt32) &&& (3 : Int32))), .val (.int (((p1.toUInt32 >>> ((5 : Int32) &&& 31).toUInt32).toInt32) &&& (127 : Int32))), .val (.int c0_), .val (.int c1_), .val (.int c2_), .val (.int c3_), .val (.int c4_), .val (.int c5_), .val (.int c6_), .val (.ref xs), .val .null, .unset] [.null])) rfl rfl (hb hby at_230) _ kk) ?_
              show OGo p e below (T413.setTop (mkF m 233 #[.val (.int p1), .val (.long j1), .second, .val (.int nn), .val (.int (((p1.toUInt32 >>> ((3 : Int32) &&& 31).toUInt32).toInt32) &&& (3 : Int32))), .val (.int (((p1.toUInt32 >>> ((5 : Int32) &&& 31).toUInt32).toInt32) &&& (127 : Int32))), .val (.int c0_), .val (.int c1_), .val (.int c2_), .val (.int c3_), .val (.int c4_), .val (.int c5_), .val (.int c6_), .val (.ref xs), .val .null, .unset] [.null])) (OEndW s Z consts_1 (fun v h L => v = some (.int (1 : Int32)) ∧ Fr n0 L) room_1.cells room_1.slots)
              refine OGo.step (fun _ kk => XS.astore X413.here hx rfl (hb hby at_233) rfl rfl (l' := #[.val (.int p1), .val (.long j1), .second, .val (.int nn), .val (.int (((p1.toUInt32 >>> ((3 : Int32) &&& 31).toUInt32).toInt32) &&& (3 : Int32))), .val (.int (((p1.toUInt32 >>> ((5 : Int32) &&& 31).toUInt32).toInt32) &&& (127 : Int32))), .val (.int c0_), .val (.int c1_), .val (.int c2_), .val (.int c3_), .val (.int c4_), .val (.int c5_), .val (.int c6_), .val (.ref xs), .val .null, .val .null]) rfl kk) ?_
              show OGo p e below (T413.setTop (mkF m 235 #[.val (.int p1), .val (.long j1), .second, .val (.int nn), .val (.int (((p1.toUInt32 >>> ((3 : Int32) &&& 31).toUInt32).toInt32) &&& (3 : Int32))), .val (.int (((p1.toUInt32 >>> ((5 : Int32) &&& 31).toUInt32).toInt32) &&& (127 : Int32))), .val (.int c0_), .val (.int c1_), .val (.int c2_), .val (.int c3_), .val (.int c4_), .val (.int c5_), .val (.int c6_), .val (.ref xs), .val .null, .val .null] [])) (OEndW s Z consts_1 (fun v h L => v = some (.int (1 : Int32)) ∧ Fr n0 L) room_1.cells room_1.slots)
              refine OGo.step (fun _ kk => XS.aload X413.here hx rfl (hb hby at_235) rfl rfl kk) ?_
              show OGo p e below (T413.setTop (mkF m 237 #[.val (.int p1), .val (.long j1), .second, .val (.int nn), .val (.int (((p1.toUInt32 >>> ((3 : Int32) &&& 31).toUInt32).toInt32) &&& (3 : Int32))), .val (.int (((p1.toUInt32 >>> ((5 : Int32) &&& 31).toUInt32).toInt32) &&& (127 : Int32))), .val (.int c0_), .val (.int c1_), .val (.int c2_), .val (.int c3_), .val (.int c4_), .val (.int c5_), .val (.int c6_), .val (.ref xs), .val .null, .val .null] [.null])) (OEndW s Z consts_1 (fun v h L => v = some (.int (1 : Int32)) ∧ Fr n0 L) room_1.cells room_1.slots)
              refine OGo.step (fun _ kk => XS.aload X413.here hx rfl (hb hby at_237) rfl rfl kk) ?_
              show OGo p e below (T413.setTop (mkF m 239 #[.val (.int p1), .val (.long j1), .second, .val (.int nn), .val (.int (((p1.toUInt32 >>> ((3 : Int32) &&& 31).toUInt32).toInt32) &&& (3 : Int32))), .val (.int (((p1.toUInt32 >>> ((5 : Int32) &&& 31).toUInt32).toInt32) &&& (127 : Int32))), .val (.int c0_), .val (.int c1_), .val (.int c2_), .val (.int c3_), .val (.int c4_), .val (.int c5_), .val (.int c6_), .val (.ref xs), .val .null, .val .null] [.null, .null])) (OEndW s Z consts_1 (fun v h L => v = some (.int (1 : Int32)) ∧ Fr n0 L) room_1.cells room_1.slots)
              refine OGo.step (fun _ kk => Jvm.RoadKit.acmp (g := (mkF m 239 #[.val (.int p1), .val (.long j1), .second, .val (.int nn), .val (.int (((p1.toUInt32 >>> ((3 : Int32) &&& 31).toUInt32).toInt32) &&& (3 : Int32))), .val (.int (((p1.toUInt32 >>> ((5 : Int32) &&& 31).toUInt32).toInt32) &&& (127 : Int32))), .val (.int c0_), .val (.int c1_), .val (.int c2_), .val (.int c3_), .val (.int c4_), .val (.int c5_), .val (.int c6_), .val (.ref xs), .val .null, .val .null] [.null, .null])) X413 hx rfl rfl rfl (pc0 := 239) (pc' := 242) (same := true) rfl (hb hby at_239) rfl (decide_eq_true rfl) (by decide) (by decide) kk) ?_
              show OGo p e below (T413.setTop (mkF m 242 #[.val (.int p1), .val (.long j1), .second, .val (.int nn), .val (.int (((p1.toUInt32 >>> ((3 : Int32) &&& 31).toUInt32).toInt32) &&& (3 : Int32))), .val (.int (((p1.toUInt32 >>> ((5 : Int32) &&& 31).toUInt32).toInt32) &&& (127 : Int32))), .val (.int c0_), .val (.int c1_), .val (.int c2_), .val (.int c3_), .val (.int c4_), .val (.int c5_), .val (.int c6_), .val (.ref xs), .val .null, .val .null] [])) (OEndW s Z consts_1 (fun v h L => v = some (.int (1 : Int32)) ∧ Fr n0 L) room_1.cells room_1.slots)
              refine OGo.step (fun _ kk => XS.iconst X413.here hx rfl (hb hby at_242) kk) ?_
              show OGo p e below (T413.setTop (mkF m 243 #[.val (.int p1), .val (.long j1), .second, .val (.int nn), .val (.int (((p1.toUInt32 >>> ((3 : Int32) &&& 31).toUInt32).toInt32) &&& (3 : Int32))), .val (.int (((p1.toUInt32 >>> ((5 : Int32) &&& 31).toUInt32).toInt32) &&& (127 : Int32))), .val (.int c0_), .val (.int c1_), .val (.int c2_), .val (.int c3_), .val (.int c4_), .val (.int c5_), .val (.int c6_), .val (.ref xs), .val .null, .val .null] [(.int (1 : Int32))])) (OEndW s Z consts_1 (fun v h L => v = some (.int (1 : Int32)) ∧ Fr n0 L) room_1.cells room_1.slots)
              refine OGo.step (fun _ kk => XS.goto X413.here hx rfl (pc0 := 243) (pc' := 247) rfl (hb hby at_243) (by decide) (by decide) kk) ?_
              show OGo p e below (T413.setTop (mkF m 247 #[.val (.int p1), .val (.long j1), .second, .val (.int nn), .val (.int (((p1.toUInt32 >>> ((3 : Int32) &&& 31).toUInt32).toInt32) &&& (3 : Int32))), .val (.int (((p1.toUInt32 >>> ((5 : Int32) &&& 31).toUInt32).toInt32) &&& (127 : Int32))), .val (.int c0_), .val (.int c1_), .val (.int c2_), .val (.int c3_), .val (.int c4_), .val (.int c5_), .val (.int c6_), .val (.ref xs), .val .null, .val .null] [(.int (1 : Int32))])) (OEndW s Z consts_1 (fun v h L => v = some (.int (1 : Int32)) ∧ Fr n0 L) room_1.cells room_1.slots)
              exact own_retNW X413 hx hlk hEL OW412 e413 hret (by simp) (hb hby at_247) ⟨by rw [own_nar1], Nc413⟩ (by decide) (by decide)
          · refine OGo.step (fun _ kk => XS.icmpYes X363.here hx rfl (pc0 := 199) (pc' := 221) rfl (hb hby at_199) rfl (feq hq185_2).2 (by decide) (by decide) kk) ?_
            show OGo p e below (T363.setTop (mkF m 221 #[.val (.int p1), .val (.long j1), .second, .val (.int nn), .val (.int (((p1.toUInt32 >>> ((3 : Int32) &&& 31).toUInt32).toInt32) &&& (3 : Int32))), .val (.int (((p1.toUInt32 >>> ((5 : Int32) &&& 31).toUInt32).toInt32) &&& (127 : Int32))), .val (.int c0_), .val (.int c1_), .val (.int c2_), .val (.int c3_), .val (.int c4_), .val (.int c5_), .val (.int c6_), .val (.ref xs), .val .null, .unset] [])) (OEndW s Z consts_1 (fun v h L => v = some (.int (1 : Int32)) ∧ Fr n0 L) room_1.cells room_1.slots)
            refine OGo.step (fun _ kk => XS.aload X363.here hx rfl (hb hby at_221) rfl rfl kk) ?_
            show OGo p e below (T363.setTop (mkF m 223 #[.val (.int p1), .val (.long j1), .second, .val (.int nn), .val (.int (((p1.toUInt32 >>> ((3 : Int32) &&& 31).toUInt32).toInt32) &&& (3 : Int32))), .val (.int (((p1.toUInt32 >>> ((5 : Int32) &&& 31).toUInt32).toInt32) &&& (127 : Int32))), .val (.int c0_), .val (.int c1_), .val (.int c2_), .val (.int c3_), .val (.int c4_), .val (.int c5_), .val (.int c6_), .val (.ref xs), .val .null, .unset] [(.ref xs)])) (OEndW s Z consts_1 (fun v h L => v = some (.int (1 : Int32)) ∧ Fr n0 L) room_1.cells room_1.slots)
            have xt414 := (own_ext_trans xt361 Xe363)
            have fx415 := SV.ext xt414
            have fx416 := AV.ext xt414
            have fx417 := EV.ext xt414
            have fx418 := Ft0.ext xt414
            have fx419 := O0.ext xt414
            have fx420 := Ft1.ext xt414
            have fx421 := O1.ext xt414
            have fx422 := SE.ext xt414
            have fx423 := EO.ext xt414
            have fx424 := FO.ext xt414
            have fx425 := SC.ext xt414
            refine own_callS X363 hx hZ (y := (⟨"com/example/tenantd/tenantd/Permission", "ofText", "(Ljava/lang/String;)Ljava/util/Optional;"⟩ : MethodName)) hown (hw _ (List.mem_of_getElem? (i := 54) rfl)) (hw _ (List.mem_of_getElem? (i := 55) rfl)) (hw _ (List.mem_of_getElem? (i := 56) rfl)) (hw _ (List.mem_of_getElem? (i := 57) rfl)) (by decide) (W := 0) (own_ofS l Z a0 hw [] va vc r0 r1 t0 t1 eo zc xs _ T363.heap n0 sz363 fx425 hzc fx415 fx416 fx417 FV VS V0 fx418 fx419 V1 fx420 fx421 fx422 fx423 fx424 Os363) rfl  (pc := 223) (Ls := #[.val (.int p1), .val (.long j1), .second, .val (.int nn), .val (.int (((p1.toUInt32 >>> ((3 : Int32) &&& 31).toUInt32).toInt32) &&& (3 : Int32))), .val (.int (((p1.toUInt32 >>> ((5 : Int32) &&& 31).toUInt32).toInt32) &&& (127 : Int32))), .val (.int c0_), .val (.int c1_), .val (.int c2_), .val (.int c3_), .val (.int c4_), .val (.int c5_), .val (.int c6_), .val (.ref xs), .val .null, .unset]) (argsL := [(.ref xs)]) (rest := []) (by rw [hml]; rfl) (lenOf own_pd8 rfl) rfl (hb hby at_223) (by decide) (by decide) (by decide) (by decide) ?_
            intro v426 T426 L426 X426 hQ426
            obtain ⟨ob, u426, rfl, N426, Xe426, Eb426, Gv426, hu426⟩ := hQ426
            show OGo p e below (T426.setTop (mkF m 226 #[.val (.int p1), .val (.long j1), .second, .val (.int nn), .val (.int (((p1.toUInt32 >>> ((3 : Int32) &&& 31).toUInt32).toInt32) &&& (3 : Int32))), .val (.int (((p1.toUInt32 >>> ((5 : Int32) &&& 31).toUInt32).toInt32) &&& (127 : Int32))), .val (.int c0_), .val (.int c1_), .val (.int c2_), .val (.int c3_), .val (.int c4_), .val (.int c5_), .val (.int c6_), .val (.ref xs), .val .null, .unset] [(.ref ob)])) (OEndW s Z consts_1 (fun v h L => v = some (.int (1 : Int32)) ∧ Fr n0 L) room_1.cells room_1.slots)
            have Nc426 := Fr.app Nc363 N426
            have sz426 : n0 ≤ T426.heap.size := Nat.le_trans sz363 Xe426.1
            have OW427 := OW363.ext Xe426
            have hu : u426 = .null := hu426.trans (by rw [own_of, if_neg (fun z => hna (Option.some.inj z)), if_neg (fun z => hq185_2 ((own_mk_deny _ _ _ _ _ _ _ _).mp (Option.some.inj z)).2.2.1)])
            rw [hu] at Gv426
            refine OGo.step (fun _ kk => XS.aconstNull X426.here hx rfl (hb hby at_226) kk) ?_
            show OGo p e below (T426.setTop (mkF m 227 #[.val (.int p1), .val (.long j1), .second, .val (.int nn), .val (.int (((p1.toUInt32 >>> ((3 : Int32) &&& 31).toUInt32).toInt32) &&& (3 : Int32))), .val (.int (((p1.toUInt32 >>> ((5 : Int32) &&& 31).toUInt32).toInt32) &&& (127 : Int32))), .val (.int c0_), .val (.int c1_), .val (.int c2_), .val (.int c3_), .val (.int c4_), .val (.int c5_), .val (.int c6_), .val (.ref xs), .val .null, .unset] [.null, (.ref ob)])) (OEndW s Z consts_1 (fun v h L => v = some (.int (1 : Int32)) ∧ Fr n0 L) room_1.cells room_1.slots)
            refine own_virtual X426 hx hZ (y := (⟨"java/util/Optional", "orElse", "(Ljava/lang/Object;)Ljava/lang/Object;"⟩ : MethodName)) (z := (⟨"java/util/Optional", "orElse", "(Ljava/lang/Object;)Ljava/lang/Object;"⟩ : MethodName)) hown (hw _ (List.mem_of_getElem? (i := 91) rfl)) (hw _ (List.mem_of_getElem? (i := 92) rfl)) (notFace_of_selects (args := #[]) (mvT hZ (hw _ (List.mem_of_getElem? (i := 94) rfl)))) (hw _ (List.mem_of_getElem? (i := 94) rfl)) (hw _ (List.mem_of_getElem? (i := 93) rfl)) (by decide) (hw _ (List.mem_of_getElem? (i := 95) rfl)) (hw _ (List.mem_of_getElem? (i := 88) rfl)) (b := ob) Eb426 (W := 0) (own_orElseN l Z a0 hw [] ob T426.heap n0 sz426 Gv426) rfl  (pc := 227) (Ls := #[.val (.int p1), .val (.long j1), .second, .val (.int nn), .val (.int (((p1.toUInt32 >>> ((3 : Int32) &&& 31).toUInt32).toInt32) &&& (3 : Int32))), .val (.int (((p1.toUInt32 >>> ((5 : Int32) &&& 31).toUInt32).toInt32) &&& (127 : Int32))), .val (.int c0_), .val (.int c1_), .val (.int c2_), .val (.int c3_), .val (.int c4_), .val (.int c5_), .val (.int c6_), .val (.ref xs), .val .null, .unset]) (argsL := [.null]) (rest := []) (by rw [hml]; rfl) (lenOf own_pd9 rfl) rfl (hb hby at_227) (by decide) (by decide) (by decide) (by decide) ?_
            intro v428 T428 L428 X428 hQ428
            obtain ⟨rfl, N428, e428⟩ := hQ428
            show OGo p e below (T428.setTop (mkF m 230 #[.val (.int p1), .val (.long j1), .second, .val (.int nn), .val (.int (((p1.toUInt32 >>> ((3 : Int32) &&& 31).toUInt32).toInt32) &&& (3 : Int32))), .val (.int (((p1.toUInt32 >>> ((5 : Int32) &&& 31).toUInt32).toInt32) &&& (127 : Int32))), .val (.int c0_), .val (.int c1_), .val (.int c2_), .val (.int c3_), .val (.int c4_), .val (.int c5_), .val (.int c6_), .val (.ref xs), .val .null, .unset] [.null])) (OEndW s Z consts_1 (fun v h L => v = some (.int (1 : Int32)) ∧ Fr n0 L) room_1.cells room_1.slots)
            have Nc428 := Fr.app Nc426 N428
            refine OGo.step (fun _ kk => X428.checkcastNull hx (g := (mkF m 230 #[.val (.int p1), .val (.long j1), .second, .val (.int nn), .val (.int (((p1.toUInt32 >>> ((3 : Int32) &&& 31).toUInt32).toInt32) &&& (3 : Int32))), .val (.int (((p1.toUInt32 >>> ((5 : Int32) &&& 31).toUInt32).toInt32) &&& (127 : Int32))), .val (.int c0_), .val (.int c1_), .val (.int c2_), .val (.int c3_), .val (.int c4_), .val (.int c5_), .val (.int c6_), .val (.ref xs), .val .null, .unset] [.null])) rfl rfl (hb hby at_230) _ kk) ?_
            show OGo p e below (T428.setTop (mkF m 233 #[.val (.int p1), .val (.long j1), .second, .val (.int nn), .val (.int (((p1.toUInt32 >>> ((3 : Int32) &&& 31).toUInt32).toInt32) &&& (3 : Int32))), .val (.int (((p1.toUInt32 >>> ((5 : Int32) &&& 31).toUInt32).toInt32) &&& (127 : Int32))), .val (.int c0_), .val (.int c1_), .val (.int c2_), .val (.int c3_), .val (.int c4_), .val (.int c5_), .val (.int c6_), .val (.ref xs), .val .null, .unset] [.null])) (OEndW s Z consts_1 (fun v h L => v = some (.int (1 : Int32)) ∧ Fr n0 L) room_1.cells room_1.slots)
            refine OGo.step (fun _ kk => XS.astore X428.here hx rfl (hb hby at_233) rfl rfl (l' := #[.val (.int p1), .val (.long j1), .second, .val (.int nn), .val (.int (((p1.toUInt32 >>> ((3 : Int32) &&& 31).toUInt32).toInt32) &&& (3 : Int32))), .val (.int (((p1.toUInt32 >>> ((5 : Int32) &&& 31).toUInt32).toInt32) &&& (127 : Int32))), .val (.int c0_), .val (.int c1_), .val (.int c2_), .val (.int c3_), .val (.int c4_), .val (.int c5_), .val (.int c6_), .val (.ref xs), .val .null, .val .null]) rfl kk) ?_
            show OGo p e below (T428.setTop (mkF m 235 #[.val (.int p1), .val (.long j1), .second, .val (.int nn), .val (.int (((p1.toUInt32 >>> ((3 : Int32) &&& 31).toUInt32).toInt32) &&& (3 : Int32))), .val (.int (((p1.toUInt32 >>> ((5 : Int32) &&& 31).toUInt32).toInt32) &&& (127 : Int32))), .val (.int c0_), .val (.int c1_), .val (.int c2_), .val (.int c3_), .val (.int c4_), .val (.int c5_), .val (.int c6_), .val (.ref xs), .val .null, .val .null] [])) (OEndW s Z consts_1 (fun v h L => v = some (.int (1 : Int32)) ∧ Fr n0 L) room_1.cells room_1.slots)
            refine OGo.step (fun _ kk => XS.aload X428.here hx rfl (hb hby at_235) rfl rfl kk) ?_
            show OGo p e below (T428.setTop (mkF m 237 #[.val (.int p1), .val (.long j1), .second, .val (.int nn), .val (.int (((p1.toUInt32 >>> ((3 : Int32) &&& 31).toUInt32).toInt32) &&& (3 : Int32))), .val (.int (((p1.toUInt32 >>> ((5 : Int32) &&& 31).toUInt32).toInt32) &&& (127 : Int32))), .val (.int c0_), .val (.int c1_), .val (.int c2_), .val (.int c3_), .val (.int c4_), .val (.int c5_), .val (.int c6_), .val (.ref xs), .val .null, .val .null] [.null])) (OEndW s Z consts_1 (fun v h L => v = some (.int (1 : Int32)) ∧ Fr n0 L) room_1.cells room_1.slots)
            refine OGo.step (fun _ kk => XS.aload X428.here hx rfl (hb hby at_237) rfl rfl kk) ?_
            show OGo p e below (T428.setTop (mkF m 239 #[.val (.int p1), .val (.long j1), .second, .val (.int nn), .val (.int (((p1.toUInt32 >>> ((3 : Int32) &&& 31).toUInt32).toInt32) &&& (3 : Int32))), .val (.int (((p1.toUInt32 >>> ((5 : Int32) &&& 31).toUInt32).toInt32) &&& (127 : Int32))), .val (.int c0_), .val (.int c1_), .val (.int c2_), .val (.int c3_), .val (.int c4_), .val (.int c5_), .val (.int c6_), .val (.ref xs), .val .null, .val .null] [.null, .null])) (OEndW s Z consts_1 (fun v h L => v = some (.int (1 : Int32)) ∧ Fr n0 L) room_1.cells room_1.slots)
            refine OGo.step (fun _ kk => Jvm.RoadKit.acmp (g := (mkF m 239 #[.val (.int p1), .val (.long j1), .second, .val (.int nn), .val (.int (((p1.toUInt32 >>> ((3 : Int32) &&& 31).toUInt32).toInt32) &&& (3 : Int32))), .val (.int (((p1.toUInt32 >>> ((5 : Int32) &&& 31).toUInt32).toInt32) &&& (127 : Int32))), .val (.int c0_), .val (.int c1_), .val (.int c2_), .val (.int c3_), .val (.int c4_), .val (.int c5_), .val (.int c6_), .val (.ref xs), .val .null, .val .null] [.null, .null])) X428 hx rfl rfl rfl (pc0 := 239) (pc' := 242) (same := true) rfl (hb hby at_239) rfl (decide_eq_true rfl) (by decide) (by decide) kk) ?_
            show OGo p e below (T428.setTop (mkF m 242 #[.val (.int p1), .val (.long j1), .second, .val (.int nn), .val (.int (((p1.toUInt32 >>> ((3 : Int32) &&& 31).toUInt32).toInt32) &&& (3 : Int32))), .val (.int (((p1.toUInt32 >>> ((5 : Int32) &&& 31).toUInt32).toInt32) &&& (127 : Int32))), .val (.int c0_), .val (.int c1_), .val (.int c2_), .val (.int c3_), .val (.int c4_), .val (.int c5_), .val (.int c6_), .val (.ref xs), .val .null, .val .null] [])) (OEndW s Z consts_1 (fun v h L => v = some (.int (1 : Int32)) ∧ Fr n0 L) room_1.cells room_1.slots)
            refine OGo.step (fun _ kk => XS.iconst X428.here hx rfl (hb hby at_242) kk) ?_
            show OGo p e below (T428.setTop (mkF m 243 #[.val (.int p1), .val (.long j1), .second, .val (.int nn), .val (.int (((p1.toUInt32 >>> ((3 : Int32) &&& 31).toUInt32).toInt32) &&& (3 : Int32))), .val (.int (((p1.toUInt32 >>> ((5 : Int32) &&& 31).toUInt32).toInt32) &&& (127 : Int32))), .val (.int c0_), .val (.int c1_), .val (.int c2_), .val (.int c3_), .val (.int c4_), .val (.int c5_), .val (.int c6_), .val (.ref xs), .val .null, .val .null] [(.int (1 : Int32))])) (OEndW s Z consts_1 (fun v h L => v = some (.int (1 : Int32)) ∧ Fr n0 L) room_1.cells room_1.slots)
            refine OGo.step (fun _ kk => XS.goto X428.here hx rfl (pc0 := 243) (pc' := 247) rfl (hb hby at_243) (by decide) (by decide) kk) ?_
            show OGo p e below (T428.setTop (mkF m 247 #[.val (.int p1), .val (.long j1), .second, .val (.int nn), .val (.int (((p1.toUInt32 >>> ((3 : Int32) &&& 31).toUInt32).toInt32) &&& (3 : Int32))), .val (.int (((p1.toUInt32 >>> ((5 : Int32) &&& 31).toUInt32).toInt32) &&& (127 : Int32))), .val (.int c0_), .val (.int c1_), .val (.int c2_), .val (.int c3_), .val (.int c4_), .val (.int c5_), .val (.int c6_), .val (.ref xs), .val .null, .val .null] [(.int (1 : Int32))])) (OEndW s Z consts_1 (fun v h L => v = some (.int (1 : Int32)) ∧ Fr n0 L) room_1.cells room_1.slots)
            exact own_retNW X428 hx hlk hEL OW427 e428 hret (by simp) (hb hby at_247) ⟨by rw [own_nar1], Nc428⟩ (by decide) (by decide)
        · refine OGo.step (fun _ kk => XS.icmpYes X363.here hx rfl (pc0 := 192) (pc' := 221) rfl (hb hby at_192) rfl (feq hq185_1).2 (by decide) (by decide) kk) ?_
          show OGo p e below (T363.setTop (mkF m 221 #[.val (.int p1), .val (.long j1), .second, .val (.int nn), .val (.int (((p1.toUInt32 >>> ((3 : Int32) &&& 31).toUInt32).toInt32) &&& (3 : Int32))), .val (.int (((p1.toUInt32 >>> ((5 : Int32) &&& 31).toUInt32).toInt32) &&& (127 : Int32))), .val (.int c0_), .val (.int c1_), .val (.int c2_), .val (.int c3_), .val (.int c4_), .val (.int c5_), .val (.int c6_), .val (.ref xs), .val .null, .unset] [])) (OEndW s Z consts_1 (fun v h L => v = some (.int (1 : Int32)) ∧ Fr n0 L) room_1.cells room_1.slots)
          refine OGo.step (fun _ kk => XS.aload X363.here hx rfl (hb hby at_221) rfl rfl kk) ?_
          show OGo p e below (T363.setTop (mkF m 223 #[.val (.int p1), .val (.long j1), .second, .val (.int nn), .val (.int (((p1.toUInt32 >>> ((3 : Int32) &&& 31).toUInt32).toInt32) &&& (3 : Int32))), .val (.int (((p1.toUInt32 >>> ((5 : Int32) &&& 31).toUInt32).toInt32) &&& (127 : Int32))), .val (.int c0_), .val (.int c1_), .val (.int c2_), .val (.int c3_), .val (.int c4_), .val (.int c5_), .val (.int c6_), .val (.ref xs), .val .null, .unset] [(.ref xs)])) (OEndW s Z consts_1 (fun v h L => v = some (.int (1 : Int32)) ∧ Fr n0 L) room_1.cells room_1.slots)
          have xt429 := (own_ext_trans xt361 Xe363)
          have fx430 := SV.ext xt429
          have fx431 := AV.ext xt429
          have fx432 := EV.ext xt429
          have fx433 := Ft0.ext xt429
          have fx434 := O0.ext xt429
          have fx435 := Ft1.ext xt429
          have fx436 := O1.ext xt429
          have fx437 := SE.ext xt429
          have fx438 := EO.ext xt429
          have fx439 := FO.ext xt429
          have fx440 := SC.ext xt429
          refine own_callS X363 hx hZ (y := (⟨"com/example/tenantd/tenantd/Permission", "ofText", "(Ljava/lang/String;)Ljava/util/Optional;"⟩ : MethodName)) hown (hw _ (List.mem_of_getElem? (i := 54) rfl)) (hw _ (List.mem_of_getElem? (i := 55) rfl)) (hw _ (List.mem_of_getElem? (i := 56) rfl)) (hw _ (List.mem_of_getElem? (i := 57) rfl)) (by decide) (W := 0) (own_ofS l Z a0 hw [] va vc r0 r1 t0 t1 eo zc xs _ T363.heap n0 sz363 fx440 hzc fx430 fx431 fx432 FV VS V0 fx433 fx434 V1 fx435 fx436 fx437 fx438 fx439 Os363) rfl  (pc := 223) (Ls := #[.val (.int p1), .val (.long j1), .second, .val (.int nn), .val (.int (((p1.toUInt32 >>> ((3 : Int32) &&& 31).toUInt32).toInt32) &&& (3 : Int32))), .val (.int (((p1.toUInt32 >>> ((5 : Int32) &&& 31).toUInt32).toInt32) &&& (127 : Int32))), .val (.int c0_), .val (.int c1_), .val (.int c2_), .val (.int c3_), .val (.int c4_), .val (.int c5_), .val (.int c6_), .val (.ref xs), .val .null, .unset]) (argsL := [(.ref xs)]) (rest := []) (by rw [hml]; rfl) (lenOf own_pd8 rfl) rfl (hb hby at_223) (by decide) (by decide) (by decide) (by decide) ?_
          intro v441 T441 L441 X441 hQ441
          obtain ⟨ob, u441, rfl, N441, Xe441, Eb441, Gv441, hu441⟩ := hQ441
          show OGo p e below (T441.setTop (mkF m 226 #[.val (.int p1), .val (.long j1), .second, .val (.int nn), .val (.int (((p1.toUInt32 >>> ((3 : Int32) &&& 31).toUInt32).toInt32) &&& (3 : Int32))), .val (.int (((p1.toUInt32 >>> ((5 : Int32) &&& 31).toUInt32).toInt32) &&& (127 : Int32))), .val (.int c0_), .val (.int c1_), .val (.int c2_), .val (.int c3_), .val (.int c4_), .val (.int c5_), .val (.int c6_), .val (.ref xs), .val .null, .unset] [(.ref ob)])) (OEndW s Z consts_1 (fun v h L => v = some (.int (1 : Int32)) ∧ Fr n0 L) room_1.cells room_1.slots)
          have Nc441 := Fr.app Nc363 N441
          have sz441 : n0 ≤ T441.heap.size := Nat.le_trans sz363 Xe441.1
          have OW442 := OW363.ext Xe441
          have hu : u441 = .null := hu441.trans (by rw [own_of, if_neg (fun z => hna (Option.some.inj z)), if_neg (fun z => hq185_1 ((own_mk_deny _ _ _ _ _ _ _ _).mp (Option.some.inj z)).2.1)])
          rw [hu] at Gv441
          refine OGo.step (fun _ kk => XS.aconstNull X441.here hx rfl (hb hby at_226) kk) ?_
          show OGo p e below (T441.setTop (mkF m 227 #[.val (.int p1), .val (.long j1), .second, .val (.int nn), .val (.int (((p1.toUInt32 >>> ((3 : Int32) &&& 31).toUInt32).toInt32) &&& (3 : Int32))), .val (.int (((p1.toUInt32 >>> ((5 : Int32) &&& 31).toUInt32).toInt32) &&& (127 : Int32))), .val (.int c0_), .val (.int c1_), .val (.int c2_), .val (.int c3_), .val (.int c4_), .val (.int c5_), .val (.int c6_), .val (.ref xs), .val .null, .unset] [.null, (.ref ob)])) (OEndW s Z consts_1 (fun v h L => v = some (.int (1 : Int32)) ∧ Fr n0 L) room_1.cells room_1.slots)
          refine own_virtual X441 hx hZ (y := (⟨"java/util/Optional", "orElse", "(Ljava/lang/Object;)Ljava/lang/Object;"⟩ : MethodName)) (z := (⟨"java/util/Optional", "orElse", "(Ljava/lang/Object;)Ljava/lang/Object;"⟩ : MethodName)) hown (hw _ (List.mem_of_getElem? (i := 91) rfl)) (hw _ (List.mem_of_getElem? (i := 92) rfl)) (notFace_of_selects (args := #[]) (mvT hZ (hw _ (List.mem_of_getElem? (i := 94) rfl)))) (hw _ (List.mem_of_getElem? (i := 94) rfl)) (hw _ (List.mem_of_getElem? (i := 93) rfl)) (by decide) (hw _ (List.mem_of_getElem? (i := 95) rfl)) (hw _ (List.mem_of_getElem? (i := 88) rfl)) (b := ob) Eb441 (W := 0) (own_orElseN l Z a0 hw [] ob T441.heap n0 sz441 Gv441) rfl  (pc := 227) (Ls := #[.val (.int p1), .val (.long j1), .second, .val (.int nn), .val (.int (((p1.toUInt32 >>> ((3 : Int32) &&& 31).toUInt32).toInt32) &&& (3 : Int32))), .val (.int (((p1.toUInt32 >>> ((5 : Int32) &&& 31).toUInt32).toInt32) &&& (127 : Int32))), .val (.int c0_), .val (.int c1_), .val (.int c2_), .val (.int c3_), .val (.int c4_), .val (.int c5_), .val (.int c6_), .val (.ref xs), .val .null, .unset]) (argsL := [.null]) (rest := []) (by rw [hml]; rfl) (lenOf own_pd9 rfl) rfl (hb hby at_227) (by decide) (by decide) (by decide) (by decide) ?_
          intro v443 T443 L443 X443 hQ443
          obtain ⟨rfl, N443, e443⟩ := hQ443
          show OGo p e below (T443.setTop (mkF m 230 #[.val (.int p1), .val (.long j1), .second, .val (.int nn), .val (.int (((p1.toUInt32 >>> ((3 : Int32) &&& 31).toUInt32).toInt32) &&& (3 : Int32))), .val (.int (((p1.toUInt32 >>> ((5 : Int32) &&& 31).toUInt32).toInt32) &&& (127 : Int32))), .val (.int c0_), .val (.int c1_), .val (.int c2_), .val (.int c3_), .val (.int c4_), .val (.int c5_), .val (.int c6_), .val (.ref xs), .val .null, .unset] [.null])) (OEndW s Z consts_1 (fun v h L => v = some (.int (1 : Int32)) ∧ Fr n0 L) room_1.cells room_1.slots)
          have Nc443 := Fr.app Nc441 N443
          refine OGo.step (fun _ kk => X443.checkcastNull hx (g := (mkF m 230 #[.val (.int p1), .val (.long j1), .second, .val (.int nn), .val (.int (((p1.toUInt32 >>> ((3 : Int32) &&& 31).toUInt32).toInt32) &&& (3 : Int32))), .val (.int (((p1.toUInt32 >>> ((5 : Int32) &&& 31).toUInt32).toInt32) &&& (127 : Int32))), .val (.int c0_), .val (.int c1_), .val (.int c2_), .val (.int c3_), .val (.int c4_), .val (.int c5_), .val (.int c6_), .val (.ref xs), .val .null, .unset] [.null])) rfl rfl (hb hby at_230) _ kk) ?_
          show OGo p e below (T443.setTop (mkF m 233 #[.val (.int p1), .val (.long j1), .second, .val (.int nn), .val (.int (((p1.toUInt32 >>> ((3 : Int32) &&& 31).toUInt32).toInt32) &&& (3 : Int32))), .val (.int (((p1.toUInt32 >>> ((5 : Int32) &&& 31).toUInt32).toInt32) &&& (127 : Int32))), .val (.int c0_), .val (.int c1_), .val (.int c2_), .val (.int c3_), .val (.int c4_), .val (.int c5_), .val (.int c6_), .val (.ref xs), .val .null, .unset] [.null])) (OEndW s Z consts_1 (fun v h L => v = some (.int (1 : Int32)) ∧ Fr n0 L) room_1.cells room_1.slots)
          refine OGo.step (fun _ kk => XS.astore X443.here hx rfl (hb hby at_233) rfl rfl (l' := #[.val (.int p1), .val (.long j1), .second, .val (.int nn), .val (.int (((p1.toUInt32 >>> ((3 : Int32) &&& 31).toUInt32).toInt32) &&& (3 : Int32))), .val (.int (((p1.toUInt32 >>> ((5 : Int32) &&& 31).toUInt32).toInt32) &&& (127 : Int32))), .val (.int c0_), .val (.int c1_), .val (.int c2_), .val (.int c3_), .val (.int c4_), .val (.int c5_), .val (.int c6_), .val (.ref xs), .val .null, .val .null]) rfl kk) ?_
          show OGo p e below (T443.setTop (mkF m 235 #[.val (.int p1), .val (.long j1), .second, .val (.int nn), .val (.int (((p1.toUInt32 >>> ((3 : Int32) &&& 31).toUInt32).toInt32) &&& (3 : Int32))), .val (.int (((p1.toUInt32 >>> ((5 : Int32) &&& 31).toUInt32).toInt32) &&& (127 : Int32))), .val (.int c0_), .val (.int c1_), .val (.int c2_), .val (.int c3_), .val (.int c4_), .val (.int c5_), .val (.int c6_), .val (.ref xs), .val .null, .val .null] [])) (OEndW s Z consts_1 (fun v h L => v = some (.int (1 : Int32)) ∧ Fr n0 L) room_1.cells room_1.slots)
          refine OGo.step (fun _ kk => XS.aload X443.here hx rfl (hb hby at_235) rfl rfl kk) ?_
          show OGo p e below (T443.setTop (mkF m 237 #[.val (.int p1), .val (.long j1), .second, .val (.int nn), .val (.int (((p1.toUInt32 >>> ((3 : Int32) &&& 31).toUInt32).toInt32) &&& (3 : Int32))), .val (.int (((p1.toUInt32 >>> ((5 : Int32) &&& 31).toUInt32).toInt32) &&& (127 : Int32))), .val (.int c0_), .val (.int c1_), .val (.int c2_), .val (.int c3_), .val (.int c4_), .val (.int c5_), .val (.int c6_), .val (.ref xs), .val .null, .val .null] [.null])) (OEndW s Z consts_1 (fun v h L => v = some (.int (1 : Int32)) ∧ Fr n0 L) room_1.cells room_1.slots)
          refine OGo.step (fun _ kk => XS.aload X443.here hx rfl (hb hby at_237) rfl rfl kk) ?_
          show OGo p e below (T443.setTop (mkF m 239 #[.val (.int p1), .val (.long j1), .second, .val (.int nn), .val (.int (((p1.toUInt32 >>> ((3 : Int32) &&& 31).toUInt32).toInt32) &&& (3 : Int32))), .val (.int (((p1.toUInt32 >>> ((5 : Int32) &&& 31).toUInt32).toInt32) &&& (127 : Int32))), .val (.int c0_), .val (.int c1_), .val (.int c2_), .val (.int c3_), .val (.int c4_), .val (.int c5_), .val (.int c6_), .val (.ref xs), .val .null, .val .null] [.null, .null])) (OEndW s Z consts_1 (fun v h L => v = some (.int (1 : Int32)) ∧ Fr n0 L) room_1.cells room_1.slots)
          refine OGo.step (fun _ kk => Jvm.RoadKit.acmp (g := (mkF m 239 #[.val (.int p1), .val (.long j1), .second, .val (.int nn), .val (.int (((p1.toUInt32 >>> ((3 : Int32) &&& 31).toUInt32).toInt32) &&& (3 : Int32))), .val (.int (((p1.toUInt32 >>> ((5 : Int32) &&& 31).toUInt32).toInt32) &&& (127 : Int32))), .val (.int c0_), .val (.int c1_), .val (.int c2_), .val (.int c3_), .val (.int c4_), .val (.int c5_), .val (.int c6_), .val (.ref xs), .val .null, .val .null] [.null, .null])) X443 hx rfl rfl rfl (pc0 := 239) (pc' := 242) (same := true) rfl (hb hby at_239) rfl (decide_eq_true rfl) (by decide) (by decide) kk) ?_
          show OGo p e below (T443.setTop (mkF m 242 #[.val (.int p1), .val (.long j1), .second, .val (.int nn), .val (.int (((p1.toUInt32 >>> ((3 : Int32) &&& 31).toUInt32).toInt32) &&& (3 : Int32))), .val (.int (((p1.toUInt32 >>> ((5 : Int32) &&& 31).toUInt32).toInt32) &&& (127 : Int32))), .val (.int c0_), .val (.int c1_), .val (.int c2_), .val (.int c3_), .val (.int c4_), .val (.int c5_), .val (.int c6_), .val (.ref xs), .val .null, .val .null] [])) (OEndW s Z consts_1 (fun v h L => v = some (.int (1 : Int32)) ∧ Fr n0 L) room_1.cells room_1.slots)
          refine OGo.step (fun _ kk => XS.iconst X443.here hx rfl (hb hby at_242) kk) ?_
          show OGo p e below (T443.setTop (mkF m 243 #[.val (.int p1), .val (.long j1), .second, .val (.int nn), .val (.int (((p1.toUInt32 >>> ((3 : Int32) &&& 31).toUInt32).toInt32) &&& (3 : Int32))), .val (.int (((p1.toUInt32 >>> ((5 : Int32) &&& 31).toUInt32).toInt32) &&& (127 : Int32))), .val (.int c0_), .val (.int c1_), .val (.int c2_), .val (.int c3_), .val (.int c4_), .val (.int c5_), .val (.int c6_), .val (.ref xs), .val .null, .val .null] [(.int (1 : Int32))])) (OEndW s Z consts_1 (fun v h L => v = some (.int (1 : Int32)) ∧ Fr n0 L) room_1.cells room_1.slots)
          refine OGo.step (fun _ kk => XS.goto X443.here hx rfl (pc0 := 243) (pc' := 247) rfl (hb hby at_243) (by decide) (by decide) kk) ?_
          show OGo p e below (T443.setTop (mkF m 247 #[.val (.int p1), .val (.long j1), .second, .val (.int nn), .val (.int (((p1.toUInt32 >>> ((3 : Int32) &&& 31).toUInt32).toInt32) &&& (3 : Int32))), .val (.int (((p1.toUInt32 >>> ((5 : Int32) &&& 31).toUInt32).toInt32) &&& (127 : Int32))), .val (.int c0_), .val (.int c1_), .val (.int c2_), .val (.int c3_), .val (.int c4_), .val (.int c5_), .val (.int c6_), .val (.ref xs), .val .null, .val .null] [(.int (1 : Int32))])) (OEndW s Z consts_1 (fun v h L => v = some (.int (1 : Int32)) ∧ Fr n0 L) room_1.cells room_1.slots)
          exact own_retNW X443 hx hlk hEL OW442 e443 hret (by simp) (hb hby at_247) ⟨by rw [own_nar1], Nc443⟩ (by decide) (by decide)
      · refine OGo.step (fun _ kk => XS.icmpYes X363.here hx rfl (pc0 := 185) (pc' := 221) rfl (hb hby at_185) rfl (feq hq185_0).2 (by decide) (by decide) kk) ?_
        show OGo p e below (T363.setTop (mkF m 221 #[.val (.int p1), .val (.long j1), .second, .val (.int nn), .val (.int (((p1.toUInt32 >>> ((3 : Int32) &&& 31).toUInt32).toInt32) &&& (3 : Int32))), .val (.int (((p1.toUInt32 >>> ((5 : Int32) &&& 31).toUInt32).toInt32) &&& (127 : Int32))), .val (.int c0_), .val (.int c1_), .val (.int c2_), .val (.int c3_), .val (.int c4_), .val (.int c5_), .val (.int c6_), .val (.ref xs), .val .null, .unset] [])) (OEndW s Z consts_1 (fun v h L => v = some (.int (1 : Int32)) ∧ Fr n0 L) room_1.cells room_1.slots)
        refine OGo.step (fun _ kk => XS.aload X363.here hx rfl (hb hby at_221) rfl rfl kk) ?_
        show OGo p e below (T363.setTop (mkF m 223 #[.val (.int p1), .val (.long j1), .second, .val (.int nn), .val (.int (((p1.toUInt32 >>> ((3 : Int32) &&& 31).toUInt32).toInt32) &&& (3 : Int32))), .val (.int (((p1.toUInt32 >>> ((5 : Int32) &&& 31).toUInt32).toInt32) &&& (127 : Int32))), .val (.int c0_), .val (.int c1_), .val (.int c2_), .val (.int c3_), .val (.int c4_), .val (.int c5_), .val (.int c6_), .val (.ref xs), .val .null, .unset] [(.ref xs)])) (OEndW s Z consts_1 (fun v h L => v = some (.int (1 : Int32)) ∧ Fr n0 L) room_1.cells room_1.slots)
        have xt444 := (own_ext_trans xt361 Xe363)
        have fx445 := SV.ext xt444
        have fx446 := AV.ext xt444
        have fx447 := EV.ext xt444
        have fx448 := Ft0.ext xt444
        have fx449 := O0.ext xt444
        have fx450 := Ft1.ext xt444
        have fx451 := O1.ext xt444
        have fx452 := SE.ext xt444
        have fx453 := EO.ext xt444
        have fx454 := FO.ext xt444
        have fx455 := SC.ext xt444
        refine own_callS X363 hx hZ (y := (⟨"com/example/tenantd/tenantd/Permission", "ofText", "(Ljava/lang/String;)Ljava/util/Optional;"⟩ : MethodName)) hown (hw _ (List.mem_of_getElem? (i := 54) rfl)) (hw _ (List.mem_of_getElem? (i := 55) rfl)) (hw _ (List.mem_of_getElem? (i := 56) rfl)) (hw _ (List.mem_of_getElem? (i := 57) rfl)) (by decide) (W := 0) (own_ofS l Z a0 hw [] va vc r0 r1 t0 t1 eo zc xs _ T363.heap n0 sz363 fx455 hzc fx445 fx446 fx447 FV VS V0 fx448 fx449 V1 fx450 fx451 fx452 fx453 fx454 Os363) rfl  (pc := 223) (Ls := #[.val (.int p1), .val (.long j1), .second, .val (.int nn), .val (.int (((p1.toUInt32 >>> ((3 : Int32) &&& 31).toUInt32).toInt32) &&& (3 : Int32))), .val (.int (((p1.toUInt32 >>> ((5 : Int32) &&& 31).toUInt32).toInt32) &&& (127 : Int32))), .val (.int c0_), .val (.int c1_), .val (.int c2_), .val (.int c3_), .val (.int c4_), .val (.int c5_), .val (.int c6_), .val (.ref xs), .val .null, .unset]) (argsL := [(.ref xs)]) (rest := []) (by rw [hml]; rfl) (lenOf own_pd8 rfl) rfl (hb hby at_223) (by decide) (by decide) (by decide) (by decide) ?_
        intro v456 T456 L456 X456 hQ456
        obtain ⟨ob, u456, rfl, N456, Xe456, Eb456, Gv456, hu456⟩ := hQ456
        show OGo p e below (T456.setTop (mkF m 226 #[.val (.int p1), .val (.long j1), .second, .val (.int nn), .val (.int (((p1.toUInt32 >>> ((3 : Int32) &&& 31).toUInt32).toInt32) &&& (3 : Int32))), .val (.int (((p1.toUInt32 >>> ((5 : Int32) &&& 31).toUInt32).toInt32) &&& (127 : Int32))), .val (.int c0_), .val (.int c1_), .val (.int c2_), .val (.int c3_), .val (.int c4_), .val (.int c5_), .val (.int c6_), .val (.ref xs), .val .null, .unset] [(.ref ob)])) (OEndW s Z consts_1 (fun v h L => v = some (.int (1 : Int32)) ∧ Fr n0 L) room_1.cells room_1.slots)
        have Nc456 := Fr.app Nc363 N456
        have sz456 : n0 ≤ T456.heap.size := Nat.le_trans sz363 Xe456.1
        have OW457 := OW363.ext Xe456
        have hu : u456 = .null := hu456.trans (by rw [own_of, if_neg (fun z => hna (Option.some.inj z)), if_neg (fun z => hq185_0 ((own_mk_deny _ _ _ _ _ _ _ _).mp (Option.some.inj z)).1)])
        rw [hu] at Gv456
        refine OGo.step (fun _ kk => XS.aconstNull X456.here hx rfl (hb hby at_226) kk) ?_
        show OGo p e below (T456.setTop (mkF m 227 #[.val (.int p1), .val (.long j1), .second, .val (.int nn), .val (.int (((p1.toUInt32 >>> ((3 : Int32) &&& 31).toUInt32).toInt32) &&& (3 : Int32))), .val (.int (((p1.toUInt32 >>> ((5 : Int32) &&& 31).toUInt32).toInt32) &&& (127 : Int32))), .val (.int c0_), .val (.int c1_), .val (.int c2_), .val (.int c3_), .val (.int c4_), .val (.int c5_), .val (.int c6_), .val (.ref xs), .val .null, .unset] [.null, (.ref ob)])) (OEndW s Z consts_1 (fun v h L => v = some (.int (1 : Int32)) ∧ Fr n0 L) room_1.cells room_1.slots)
        refine own_virtual X456 hx hZ (y := (⟨"java/util/Optional", "orElse", "(Ljava/lang/Object;)Ljava/lang/Object;"⟩ : MethodName)) (z := (⟨"java/util/Optional", "orElse", "(Ljava/lang/Object;)Ljava/lang/Object;"⟩ : MethodName)) hown (hw _ (List.mem_of_getElem? (i := 91) rfl)) (hw _ (List.mem_of_getElem? (i := 92) rfl)) (notFace_of_selects (args := #[]) (mvT hZ (hw _ (List.mem_of_getElem? (i := 94) rfl)))) (hw _ (List.mem_of_getElem? (i := 94) rfl)) (hw _ (List.mem_of_getElem? (i := 93) rfl)) (by decide) (hw _ (List.mem_of_getElem? (i := 95) rfl)) (hw _ (List.mem_of_getElem? (i := 88) rfl)) (b := ob) Eb456 (W := 0) (own_orElseN l Z a0 hw [] ob T456.heap n0 sz456 Gv456) rfl  (pc := 227) (Ls := #[.val (.int p1), .val (.long j1), .second, .val (.int nn), .val (.int (((p1.toUInt32 >>> ((3 : Int32) &&& 31).toUInt32).toInt32) &&& (3 : Int32))), .val (.int (((p1.toUInt32 >>> ((5 : Int32) &&& 31).toUInt32).toInt32) &&& (127 : Int32))), .val (.int c0_), .val (.int c1_), .val (.int c2_), .val (.int c3_), .val (.int c4_), .val (.int c5_), .val (.int c6_), .val (.ref xs), .val .null, .unset]) (argsL := [.null]) (rest := []) (by rw [hml]; rfl) (lenOf own_pd9 rfl) rfl (hb hby at_227) (by decide) (by decide) (by decide) (by decide) ?_
        intro v458 T458 L458 X458 hQ458
        obtain ⟨rfl, N458, e458⟩ := hQ458
        show OGo p e below (T458.setTop (mkF m 230 #[.val (.int p1), .val (.long j1), .second, .val (.int nn), .val (.int (((p1.toUInt32 >>> ((3 : Int32) &&& 31).toUInt32).toInt32) &&& (3 : Int32))), .val (.int (((p1.toUInt32 >>> ((5 : Int32) &&& 31).toUInt32).toInt32) &&& (127 : Int32))), .val (.int c0_), .val (.int c1_), .val (.int c2_), .val (.int c3_), .val (.int c4_), .val (.int c5_), .val (.int c6_), .val (.ref xs), .val .null, .unset] [.null])) (OEndW s Z consts_1 (fun v h L => v = some (.int (1 : Int32)) ∧ Fr n0 L) room_1.cells room_1.slots)
        have Nc458 := Fr.app Nc456 N458
        refine OGo.step (fun _ kk => X458.checkcastNull hx (g := (mkF m 230 #[.val (.int p1), .val (.long j1), .second, .val (.int nn), .val (.int (((p1.toUInt32 >>> ((3 : Int32) &&& 31).toUInt32).toInt32) &&& (3 : Int32))), .val (.int (((p1.toUInt32 >>> ((5 : Int32) &&& 31).toUInt32).toInt32) &&& (127 : Int32))), .val (.int c0_), .val (.int c1_), .val (.int c2_), .val (.int c3_), .val (.int c4_), .val (.int c5_), .val (.int c6_), .val (.ref xs), .val .null, .unset] [.null])) rfl rfl (hb hby at_230) _ kk) ?_
        show OGo p e below (T458.setTop (mkF m 233 #[.val (.int p1), .val (.long j1), .second, .val (.int nn), .val (.int (((p1.toUInt32 >>> ((3 : Int32) &&& 31).toUInt32).toInt32) &&& (3 : Int32))), .val (.int (((p1.toUInt32 >>> ((5 : Int32) &&& 31).toUInt32).toInt32) &&& (127 : Int32))), .val (.int c0_), .val (.int c1_), .val (.int c2_), .val (.int c3_), .val (.int c4_), .val (.int c5_), .val (.int c6_), .val (.ref xs), .val .null, .unset] [.null])) (OEndW s Z consts_1 (fun v h L => v = some (.int (1 : Int32)) ∧ Fr n0 L) room_1.cells room_1.slots)
        refine OGo.step (fun _ kk => XS.astore X458.here hx rfl (hb hby at_233) rfl rfl (l' := #[.val (.int p1), .val (.long j1), .second, .val (.int nn), .val (.int (((p1.toUInt32 >>> ((3 : Int32) &&& 31).toUInt32).toInt32) &&& (3 : Int32))), .val (.int (((p1.toUInt32 >>> ((5 : Int32) &&& 31).toUInt32).toInt32) &&& (127 : Int32))), .val (.int c0_), .val (.int c1_), .val (.int c2_), .val (.int c3_), .val (.int c4_), .val (.int c5_), .val (.int c6_), .val (.ref xs), .val .null, .val .null]) rfl kk) ?_
        show OGo p e below (T458.setTop (mkF m 235 #[.val (.int p1), .val (.long j1), .second, .val (.int nn), .val (.int (((p1.toUInt32 >>> ((3 : Int32) &&& 31).toUInt32).toInt32) &&& (3 : Int32))), .val (.int (((p1.toUInt32 >>> ((5 : Int32) &&& 31).toUInt32).toInt32) &&& (127 : Int32))), .val (.int c0_), .val (.int c1_), .val (.int c2_), .val (.int c3_), .val (.int c4_), .val (.int c5_), .val (.int c6_), .val (.ref xs), .val .null, .val .null] [])) (OEndW s Z consts_1 (fun v h L => v = some (.int (1 : Int32)) ∧ Fr n0 L) room_1.cells room_1.slots)
        refine OGo.step (fun _ kk => XS.aload X458.here hx rfl (hb hby at_235) rfl rfl kk) ?_
        show OGo p e below (T458.setTop (mkF m 237 #[.val (.int p1), .val (.long j1), .second, .val (.int nn), .val (.int (((p1.toUInt32 >>> ((3 : Int32) &&& 31).toUInt32).toInt32) &&& (3 : Int32))), .val (.int (((p1.toUInt32 >>> ((5 : Int32) &&& 31).toUInt32).toInt32) &&& (127 : Int32))), .val (.int c0_), .val (.int c1_), .val (.int c2_), .val (.int c3_), .val (.int c4_), .val (.int c5_), .val (.int c6_), .val (.ref xs), .val .null, .val .null] [.null])) (OEndW s Z consts_1 (fun v h L => v = some (.int (1 : Int32)) ∧ Fr n0 L) room_1.cells room_1.slots)
        refine OGo.step (fun _ kk => XS.aload X458.here hx rfl (hb hby at_237) rfl rfl kk) ?_
        show OGo p e below (T458.setTop (mkF m 239 #[.val (.int p1), .val (.long j1), .second, .val (.int nn), .val (.int (((p1.toUInt32 >>> ((3 : Int32) &&& 31).toUInt32).toInt32) &&& (3 : Int32))), .val (.int (((p1.toUInt32 >>> ((5 : Int32) &&& 31).toUInt32).toInt32) &&& (127 : Int32))), .val (.int c0_), .val (.int c1_), .val (.int c2_), .val (.int c3_), .val (.int c4_), .val (.int c5_), .val (.int c6_), .val (.ref xs), .val .null, .val .null] [.null, .null])) (OEndW s Z consts_1 (fun v h L => v = some (.int (1 : Int32)) ∧ Fr n0 L) room_1.cells room_1.slots)
        refine OGo.step (fun _ kk => Jvm.RoadKit.acmp (g := (mkF m 239 #[.val (.int p1), .val (.long j1), .second, .val (.int nn), .val (.int (((p1.toUInt32 >>> ((3 : Int32) &&& 31).toUInt32).toInt32) &&& (3 : Int32))), .val (.int (((p1.toUInt32 >>> ((5 : Int32) &&& 31).toUInt32).toInt32) &&& (127 : Int32))), .val (.int c0_), .val (.int c1_), .val (.int c2_), .val (.int c3_), .val (.int c4_), .val (.int c5_), .val (.int c6_), .val (.ref xs), .val .null, .val .null] [.null, .null])) X458 hx rfl rfl rfl (pc0 := 239) (pc' := 242) (same := true) rfl (hb hby at_239) rfl (decide_eq_true rfl) (by decide) (by decide) kk) ?_
        show OGo p e below (T458.setTop (mkF m 242 #[.val (.int p1), .val (.long j1), .second, .val (.int nn), .val (.int (((p1.toUInt32 >>> ((3 : Int32) &&& 31).toUInt32).toInt32) &&& (3 : Int32))), .val (.int (((p1.toUInt32 >>> ((5 : Int32) &&& 31).toUInt32).toInt32) &&& (127 : Int32))), .val (.int c0_), .val (.int c1_), .val (.int c2_), .val (.int c3_), .val (.int c4_), .val (.int c5_), .val (.int c6_), .val (.ref xs), .val .null, .val .null] [])) (OEndW s Z consts_1 (fun v h L => v = some (.int (1 : Int32)) ∧ Fr n0 L) room_1.cells room_1.slots)
        refine OGo.step (fun _ kk => XS.iconst X458.here hx rfl (hb hby at_242) kk) ?_
        show OGo p e below (T458.setTop (mkF m 243 #[.val (.int p1), .val (.long j1), .second, .val (.int nn), .val (.int (((p1.toUInt32 >>> ((3 : Int32) &&& 31).toUInt32).toInt32) &&& (3 : Int32))), .val (.int (((p1.toUInt32 >>> ((5 : Int32) &&& 31).toUInt32).toInt32) &&& (127 : Int32))), .val (.int c0_), .val (.int c1_), .val (.int c2_), .val (.int c3_), .val (.int c4_), .val (.int c5_), .val (.int c6_), .val (.ref xs), .val .null, .val .null] [(.int (1 : Int32))])) (OEndW s Z consts_1 (fun v h L => v = some (.int (1 : Int32)) ∧ Fr n0 L) room_1.cells room_1.slots)
        refine OGo.step (fun _ kk => XS.goto X458.here hx rfl (pc0 := 243) (pc' := 247) rfl (hb hby at_243) (by decide) (by decide) kk) ?_
        show OGo p e below (T458.setTop (mkF m 247 #[.val (.int p1), .val (.long j1), .second, .val (.int nn), .val (.int (((p1.toUInt32 >>> ((3 : Int32) &&& 31).toUInt32).toInt32) &&& (3 : Int32))), .val (.int (((p1.toUInt32 >>> ((5 : Int32) &&& 31).toUInt32).toInt32) &&& (127 : Int32))), .val (.int c0_), .val (.int c1_), .val (.int c2_), .val (.int c3_), .val (.int c4_), .val (.int c5_), .val (.int c6_), .val (.ref xs), .val .null, .val .null] [(.int (1 : Int32))])) (OEndW s Z consts_1 (fun v h L => v = some (.int (1 : Int32)) ∧ Fr n0 L) room_1.cells room_1.slots)
        exact own_retNW X458 hx hlk hEL OW457 e458 hret (by simp) (hb hby at_247) ⟨by rw [own_nar1], Nc458⟩ (by decide) (by decide)
    refine OGo.step (fun _ kk => XS.iloadN X363.here hx rfl (hb hby at_135) rfl kk) ?_
    show OGo p e below (T363.setTop (mkF m 136 #[.val (.int p1), .val (.long j1), .second, .val (.int nn), .val (.int (((p1.toUInt32 >>> ((3 : Int32) &&& 31).toUInt32).toInt32) &&& (3 : Int32))), .val (.int (((p1.toUInt32 >>> ((5 : Int32) &&& 31).toUInt32).toInt32) &&& (127 : Int32))), .val (.int c0_), .val (.int c1_), .val (.int c2_), .val (.int c3_), .val (.int c4_), .val (.int c5_), .val (.int c6_), .val (.ref xs), .val .null, .unset] [(.int nn)])) (OEndW s Z consts_1 (fun v h L => v = some (.int (1 : Int32)) ∧ Fr n0 L) room_1.cells room_1.slots)
    refine OGo.step (fun _ kk => XS.iconst X363.here hx rfl (hb hby at_136) kk) ?_
    show OGo p e below (T363.setTop (mkF m 137 #[.val (.int p1), .val (.long j1), .second, .val (.int nn), .val (.int (((p1.toUInt32 >>> ((3 : Int32) &&& 31).toUInt32).toInt32) &&& (3 : Int32))), .val (.int (((p1.toUInt32 >>> ((5 : Int32) &&& 31).toUInt32).toInt32) &&& (127 : Int32))), .val (.int c0_), .val (.int c1_), .val (.int c2_), .val (.int c3_), .val (.int c4_), .val (.int c5_), .val (.int c6_), .val (.ref xs), .val .null, .unset] [(.int (5 : Int32)), (.int nn)])) (OEndW s Z consts_1 (fun v h L => v = some (.int (1 : Int32)) ∧ Fr n0 L) room_1.cells room_1.slots)
    by_cases hq137_0 : nn = (5 : Int32)
    · refine OGo.step (fun _ kk => XS.icmpNo X363.here hx rfl (hb hby at_137) rfl (teq hq137_0).2 kk) ?_
      show OGo p e below (T363.setTop (mkF m 140 #[.val (.int p1), .val (.long j1), .second, .val (.int nn), .val (.int (((p1.toUInt32 >>> ((3 : Int32) &&& 31).toUInt32).toInt32) &&& (3 : Int32))), .val (.int (((p1.toUInt32 >>> ((5 : Int32) &&& 31).toUInt32).toInt32) &&& (127 : Int32))), .val (.int c0_), .val (.int c1_), .val (.int c2_), .val (.int c3_), .val (.int c4_), .val (.int c5_), .val (.int c6_), .val (.ref xs), .val .null, .unset] [])) (OEndW s Z consts_1 (fun v h L => v = some (.int (1 : Int32)) ∧ Fr n0 L) room_1.cells room_1.slots)
      refine OGo.step (fun _ kk => XS.iload X363.here hx rfl (hb hby at_140) rfl kk) ?_
      show OGo p e below (T363.setTop (mkF m 142 #[.val (.int p1), .val (.long j1), .second, .val (.int nn), .val (.int (((p1.toUInt32 >>> ((3 : Int32) &&& 31).toUInt32).toInt32) &&& (3 : Int32))), .val (.int (((p1.toUInt32 >>> ((5 : Int32) &&& 31).toUInt32).toInt32) &&& (127 : Int32))), .val (.int c0_), .val (.int c1_), .val (.int c2_), .val (.int c3_), .val (.int c4_), .val (.int c5_), .val (.int c6_), .val (.ref xs), .val .null, .unset] [(.int c0_)])) (OEndW s Z consts_1 (fun v h L => v = some (.int (1 : Int32)) ∧ Fr n0 L) room_1.cells room_1.slots)
      refine OGo.step (fun _ kk => XS.bipush X363.here hx rfl (hb hby at_142) kk) ?_
      show OGo p e below (T363.setTop (mkF m 144 #[.val (.int p1), .val (.long j1), .second, .val (.int nn), .val (.int (((p1.toUInt32 >>> ((3 : Int32) &&& 31).toUInt32).toInt32) &&& (3 : Int32))), .val (.int (((p1.toUInt32 >>> ((5 : Int32) &&& 31).toUInt32).toInt32) &&& (127 : Int32))), .val (.int c0_), .val (.int c1_), .val (.int c2_), .val (.int c3_), .val (.int c4_), .val (.int c5_), .val (.int c6_), .val (.ref xs), .val .null, .unset] [(.int (97 : Int32)), (.int c0_)])) (OEndW s Z consts_1 (fun v h L => v = some (.int (1 : Int32)) ∧ Fr n0 L) room_1.cells room_1.slots)
      by_cases hq137_1 : c0_ = (97 : Int32)
      · refine OGo.step (fun _ kk => XS.icmpNo X363.here hx rfl (hb hby at_144) rfl (teq hq137_1).2 kk) ?_
        show OGo p e below (T363.setTop (mkF m 147 #[.val (.int p1), .val (.long j1), .second, .val (.int nn), .val (.int (((p1.toUInt32 >>> ((3 : Int32) &&& 31).toUInt32).toInt32) &&& (3 : Int32))), .val (.int (((p1.toUInt32 >>> ((5 : Int32) &&& 31).toUInt32).toInt32) &&& (127 : Int32))), .val (.int c0_), .val (.int c1_), .val (.int c2_), .val (.int c3_), .val (.int c4_), .val (.int c5_), .val (.int c6_), .val (.ref xs), .val .null, .unset] [])) (OEndW s Z consts_1 (fun v h L => v = some (.int (1 : Int32)) ∧ Fr n0 L) room_1.cells room_1.slots)
        refine OGo.step (fun _ kk => XS.iload X363.here hx rfl (hb hby at_147) rfl kk) ?_
        show OGo p e below (T363.setTop (mkF m 149 #[.val (.int p1), .val (.long j1), .second, .val (.int nn), .val (.int (((p1.toUInt32 >>> ((3 : Int32) &&& 31).toUInt32).toInt32) &&& (3 : Int32))), .val (.int (((p1.toUInt32 >>> ((5 : Int32) &&& 31).toUInt32).toInt32) &&& (127 : Int32))), .val (.int c0_), .val (.int c1_), .val (.int c2_), .val (.int c3_), .val (.int c4_), .val (.int c5_), .val (.int c6_), .val (.ref xs), .val .null, .unset] [(.int c1_)])) (OEndW s Z consts_1 (fun v h L => v = some (.int (1 : Int32)) ∧ Fr n0 L) room_1.cells room_1.slots)
        refine OGo.step (fun _ kk => XS.bipush X363.here hx rfl (hb hby at_149) kk) ?_
        show OGo p e below (T363.setTop (mkF m 151 #[.val (.int p1), .val (.long j1), .second, .val (.int nn), .val (.int (((p1.toUInt32 >>> ((3 : Int32) &&& 31).toUInt32).toInt32) &&& (3 : Int32))), .val (.int (((p1.toUInt32 >>> ((5 : Int32) &&& 31).toUInt32).toInt32) &&& (127 : Int32))), .val (.int c0_), .val (.int c1_), .val (.int c2_), .val (.int c3_), .val (.int c4_), .val (.int c5_), .val (.int c6_), .val (.ref xs), .val .null, .unset] [(.int (108 : Int32)), (.int c1_)])) (OEndW s Z consts_1 (fun v h L => v = some (.int (1 : Int32)) ∧ Fr n0 L) room_1.cells room_1.slots)
        by_cases hq137_2 : c1_ = (108 : Int32)
        · refine OGo.step (fun _ kk => XS.icmpNo X363.here hx rfl (hb hby at_151) rfl (teq hq137_2).2 kk) ?_
          show OGo p e below (T363.setTop (mkF m 154 #[.val (.int p1), .val (.long j1), .second, .val (.int nn), .val (.int (((p1.toUInt32 >>> ((3 : Int32) &&& 31).toUInt32).toInt32) &&& (3 : Int32))), .val (.int (((p1.toUInt32 >>> ((5 : Int32) &&& 31).toUInt32).toInt32) &&& (127 : Int32))), .val (.int c0_), .val (.int c1_), .val (.int c2_), .val (.int c3_), .val (.int c4_), .val (.int c5_), .val (.int c6_), .val (.ref xs), .val .null, .unset] [])) (OEndW s Z consts_1 (fun v h L => v = some (.int (1 : Int32)) ∧ Fr n0 L) room_1.cells room_1.slots)
          refine OGo.step (fun _ kk => XS.iload X363.here hx rfl (hb hby at_154) rfl kk) ?_
          show OGo p e below (T363.setTop (mkF m 156 #[.val (.int p1), .val (.long j1), .second, .val (.int nn), .val (.int (((p1.toUInt32 >>> ((3 : Int32) &&& 31).toUInt32).toInt32) &&& (3 : Int32))), .val (.int (((p1.toUInt32 >>> ((5 : Int32) &&& 31).toUInt32).toInt32) &&& (127 : Int32))), .val (.int c0_), .val (.int c1_), .val (.int c2_), .val (.int c3_), .val (.int c4_), .val (.int c5_), .val (.int c6_), .val (.ref xs), .val .null, .unset] [(.int c2_)])) (OEndW s Z consts_1 (fun v h L => v = some (.int (1 : Int32)) ∧ Fr n0 L) room_1.cells room_1.slots)
          refine OGo.step (fun _ kk => XS.bipush X363.here hx rfl (hb hby at_156) kk) ?_
          show OGo p e below (T363.setTop (mkF m 158 #[.val (.int p1), .val (.long j1), .second, .val (.int nn), .val (.int (((p1.toUInt32 >>> ((3 : Int32) &&& 31).toUInt32).toInt32) &&& (3 : Int32))), .val (.int (((p1.toUInt32 >>> ((5 : Int32) &&& 31).toUInt32).toInt32) &&& (127 : Int32))), .val (.int c0_), .val (.int c1_), .val (.int c2_), .val (.int c3_), .val (.int c4_), .val (.int c5_), .val (.int c6_), .val (.ref xs), .val .null, .unset] [(.int (108 : Int32)), (.int c2_)])) (OEndW s Z consts_1 (fun v h L => v = some (.int (1 : Int32)) ∧ Fr n0 L) room_1.cells room_1.slots)
          by_cases hq137_3 : c2_ = (108 : Int32)
          · refine OGo.step (fun _ kk => XS.icmpNo X363.here hx rfl (hb hby at_158) rfl (teq hq137_3).2 kk) ?_
            show OGo p e below (T363.setTop (mkF m 161 #[.val (.int p1), .val (.long j1), .second, .val (.int nn), .val (.int (((p1.toUInt32 >>> ((3 : Int32) &&& 31).toUInt32).toInt32) &&& (3 : Int32))), .val (.int (((p1.toUInt32 >>> ((5 : Int32) &&& 31).toUInt32).toInt32) &&& (127 : Int32))), .val (.int c0_), .val (.int c1_), .val (.int c2_), .val (.int c3_), .val (.int c4_), .val (.int c5_), .val (.int c6_), .val (.ref xs), .val .null, .unset] [])) (OEndW s Z consts_1 (fun v h L => v = some (.int (1 : Int32)) ∧ Fr n0 L) room_1.cells room_1.slots)
            refine OGo.step (fun _ kk => XS.iload X363.here hx rfl (hb hby at_161) rfl kk) ?_
            show OGo p e below (T363.setTop (mkF m 163 #[.val (.int p1), .val (.long j1), .second, .val (.int nn), .val (.int (((p1.toUInt32 >>> ((3 : Int32) &&& 31).toUInt32).toInt32) &&& (3 : Int32))), .val (.int (((p1.toUInt32 >>> ((5 : Int32) &&& 31).toUInt32).toInt32) &&& (127 : Int32))), .val (.int c0_), .val (.int c1_), .val (.int c2_), .val (.int c3_), .val (.int c4_), .val (.int c5_), .val (.int c6_), .val (.ref xs), .val .null, .unset] [(.int c3_)])) (OEndW s Z consts_1 (fun v h L => v = some (.int (1 : Int32)) ∧ Fr n0 L) room_1.cells room_1.slots)
            refine OGo.step (fun _ kk => XS.bipush X363.here hx rfl (hb hby at_163) kk) ?_
            show OGo p e below (T363.setTop (mkF m 165 #[.val (.int p1), .val (.long j1), .second, .val (.int nn), .val (.int (((p1.toUInt32 >>> ((3 : Int32) &&& 31).toUInt32).toInt32) &&& (3 : Int32))), .val (.int (((p1.toUInt32 >>> ((5 : Int32) &&& 31).toUInt32).toInt32) &&& (127 : Int32))), .val (.int c0_), .val (.int c1_), .val (.int c2_), .val (.int c3_), .val (.int c4_), .val (.int c5_), .val (.int c6_), .val (.ref xs), .val .null, .unset] [(.int (111 : Int32)), (.int c3_)])) (OEndW s Z consts_1 (fun v h L => v = some (.int (1 : Int32)) ∧ Fr n0 L) room_1.cells room_1.slots)
            by_cases hq137_4 : c3_ = (111 : Int32)
            · refine OGo.step (fun _ kk => XS.icmpNo X363.here hx rfl (hb hby at_165) rfl (teq hq137_4).2 kk) ?_
              show OGo p e below (T363.setTop (mkF m 168 #[.val (.int p1), .val (.long j1), .second, .val (.int nn), .val (.int (((p1.toUInt32 >>> ((3 : Int32) &&& 31).toUInt32).toInt32) &&& (3 : Int32))), .val (.int (((p1.toUInt32 >>> ((5 : Int32) &&& 31).toUInt32).toInt32) &&& (127 : Int32))), .val (.int c0_), .val (.int c1_), .val (.int c2_), .val (.int c3_), .val (.int c4_), .val (.int c5_), .val (.int c6_), .val (.ref xs), .val .null, .unset] [])) (OEndW s Z consts_1 (fun v h L => v = some (.int (1 : Int32)) ∧ Fr n0 L) room_1.cells room_1.slots)
              refine OGo.step (fun _ kk => XS.iload X363.here hx rfl (hb hby at_168) rfl kk) ?_
              show OGo p e below (T363.setTop (mkF m 170 #[.val (.int p1), .val (.long j1), .second, .val (.int nn), .val (.int (((p1.toUInt32 >>> ((3 : Int32) &&& 31).toUInt32).toInt32) &&& (3 : Int32))), .val (.int (((p1.toUInt32 >>> ((5 : Int32) &&& 31).toUInt32).toInt32) &&& (127 : Int32))), .val (.int c0_), .val (.int c1_), .val (.int c2_), .val (.int c3_), .val (.int c4_), .val (.int c5_), .val (.int c6_), .val (.ref xs), .val .null, .unset] [(.int c4_)])) (OEndW s Z consts_1 (fun v h L => v = some (.int (1 : Int32)) ∧ Fr n0 L) room_1.cells room_1.slots)
              refine OGo.step (fun _ kk => XS.bipush X363.here hx rfl (hb hby at_170) kk) ?_
              show OGo p e below (T363.setTop (mkF m 172 #[.val (.int p1), .val (.long j1), .second, .val (.int nn), .val (.int (((p1.toUInt32 >>> ((3 : Int32) &&& 31).toUInt32).toInt32) &&& (3 : Int32))), .val (.int (((p1.toUInt32 >>> ((5 : Int32) &&& 31).toUInt32).toInt32) &&& (127 : Int32))), .val (.int c0_), .val (.int c1_), .val (.int c2_), .val (.int c3_), .val (.int c4_), .val (.int c5_), .val (.int c6_), .val (.ref xs), .val .null, .unset] [(.int (119 : Int32)), (.int c4_)])) (OEndW s Z consts_1 (fun v h L => v = some (.int (1 : Int32)) ∧ Fr n0 L) room_1.cells room_1.slots)
              by_cases hq137_5 : c4_ = (119 : Int32)
              · refine OGo.step (fun _ kk => XS.icmpNo X363.here hx rfl (hb hby at_172) rfl (teq hq137_5).2 kk) ?_
                show OGo p e below (T363.setTop (mkF m 175 #[.val (.int p1), .val (.long j1), .second, .val (.int nn), .val (.int (((p1.toUInt32 >>> ((3 : Int32) &&& 31).toUInt32).toInt32) &&& (3 : Int32))), .val (.int (((p1.toUInt32 >>> ((5 : Int32) &&& 31).toUInt32).toInt32) &&& (127 : Int32))), .val (.int c0_), .val (.int c1_), .val (.int c2_), .val (.int c3_), .val (.int c4_), .val (.int c5_), .val (.int c6_), .val (.ref xs), .val .null, .unset] [])) (OEndW s Z consts_1 (fun v h L => v = some (.int (1 : Int32)) ∧ Fr n0 L) room_1.cells room_1.slots)
                have xt459 := (own_ext_trans xt361 Xe363)
                have fx460 := SA.ext xt459
                obtain ⟨T461, X461, e461, st461⟩ := getS2 X363 hx hZ hown (host := "") (Or.inl (hw _ (List.mem_of_getElem? (i := 121) rfl))) Via.refl rfl fx460 (g := (mkF m 175 #[.val (.int p1), .val (.long j1), .second, .val (.int nn), .val (.int (((p1.toUInt32 >>> ((3 : Int32) &&& 31).toUInt32).toInt32) &&& (3 : Int32))), .val (.int (((p1.toUInt32 >>> ((5 : Int32) &&& 31).toUInt32).toInt32) &&& (127 : Int32))), .val (.int c0_), .val (.int c1_), .val (.int c2_), .val (.int c3_), .val (.int c4_), .val (.int c5_), .val (.int c6_), .val (.ref xs), .val .null, .unset] [])) rfl (hb hby at_175)
                refine OGo.step st461 ?_
                show OGo p e below (T461.setTop (mkF m 178 #[.val (.int p1), .val (.long j1), .second, .val (.int nn), .val (.int (((p1.toUInt32 >>> ((3 : Int32) &&& 31).toUInt32).toInt32) &&& (3 : Int32))), .val (.int (((p1.toUInt32 >>> ((5 : Int32) &&& 31).toUInt32).toInt32) &&& (127 : Int32))), .val (.int c0_), .val (.int c1_), .val (.int c2_), .val (.int c3_), .val (.int c4_), .val (.int c5_), .val (.int c6_), .val (.ref xs), .val .null, .unset] [(.ref r0)])) (OEndW s Z consts_1 (fun v h L => v = some (.int (1 : Int32)) ∧ Fr n0 L) room_1.cells room_1.slots)
                refine OGo.step (fun _ kk => XS.astore X461.here hx rfl (hb hby at_178) rfl rfl (l' := #[.val (.int p1), .val (.long j1), .second, .val (.int nn), .val (.int (((p1.toUInt32 >>> ((3 : Int32) &&& 31).toUInt32).toInt32) &&& (3 : Int32))), .val (.int (((p1.toUInt32 >>> ((5 : Int32) &&& 31).toUInt32).toInt32) &&& (127 : Int32))), .val (.int c0_), .val (.int c1_), .val (.int c2_), .val (.int c3_), .val (.int c4_), .val (.int c5_), .val (.int c6_), .val (.ref xs), .val (.ref r0), .unset]) rfl kk) ?_
                show OGo p e below (T461.setTop (mkF m 180 #[.val (.int p1), .val (.long j1), .second, .val (.int nn), .val (.int (((p1.toUInt32 >>> ((3 : Int32) &&& 31).toUInt32).toInt32) &&& (3 : Int32))), .val (.int (((p1.toUInt32 >>> ((5 : Int32) &&& 31).toUInt32).toInt32) &&& (127 : Int32))), .val (.int c0_), .val (.int c1_), .val (.int c2_), .val (.int c3_), .val (.int c4_), .val (.int c5_), .val (.int c6_), .val (.ref xs), .val (.ref r0), .unset] [])) (OEndW s Z consts_1 (fun v h L => v = some (.int (1 : Int32)) ∧ Fr n0 L) room_1.cells room_1.slots)
                refine OGo.step (fun _ kk => XS.goto X461.here hx rfl (pc0 := 180) (pc' := 221) rfl (hb hby at_180) (by decide) (by decide) kk) ?_
                show OGo p e below (T461.setTop (mkF m 221 #[.val (.int p1), .val (.long j1), .second, .val (.int nn), .val (.int (((p1.toUInt32 >>> ((3 : Int32) &&& 31).toUInt32).toInt32) &&& (3 : Int32))), .val (.int (((p1.toUInt32 >>> ((5 : Int32) &&& 31).toUInt32).toInt32) &&& (127 : Int32))), .val (.int c0_), .val (.int c1_), .val (.int c2_), .val (.int c3_), .val (.int c4_), .val (.int c5_), .val (.int c6_), .val (.ref xs), .val (.ref r0), .unset] [])) (OEndW s Z consts_1 (fun v h L => v = some (.int (1 : Int32)) ∧ Fr n0 L) room_1.cells room_1.slots)
                refine OGo.step (fun _ kk => XS.aload X461.here hx rfl (hb hby at_221) rfl rfl kk) ?_
                show OGo p e below (T461.setTop (mkF m 223 #[.val (.int p1), .val (.long j1), .second, .val (.int nn), .val (.int (((p1.toUInt32 >>> ((3 : Int32) &&& 31).toUInt32).toInt32) &&& (3 : Int32))), .val (.int (((p1.toUInt32 >>> ((5 : Int32) &&& 31).toUInt32).toInt32) &&& (127 : Int32))), .val (.int c0_), .val (.int c1_), .val (.int c2_), .val (.int c3_), .val (.int c4_), .val (.int c5_), .val (.int c6_), .val (.ref xs), .val (.ref r0), .unset] [(.ref xs)])) (OEndW s Z consts_1 (fun v h L => v = some (.int (1 : Int32)) ∧ Fr n0 L) room_1.cells room_1.slots)
                have fx462 := SV.ext xt459
                have fx463 := AV.ext xt459
                have fx464 := EV.ext xt459
                have fx465 := Ft0.ext xt459
                have fx466 := O0.ext xt459
                have fx467 := Ft1.ext xt459
                have fx468 := O1.ext xt459
                have fx469 := SE.ext xt459
                have fx470 := EO.ext xt459
                have fx471 := FO.ext xt459
                have fx472 := SC.ext xt459
                refine own_callS X461 hx hZ (y := (⟨"com/example/tenantd/tenantd/Permission", "ofText", "(Ljava/lang/String;)Ljava/util/Optional;"⟩ : MethodName)) hown (hw _ (List.mem_of_getElem? (i := 54) rfl)) (hw _ (List.mem_of_getElem? (i := 55) rfl)) (hw _ (List.mem_of_getElem? (i := 56) rfl)) (hw _ (List.mem_of_getElem? (i := 57) rfl)) (by decide) (W := 0) (own_ofS l Z a0 hw [] va vc r0 r1 t0 t1 eo zc xs _ T363.heap n0 sz363 fx472 hzc fx462 fx463 fx464 FV VS V0 fx465 fx466 V1 fx467 fx468 fx469 fx470 fx471 Os363) e461  (pc := 223) (Ls := #[.val (.int p1), .val (.long j1), .second, .val (.int nn), .val (.int (((p1.toUInt32 >>> ((3 : Int32) &&& 31).toUInt32).toInt32) &&& (3 : Int32))), .val (.int (((p1.toUInt32 >>> ((5 : Int32) &&& 31).toUInt32).toInt32) &&& (127 : Int32))), .val (.int c0_), .val (.int c1_), .val (.int c2_), .val (.int c3_), .val (.int c4_), .val (.int c5_), .val (.int c6_), .val (.ref xs), .val (.ref r0), .unset]) (argsL := [(.ref xs)]) (rest := []) (by rw [hml]; rfl) (lenOf own_pd8 rfl) rfl (hb hby at_223) (by decide) (by decide) (by decide) (by decide) ?_
                intro v473 T473 L473 X473 hQ473
                obtain ⟨ob, u473, rfl, N473, Xe473, Eb473, Gv473, hu473⟩ := hQ473
                show OGo p e below (T473.setTop (mkF m 226 #[.val (.int p1), .val (.long j1), .second, .val (.int nn), .val (.int (((p1.toUInt32 >>> ((3 : Int32) &&& 31).toUInt32).toInt32) &&& (3 : Int32))), .val (.int (((p1.toUInt32 >>> ((5 : Int32) &&& 31).toUInt32).toInt32) &&& (127 : Int32))), .val (.int c0_), .val (.int c1_), .val (.int c2_), .val (.int c3_), .val (.int c4_), .val (.int c5_), .val (.int c6_), .val (.ref xs), .val (.ref r0), .unset] [(.ref ob)])) (OEndW s Z consts_1 (fun v h L => v = some (.int (1 : Int32)) ∧ Fr n0 L) room_1.cells room_1.slots)
                have Nc473 := Fr.app Nc363 N473
                have sz473 : n0 ≤ T473.heap.size := Nat.le_trans sz363 Xe473.1
                have OW474 := OW363.ext Xe473
                have hu : u473 = (.ref r0) := hu473.trans (by rw [own_of, if_pos (congrArg some ((own_mk_allow _ _ _ _ _ _ _ _).mpr ⟨hq137_0, hq137_1, hq137_2, hq137_3, hq137_4, hq137_5⟩))])
                rw [hu] at Gv473
                refine OGo.step (fun _ kk => XS.aconstNull X473.here hx rfl (hb hby at_226) kk) ?_
                show OGo p e below (T473.setTop (mkF m 227 #[.val (.int p1), .val (.long j1), .second, .val (.int nn), .val (.int (((p1.toUInt32 >>> ((3 : Int32) &&& 31).toUInt32).toInt32) &&& (3 : Int32))), .val (.int (((p1.toUInt32 >>> ((5 : Int32) &&& 31).toUInt32).toInt32) &&& (127 : Int32))), .val (.int c0_), .val (.int c1_), .val (.int c2_), .val (.int c3_), .val (.int c4_), .val (.int c5_), .val (.int c6_), .val (.ref xs), .val (.ref r0), .unset] [.null, (.ref ob)])) (OEndW s Z consts_1 (fun v h L => v = some (.int (1 : Int32)) ∧ Fr n0 L) room_1.cells room_1.slots)
                refine own_virtual X473 hx hZ (y := (⟨"java/util/Optional", "orElse", "(Ljava/lang/Object;)Ljava/lang/Object;"⟩ : MethodName)) (z := (⟨"java/util/Optional", "orElse", "(Ljava/lang/Object;)Ljava/lang/Object;"⟩ : MethodName)) hown (hw _ (List.mem_of_getElem? (i := 91) rfl)) (hw _ (List.mem_of_getElem? (i := 92) rfl)) (notFace_of_selects (args := #[]) (mvT hZ (hw _ (List.mem_of_getElem? (i := 94) rfl)))) (hw _ (List.mem_of_getElem? (i := 94) rfl)) (hw _ (List.mem_of_getElem? (i := 93) rfl)) (by decide) (hw _ (List.mem_of_getElem? (i := 95) rfl)) (hw _ (List.mem_of_getElem? (i := 88) rfl)) (b := ob) Eb473 (W := 0) (own_orElseR l Z a0 hw [] ob r0 T473.heap n0 sz473 Gv473) rfl  (pc := 227) (Ls := #[.val (.int p1), .val (.long j1), .second, .val (.int nn), .val (.int (((p1.toUInt32 >>> ((3 : Int32) &&& 31).toUInt32).toInt32) &&& (3 : Int32))), .val (.int (((p1.toUInt32 >>> ((5 : Int32) &&& 31).toUInt32).toInt32) &&& (127 : Int32))), .val (.int c0_), .val (.int c1_), .val (.int c2_), .val (.int c3_), .val (.int c4_), .val (.int c5_), .val (.int c6_), .val (.ref xs), .val (.ref r0), .unset]) (argsL := [.null]) (rest := []) (by rw [hml]; rfl) (lenOf own_pd9 rfl) rfl (hb hby at_227) (by decide) (by decide) (by decide) (by decide) ?_
                intro v475 T475 L475 X475 hQ475
                obtain ⟨rfl, N475, e475⟩ := hQ475
                show OGo p e below (T475.setTop (mkF m 230 #[.val (.int p1), .val (.long j1), .second, .val (.int nn), .val (.int (((p1.toUInt32 >>> ((3 : Int32) &&& 31).toUInt32).toInt32) &&& (3 : Int32))), .val (.int (((p1.toUInt32 >>> ((5 : Int32) &&& 31).toUInt32).toInt32) &&& (127 : Int32))), .val (.int c0_), .val (.int c1_), .val (.int c2_), .val (.int c3_), .val (.int c4_), .val (.int c5_), .val (.int c6_), .val (.ref xs), .val (.ref r0), .unset] [(.ref r0)])) (OEndW s Z consts_1 (fun v h L => v = some (.int (1 : Int32)) ∧ Fr n0 L) room_1.cells room_1.slots)
                have Nc475 := Fr.app Nc473 N475
                have xt476 := (own_ext_trans xt459 Xe473)
                have fx477 := EA.ext xt476
                obtain ⟨T478, X478, e478, st478⟩ := castY X475 hx hZ hown (hw _ (List.mem_of_getElem? (i := 136) rfl)) e475 (Ins.self fx477) (g := (mkF m 230 #[.val (.int p1), .val (.long j1), .second, .val (.int nn), .val (.int (((p1.toUInt32 >>> ((3 : Int32) &&& 31).toUInt32).toInt32) &&& (3 : Int32))), .val (.int (((p1.toUInt32 >>> ((5 : Int32) &&& 31).toUInt32).toInt32) &&& (127 : Int32))), .val (.int c0_), .val (.int c1_), .val (.int c2_), .val (.int c3_), .val (.int c4_), .val (.int c5_), .val (.int c6_), .val (.ref xs), .val (.ref r0), .unset] [(.ref r0)])) rfl rfl (hb hby at_230)
                refine OGo.step st478 ?_
                show OGo p e below (T478.setTop (mkF m 233 #[.val (.int p1), .val (.long j1), .second, .val (.int nn), .val (.int (((p1.toUInt32 >>> ((3 : Int32) &&& 31).toUInt32).toInt32) &&& (3 : Int32))), .val (.int (((p1.toUInt32 >>> ((5 : Int32) &&& 31).toUInt32).toInt32) &&& (127 : Int32))), .val (.int c0_), .val (.int c1_), .val (.int c2_), .val (.int c3_), .val (.int c4_), .val (.int c5_), .val (.int c6_), .val (.ref xs), .val (.ref r0), .unset] [(.ref r0)])) (OEndW s Z consts_1 (fun v h L => v = some (.int (1 : Int32)) ∧ Fr n0 L) room_1.cells room_1.slots)
                refine OGo.step (fun _ kk => XS.astore X478.here hx rfl (hb hby at_233) rfl rfl (l' := #[.val (.int p1), .val (.long j1), .second, .val (.int nn), .val (.int (((p1.toUInt32 >>> ((3 : Int32) &&& 31).toUInt32).toInt32) &&& (3 : Int32))), .val (.int (((p1.toUInt32 >>> ((5 : Int32) &&& 31).toUInt32).toInt32) &&& (127 : Int32))), .val (.int c0_), .val (.int c1_), .val (.int c2_), .val (.int c3_), .val (.int c4_), .val (.int c5_), .val (.int c6_), .val (.ref xs), .val (.ref r0), .val (.ref r0)]) rfl kk) ?_
                show OGo p e below (T478.setTop (mkF m 235 #[.val (.int p1), .val (.long j1), .second, .val (.int nn), .val (.int (((p1.toUInt32 >>> ((3 : Int32) &&& 31).toUInt32).toInt32) &&& (3 : Int32))), .val (.int (((p1.toUInt32 >>> ((5 : Int32) &&& 31).toUInt32).toInt32) &&& (127 : Int32))), .val (.int c0_), .val (.int c1_), .val (.int c2_), .val (.int c3_), .val (.int c4_), .val (.int c5_), .val (.int c6_), .val (.ref xs), .val (.ref r0), .val (.ref r0)] [])) (OEndW s Z consts_1 (fun v h L => v = some (.int (1 : Int32)) ∧ Fr n0 L) room_1.cells room_1.slots)
                refine OGo.step (fun _ kk => XS.aload X478.here hx rfl (hb hby at_235) rfl rfl kk) ?_
                show OGo p e below (T478.setTop (mkF m 237 #[.val (.int p1), .val (.long j1), .second, .val (.int nn), .val (.int (((p1.toUInt32 >>> ((3 : Int32) &&& 31).toUInt32).toInt32) &&& (3 : Int32))), .val (.int (((p1.toUInt32 >>> ((5 : Int32) &&& 31).toUInt32).toInt32) &&& (127 : Int32))), .val (.int c0_), .val (.int c1_), .val (.int c2_), .val (.int c3_), .val (.int c4_), .val (.int c5_), .val (.int c6_), .val (.ref xs), .val (.ref r0), .val (.ref r0)] [(.ref r0)])) (OEndW s Z consts_1 (fun v h L => v = some (.int (1 : Int32)) ∧ Fr n0 L) room_1.cells room_1.slots)
                refine OGo.step (fun _ kk => XS.aload X478.here hx rfl (hb hby at_237) rfl rfl kk) ?_
                show OGo p e below (T478.setTop (mkF m 239 #[.val (.int p1), .val (.long j1), .second, .val (.int nn), .val (.int (((p1.toUInt32 >>> ((3 : Int32) &&& 31).toUInt32).toInt32) &&& (3 : Int32))), .val (.int (((p1.toUInt32 >>> ((5 : Int32) &&& 31).toUInt32).toInt32) &&& (127 : Int32))), .val (.int c0_), .val (.int c1_), .val (.int c2_), .val (.int c3_), .val (.int c4_), .val (.int c5_), .val (.int c6_), .val (.ref xs), .val (.ref r0), .val (.ref r0)] [(.ref r0), (.ref r0)])) (OEndW s Z consts_1 (fun v h L => v = some (.int (1 : Int32)) ∧ Fr n0 L) room_1.cells room_1.slots)
                refine OGo.step (fun _ kk => Jvm.RoadKit.acmp (g := (mkF m 239 #[.val (.int p1), .val (.long j1), .second, .val (.int nn), .val (.int (((p1.toUInt32 >>> ((3 : Int32) &&& 31).toUInt32).toInt32) &&& (3 : Int32))), .val (.int (((p1.toUInt32 >>> ((5 : Int32) &&& 31).toUInt32).toInt32) &&& (127 : Int32))), .val (.int c0_), .val (.int c1_), .val (.int c2_), .val (.int c3_), .val (.int c4_), .val (.int c5_), .val (.int c6_), .val (.ref xs), .val (.ref r0), .val (.ref r0)] [(.ref r0), (.ref r0)])) X478 hx rfl rfl rfl (pc0 := 239) (pc' := 242) (same := true) rfl (hb hby at_239) rfl (decide_eq_true rfl) (by decide) (by decide) kk) ?_
                show OGo p e below (T478.setTop (mkF m 242 #[.val (.int p1), .val (.long j1), .second, .val (.int nn), .val (.int (((p1.toUInt32 >>> ((3 : Int32) &&& 31).toUInt32).toInt32) &&& (3 : Int32))), .val (.int (((p1.toUInt32 >>> ((5 : Int32) &&& 31).toUInt32).toInt32) &&& (127 : Int32))), .val (.int c0_), .val (.int c1_), .val (.int c2_), .val (.int c3_), .val (.int c4_), .val (.int c5_), .val (.int c6_), .val (.ref xs), .val (.ref r0), .val (.ref r0)] [])) (OEndW s Z consts_1 (fun v h L => v = some (.int (1 : Int32)) ∧ Fr n0 L) room_1.cells room_1.slots)
                refine OGo.step (fun _ kk => XS.iconst X478.here hx rfl (hb hby at_242) kk) ?_
                show OGo p e below (T478.setTop (mkF m 243 #[.val (.int p1), .val (.long j1), .second, .val (.int nn), .val (.int (((p1.toUInt32 >>> ((3 : Int32) &&& 31).toUInt32).toInt32) &&& (3 : Int32))), .val (.int (((p1.toUInt32 >>> ((5 : Int32) &&& 31).toUInt32).toInt32) &&& (127 : Int32))), .val (.int c0_), .val (.int c1_), .val (.int c2_), .val (.int c3_), .val (.int c4_), .val (.int c5_), .val (.int c6_), .val (.ref xs), .val (.ref r0), .val (.ref r0)] [(.int (1 : Int32))])) (OEndW s Z consts_1 (fun v h L => v = some (.int (1 : Int32)) ∧ Fr n0 L) room_1.cells room_1.slots)
                refine OGo.step (fun _ kk => XS.goto X478.here hx rfl (pc0 := 243) (pc' := 247) rfl (hb hby at_243) (by decide) (by decide) kk) ?_
                show OGo p e below (T478.setTop (mkF m 247 #[.val (.int p1), .val (.long j1), .second, .val (.int nn), .val (.int (((p1.toUInt32 >>> ((3 : Int32) &&& 31).toUInt32).toInt32) &&& (3 : Int32))), .val (.int (((p1.toUInt32 >>> ((5 : Int32) &&& 31).toUInt32).toInt32) &&& (127 : Int32))), .val (.int c0_), .val (.int c1_), .val (.int c2_), .val (.int c3_), .val (.int c4_), .val (.int c5_), .val (.int c6_), .val (.ref xs), .val (.ref r0), .val (.ref r0)] [(.int (1 : Int32))])) (OEndW s Z consts_1 (fun v h L => v = some (.int (1 : Int32)) ∧ Fr n0 L) room_1.cells room_1.slots)
                exact own_retNW X478 hx hlk hEL OW474 e478 hret (by simp) (hb hby at_247) ⟨by rw [own_nar1], Nc475⟩ (by decide) (by decide)
              · refine OGo.step (fun _ kk => XS.icmpYes X363.here hx rfl (pc0 := 172) (pc' := 183) rfl (hb hby at_172) rfl (feq hq137_5).2 (by decide) (by decide) kk) ?_
                show OGo p e below (T363.setTop (mkF m 183 #[.val (.int p1), .val (.long j1), .second, .val (.int nn), .val (.int (((p1.toUInt32 >>> ((3 : Int32) &&& 31).toUInt32).toInt32) &&& (3 : Int32))), .val (.int (((p1.toUInt32 >>> ((5 : Int32) &&& 31).toUInt32).toInt32) &&& (127 : Int32))), .val (.int c0_), .val (.int c1_), .val (.int c2_), .val (.int c3_), .val (.int c4_), .val (.int c5_), .val (.int c6_), .val (.ref xs), .val .null, .unset] [])) (OEndW s Z consts_1 (fun v h L => v = some (.int (1 : Int32)) ∧ Fr n0 L) room_1.cells room_1.slots)
                exact K183 (fun z => hq137_5 ((own_mk_allow _ _ _ _ _ _ _ _).mp z).2.2.2.2.2)
            · refine OGo.step (fun _ kk => XS.icmpYes X363.here hx rfl (pc0 := 165) (pc' := 183) rfl (hb hby at_165) rfl (feq hq137_4).2 (by decide) (by decide) kk) ?_
              show OGo p e below (T363.setTop (mkF m 183 #[.val (.int p1), .val (.long j1), .second, .val (.int nn), .val (.int (((p1.toUInt32 >>> ((3 : Int32) &&& 31).toUInt32).toInt32) &&& (3 : Int32))), .val (.int (((p1.toUInt32 >>> ((5 : Int32) &&& 31).toUInt32).toInt32) &&& (127 : Int32))), .val (.int c0_), .val (.int c1_), .val (.int c2_), .val (.int c3_), .val (.int c4_), .val (.int c5_), .val (.int c6_), .val (.ref xs), .val .null, .unset] [])) (OEndW s Z consts_1 (fun v h L => v = some (.int (1 : Int32)) ∧ Fr n0 L) room_1.cells room_1.slots)
              exact K183 (fun z => hq137_4 ((own_mk_allow _ _ _ _ _ _ _ _).mp z).2.2.2.2.1)
          · refine OGo.step (fun _ kk => XS.icmpYes X363.here hx rfl (pc0 := 158) (pc' := 183) rfl (hb hby at_158) rfl (feq hq137_3).2 (by decide) (by decide) kk) ?_
            show OGo p e below (T363.setTop (mkF m 183 #[.val (.int p1), .val (.long j1), .second, .val (.int nn), .val (.int (((p1.toUInt32 >>> ((3 : Int32) &&& 31).toUInt32).toInt32) &&& (3 : Int32))), .val (.int (((p1.toUInt32 >>> ((5 : Int32) &&& 31).toUInt32).toInt32) &&& (127 : Int32))), .val (.int c0_), .val (.int c1_), .val (.int c2_), .val (.int c3_), .val (.int c4_), .val (.int c5_), .val (.int c6_), .val (.ref xs), .val .null, .unset] [])) (OEndW s Z consts_1 (fun v h L => v = some (.int (1 : Int32)) ∧ Fr n0 L) room_1.cells room_1.slots)
            exact K183 (fun z => hq137_3 ((own_mk_allow _ _ _ _ _ _ _ _).mp z).2.2.2.1)
        · refine OGo.step (fun _ kk => XS.icmpYes X363.here hx rfl (pc0 := 151) (pc' := 183) rfl (hb hby at_151) rfl (feq hq137_2).2 (by decide) (by decide) kk) ?_
          show OGo p e below (T363.setTop (mkF m 183 #[.val (.int p1), .val (.long j1), .second, .val (.int nn), .val (.int (((p1.toUInt32 >>> ((3 : Int32) &&& 31).toUInt32).toInt32) &&& (3 : Int32))), .val (.int (((p1.toUInt32 >>> ((5 : Int32) &&& 31).toUInt32).toInt32) &&& (127 : Int32))), .val (.int c0_), .val (.int c1_), .val (.int c2_), .val (.int c3_), .val (.int c4_), .val (.int c5_), .val (.int c6_), .val (.ref xs), .val .null, .unset] [])) (OEndW s Z consts_1 (fun v h L => v = some (.int (1 : Int32)) ∧ Fr n0 L) room_1.cells room_1.slots)
          exact K183 (fun z => hq137_2 ((own_mk_allow _ _ _ _ _ _ _ _).mp z).2.2.1)
      · refine OGo.step (fun _ kk => XS.icmpYes X363.here hx rfl (pc0 := 144) (pc' := 183) rfl (hb hby at_144) rfl (feq hq137_1).2 (by decide) (by decide) kk) ?_
        show OGo p e below (T363.setTop (mkF m 183 #[.val (.int p1), .val (.long j1), .second, .val (.int nn), .val (.int (((p1.toUInt32 >>> ((3 : Int32) &&& 31).toUInt32).toInt32) &&& (3 : Int32))), .val (.int (((p1.toUInt32 >>> ((5 : Int32) &&& 31).toUInt32).toInt32) &&& (127 : Int32))), .val (.int c0_), .val (.int c1_), .val (.int c2_), .val (.int c3_), .val (.int c4_), .val (.int c5_), .val (.int c6_), .val (.ref xs), .val .null, .unset] [])) (OEndW s Z consts_1 (fun v h L => v = some (.int (1 : Int32)) ∧ Fr n0 L) room_1.cells room_1.slots)
        exact K183 (fun z => hq137_1 ((own_mk_allow _ _ _ _ _ _ _ _).mp z).2.1)
    · refine OGo.step (fun _ kk => XS.icmpYes X363.here hx rfl (pc0 := 137) (pc' := 183) rfl (hb hby at_137) rfl (feq hq137_0).2 (by decide) (by decide) kk) ?_
      show OGo p e below (T363.setTop (mkF m 183 #[.val (.int p1), .val (.long j1), .second, .val (.int nn), .val (.int (((p1.toUInt32 >>> ((3 : Int32) &&& 31).toUInt32).toInt32) &&& (3 : Int32))), .val (.int (((p1.toUInt32 >>> ((5 : Int32) &&& 31).toUInt32).toInt32) &&& (127 : Int32))), .val (.int c0_), .val (.int c1_), .val (.int c2_), .val (.int c3_), .val (.int c4_), .val (.int c5_), .val (.int c6_), .val (.ref xs), .val .null, .unset] [])) (OEndW s Z consts_1 (fun v h L => v = some (.int (1 : Int32)) ∧ Fr n0 L) room_1.cells room_1.slots)
      exact K183 (fun z => hq137_0 ((own_mk_allow _ _ _ _ _ _ _ _).mp z).1)

set_option maxRecDepth 65536 in
set_option maxHeartbeats 40000000 in
theorem comes_1 {Post : Tables → Env → Array Value → State → Outcome → State → Prop} (hpost : ∀ tb e args s v u, (limb_1_1.after args s (.returned v) u = true ∧ limb_1_2.after args s (.returned v) u = true ∧ True) → ReturnedEndW s (.returned v) u (Jvm.fieldLocs frame_1_writes args s ++ Jvm.arrayLocs frame_1_arrays args s ++ Jvm.staticLocs frame_1_statics s) 24 3200 → Post tb e args s (.returned v) u) :
    ArmFor flags0 classFile x code maxLocals ret World_1 tables_1 room_1 Calls_1 rest_1 Pre_1 Post := by
  intro l hfl _ _ p e ha hc hk s m args below hf hA hF happ hP
  obtain ⟨hcalls, hrest, hpre⟩ := hP
  obtain ⟨-, -, -, hnamed, -, -, -, hat⟩ := (Spec.applies_iff hf).mp happ
  obtain ⟨hg, hn⟩ := and_e (Cond.before_iff.mp (show (Jvm.Cond.and given_1 narrow_1).before args s = true from hpre))
  obtain ⟨k479, k479'⟩ := and_e hg
  obtain ⟨k480, k480'⟩ := and_e k479'
  obtain ⟨w0_, w1_, rfl⟩ : ∃ w0_ w1_ : Value, args = #[w0_, w1_] := by
    have hs : args.size = 2 := by simpa [Cond.value, given_1] using k479
    obtain ⟨L⟩ := args
    match L, hs with
    | [w0_, w1_], _ => exact ⟨w0_, w1_, rfl⟩
  have hw := fun d (hd : d ∈ tables_1) => atoms_spec (ws := Jvm.Cond.code x code maxLocals ret :: tables_1) hat d (List.mem_cons_of_mem _ hd)
  have hfit : Fit s := fun {y c} hc i hi => by
    obtain ⟨ha, rfl⟩ := Array.getElem?_eq_some_iff.mp hc
    have q := List.all_eq_true.mp ((Array.all_eq_true_iff_forall_mem.mp hF) _ (Array.getElem_mem ha)) i (List.mem_range.mpr hi)
    simpa [Array.getElem?_eq_getElem hi] using q
  obtain ⟨hsets, hown0⟩ := atoms_of _ (rest_1_c_eq ▸ (show rest_1_c.before _ s = true from hrest))
  obtain ⟨i0, ei0⟩ := is_v k480
  obtain rfl : w0_ = (.int i0) := Option.some.inj ei0
  obtain ⟨i1, ei1⟩ := isL_v k480'
  obtain rfl : w1_ = (.long i1) := Option.some.inj ei1
  obtain ⟨k481, k481'⟩ := and_e hn
  obtain ⟨k482, k482'⟩ := and_e k481'
  obtain ⟨k483, k483'⟩ := and_e k482'
  obtain ⟨k484, k484'⟩ := and_e k483'
  obtain ⟨k485, k485'⟩ := and_e k484'
  obtain ⟨k486, k486'⟩ := and_e k485'
  obtain ⟨k487, k487'⟩ := and_e k486'
  obtain ⟨k488, k488'⟩ := and_e k487'
  obtain ⟨k489, k489'⟩ := and_e k488'
  obtain ⟨k490, k490'⟩ := and_e k489'
  obtain ⟨k491, k491'⟩ := and_e k490'
  obtain ⟨k492, k492'⟩ := and_e k491'
  obtain ⟨k493, k493'⟩ := and_e k492'
  obtain ⟨k494, k494'⟩ := and_e k493'
  obtain ⟨k495, k495'⟩ := and_e k494'
  obtain ⟨k496, k496'⟩ := and_e k495'
  obtain ⟨k497, k497'⟩ := and_e k496'
  obtain ⟨k498, k498'⟩ := and_e k497'
  obtain ⟨k499, k499'⟩ := and_e k498'
  obtain ⟨k500, k500'⟩ := and_e k499'
  obtain ⟨k501, k501'⟩ := and_e k500'
  obtain ⟨k502, k502'⟩ := and_e k501'
  obtain ⟨k503, k503'⟩ := and_e k502'
  obtain ⟨a__VALUES, ev__VALUES⟩ := arr_v k481
  have S__VALUES := Sta.start ev__VALUES (Or.inr ⟨(hw _ (List.mem_of_getElem? (i := 56) rfl)), (hw _ (List.mem_of_getElem? (i := 62) rfl))⟩)
  obtain ⟨c__VALUES, Ar__VALUES⟩ := Arr.start ev__VALUES k481
  have E__VALUES := Exa.start ev__VALUES k482
  obtain ⟨a_ALLOW, ev_ALLOW⟩ := exa_v k484
  have S_ALLOW := Sta.start ev_ALLOW (Or.inr ⟨(hw _ (List.mem_of_getElem? (i := 56) rfl)), (hw _ (List.mem_of_getElem? (i := 70) rfl))⟩)
  have E_ALLOW := Exa.start ev_ALLOW k484
  obtain ⟨a_DENY, ev_DENY⟩ := exa_v k486
  have S_DENY := Sta.start ev_DENY (Or.inr ⟨(hw _ (List.mem_of_getElem? (i := 56) rfl)), (hw _ (List.mem_of_getElem? (i := 71) rfl))⟩)
  have E_DENY := Exa.start ev_DENY k486
  have len__VALUES := own_len ev__VALUES Ar__VALUES (own_eqv k483 rfl)
  have el__VALUES_0 := own_elem ev__VALUES Ar__VALUES (own_eqv k485 ev_ALLOW)
  have el__VALUES_1 := own_elem ev__VALUES Ar__VALUES (own_eqv k487 ev_DENY)
  -- left: k488 : (Jvm.Cond.exactly (Jvm.Term.field (Jvm.Term.static "com/example/tenantd/tenantd/Permission" "ALLOW" "Lcom/example/tenantd/tenantd/Permission;") "com/example/tenantd/tenantd/Permission" "text" "Ljava/l
  -- left: k489 : (Jvm.Cond.eq (Jvm.Term.field (Jvm.Term.field (Jvm.Term.static "com/example/tenantd/tenantd/Permission" "ALLOW" "Lcom/example/tenantd/tenantd/Permission;") "com/example/tenantd/tenantd/Permission" "tex
  -- left: k490 : (Jvm.Cond.arrayOf (Jvm.Term.field (Jvm.Term.field (Jvm.Term.static "com/example/tenantd/tenantd/Permission" "ALLOW" "Lcom/example/tenantd/tenantd/Permission;") "com/example/tenantd/tenantd/Permission"
  -- left: k491 : (Jvm.Cond.eq (Jvm.Term.length (Jvm.Term.field (Jvm.Term.field (Jvm.Term.static "com/example/tenantd/tenantd/Permission" "ALLOW" "Lcom/example/tenantd/tenantd/Permission;") "com/example/tenantd/tenantd
  -- left: k492 : (Jvm.Cond.exactly (Jvm.Term.field (Jvm.Term.static "com/example/tenantd/tenantd/Permission" "DENY" "Lcom/example/tenantd/tenantd/Permission;") "com/example/tenantd/tenantd/Permission" "text" "Ljava/la
  -- left: k493 : (Jvm.Cond.eq (Jvm.Term.field (Jvm.Term.field (Jvm.Term.static "com/example/tenantd/tenantd/Permission" "DENY" "Lcom/example/tenantd/tenantd/Permission;") "com/example/tenantd/tenantd/Permission" "text
  -- left: k494 : (Jvm.Cond.arrayOf (Jvm.Term.field (Jvm.Term.field (Jvm.Term.static "com/example/tenantd/tenantd/Permission" "DENY" "Lcom/example/tenantd/tenantd/Permission;") "com/example/tenantd/tenantd/Permission" 
  -- left: k495 : (Jvm.Cond.eq (Jvm.Term.length (Jvm.Term.field (Jvm.Term.field (Jvm.Term.static "com/example/tenantd/tenantd/Permission" "DENY" "Lcom/example/tenantd/tenantd/Permission;") "com/example/tenantd/tenantd/
  -- left: k496 : (Jvm.Cond.eq (Jvm.Term.elem (Jvm.Term.field (Jvm.Term.field (Jvm.Term.static "com/example/tenantd/tenantd/Permission" "DENY" "Lcom/example/tenantd/tenantd/Permission;") "com/example/tenantd/tenantd/Pe
  -- left: k497 : (Jvm.Cond.eq (Jvm.Term.elem (Jvm.Term.field (Jvm.Term.field (Jvm.Term.static "com/example/tenantd/tenantd/Permission" "DENY" "Lcom/example/tenantd/tenantd/Permission;") "com/example/tenantd/tenantd/Pe
  -- left: k498 : (Jvm.Cond.eq (Jvm.Term.elem (Jvm.Term.field (Jvm.Term.field (Jvm.Term.static "com/example/tenantd/tenantd/Permission" "DENY" "Lcom/example/tenantd/tenantd/Permission;") "com/example/tenantd/tenantd/Pe
  -- left: k499 : (Jvm.Cond.eq (Jvm.Term.elem (Jvm.Term.field (Jvm.Term.field (Jvm.Term.static "com/example/tenantd/tenantd/Permission" "DENY" "Lcom/example/tenantd/tenantd/Permission;") "com/example/tenantd/tenantd/Pe
  -- left: k500 : (Jvm.Cond.eq (Jvm.Term.elem (Jvm.Term.field (Jvm.Term.field (Jvm.Term.static "com/example/tenantd/tenantd/Permission" "ALLOW" "Lcom/example/tenantd/tenantd/Permission;") "com/example/tenantd/tenantd/P
  -- left: k501 : (Jvm.Cond.eq (Jvm.Term.elem (Jvm.Term.field (Jvm.Term.field (Jvm.Term.static "com/example/tenantd/tenantd/Permission" "ALLOW" "Lcom/example/tenantd/tenantd/Permission;") "com/example/tenantd/tenantd/P
  -- left: k502 : (Jvm.Cond.eq (Jvm.Term.elem (Jvm.Term.field (Jvm.Term.field (Jvm.Term.static "com/example/tenantd/tenantd/Permission" "ALLOW" "Lcom/example/tenantd/tenantd/Permission;") "com/example/tenantd/tenantd/P
  -- left: k503 : (Jvm.Cond.eq (Jvm.Term.elem (Jvm.Term.field (Jvm.Term.field (Jvm.Term.static "com/example/tenantd/tenantd/Permission" "ALLOW" "Lcom/example/tenantd/tenantd/Permission;") "com/example/tenantd/tenantd/P
  -- left: k503' : (Jvm.Cond.eq (Jvm.Term.elem (Jvm.Term.field (Jvm.Term.field (Jvm.Term.static "com/example/tenantd/tenantd/Permission" "ALLOW" "Lcom/example/tenantd/tenantd/Permission;") "com/example/tenantd/tenantd/P
  obtain ⟨zc, ezc⟩ := is_v (Cond.before_iff.mp (hsets _ (List.mem_of_getElem? (i := 1) rfl)))
  have SC0 := Sta.start ezc (Or.inl (hsets _ (List.mem_of_getElem? (i := 0) rfl)))
  have hzc : ¬ zc = 0 := gotF (Cond.eq_ints ezc (Term.int_eval (0))) (not_v (Cond.before_iff.mp (hsets _ (List.mem_of_getElem? (i := 2) rfl))))
  obtain ⟨fm, efm, hfm⟩ := isR_v (Cond.before_iff.mp (hsets _ (List.mem_of_getElem? (i := 8) rfl)))
  have SF0 := Sta.start efm (Or.inl (hsets _ (List.mem_of_getElem? (i := 7) rfl)))
  have xE := Cond.before_iff.mp (hsets _ (List.mem_of_getElem? (i := 11) rfl))
  obtain ⟨eo, evE⟩ := exa_v xE
  have SE := Sta.start evE (Or.inl (hsets _ (List.mem_of_getElem? (i := 10) rfl)))
  have EO := Exa.start evE xE
  have FO := Fld.start ((fld_at evE).symm.trans (null_v (Cond.before_iff.mp (hsets _ (List.mem_of_getElem? (i := 12) rfl)))))
  have VS : c__VALUES.slots.size = 2 := by
    have q := len_toInt len__VALUES.1
    rw [len__VALUES.2] at q
    have z : (2 : Int32).toInt = 2 := rfl
    omega
  obtain ⟨t_ALLOW, et_ALLOW⟩ := exa_v k488
  have Et_ALLOW := Exa.start et_ALLOW k488
  have Ft_ALLOW := Fld.start ((fld_at ev_ALLOW).symm.trans et_ALLOW)
  have Fc_ALLOW := Fld.start ((fld_at et_ALLOW).symm.trans (own_eqv k489 rfl))
  obtain ⟨b_ALLOW, eb_ALLOW⟩ := arr_v k490
  obtain ⟨cb_ALLOW, Ab_ALLOW⟩ := Arr.start eb_ALLOW k490
  have Fv_ALLOW := Fld.start ((fld_at et_ALLOW).symm.trans eb_ALLOW)
  have lb_ALLOW := own_len eb_ALLOW Ab_ALLOW (own_eqv k491 rfl)
  have Av_ALLOW : Arv s s.heap b_ALLOW cb_ALLOW.cls .byte (5 : Int32) [.int (97 : Int32), .int (108 : Int32), .int (108 : Int32), .int (111 : Int32), .int (119 : Int32)] (.int (0 : Int32)) := Arv.start hfit Ab_ALLOW lb_ALLOW.1 lb_ALLOW.2 (by decide) (by decide) ⟨own_elem eb_ALLOW Ab_ALLOW (own_eqv k500 rfl), own_elem eb_ALLOW Ab_ALLOW (own_eqv k501 rfl), own_elem eb_ALLOW Ab_ALLOW (own_eqv k502 rfl), own_elem eb_ALLOW Ab_ALLOW (own_eqv k503 rfl), own_elem eb_ALLOW Ab_ALLOW (own_eqv k503' rfl), trivial⟩
  have cd_ALLOW : StrChars.Road.CodA ([97, 108, 108, 111, 119] : List Int32) 0 (5 : Int32) [.int (97 : Int32), .int (108 : Int32), .int (108 : Int32), .int (111 : Int32), .int (119 : Int32)] := StrChars.Road.codOf (cs := [97, 108, 108, 111, 119]) (n := 5) rfl (by decide)
  have O_ALLOW : OStr s s.heap t_ALLOW ([97, 108, 108, 111, 119] : List Int32) := ⟨b_ALLOW, _, 0, (5 : Int32), _, Et_ALLOW, Fv_ALLOW, Fc_ALLOW, Av_ALLOW, cd_ALLOW, by decide, by decide⟩
  obtain ⟨t_DENY, et_DENY⟩ := exa_v k492
  have Et_DENY := Exa.start et_DENY k492
  have Ft_DENY := Fld.start ((fld_at ev_DENY).symm.trans et_DENY)
  have Fc_DENY := Fld.start ((fld_at et_DENY).symm.trans (own_eqv k493 rfl))
  obtain ⟨b_DENY, eb_DENY⟩ := arr_v k494
  obtain ⟨cb_DENY, Ab_DENY⟩ := Arr.start eb_DENY k494
  have Fv_DENY := Fld.start ((fld_at et_DENY).symm.trans eb_DENY)
  have lb_DENY := own_len eb_DENY Ab_DENY (own_eqv k495 rfl)
  have Av_DENY : Arv s s.heap b_DENY cb_DENY.cls .byte (4 : Int32) [.int (100 : Int32), .int (101 : Int32), .int (110 : Int32), .int (121 : Int32)] (.int (0 : Int32)) := Arv.start hfit Ab_DENY lb_DENY.1 lb_DENY.2 (by decide) (by decide) ⟨own_elem eb_DENY Ab_DENY (own_eqv k496 rfl), own_elem eb_DENY Ab_DENY (own_eqv k497 rfl), own_elem eb_DENY Ab_DENY (own_eqv k498 rfl), own_elem eb_DENY Ab_DENY (own_eqv k499 rfl), trivial⟩
  have cd_DENY : StrChars.Road.CodA ([100, 101, 110, 121] : List Int32) 0 (4 : Int32) [.int (100 : Int32), .int (101 : Int32), .int (110 : Int32), .int (121 : Int32)] := StrChars.Road.codOf (cs := [100, 101, 110, 121]) (n := 4) rfl (by decide)
  have O_DENY : OStr s s.heap t_DENY ([100, 101, 110, 121] : List Int32) := ⟨b_DENY, _, 0, (4 : Int32), _, Et_DENY, Fv_DENY, Fc_DENY, Av_DENY, cd_DENY, by decide, by decide⟩
  have hch : CHv s consts_1 s.vm s.heap := CHv.start (own_hEL hw) (fun p hp => hcalls.1 p hp) (hsets _ (List.mem_of_getElem? (i := 2) rfl)) (own_wS hw _ (by simp [Bundle.stringAtoms])) (own_wS hw _ (by simp [Bundle.stringAtoms, Bundle.sN]))
  obtain ⟨n, o, h1, h2, h3, _, L, rfl, ⟨rfl, N⟩, -, hq⟩ := own_rm0 l s _ hw tables_1 i0 i1 a__VALUES c__VALUES a_ALLOW a_DENY t_ALLOW t_DENY eo zc fm s.heap s.heap.size (Nat.le_refl _) SC0 hzc SF0 hfm S__VALUES Ar__VALUES E__VALUES (FitC.start hfit Ar__VALUES) VS el__VALUES_0 Ft_ALLOW O_ALLOW el__VALUES_1 Ft_DENY O_DENY SE EO FO S_ALLOW S_DENY E_ALLOW E_DENY p e ha hc hk s m _ below hf ((Spec.applies_iff_loose hf).mp happ).1 ⟨rfl, State.Warmed39.refl s, rfl, hch⟩ trivial
  exact ⟨n, _, h1, h2, h3, hpost _ _ _ _ _ _ ⟨Cond.after_iff.mpr rfl, Cond.after_iff.mpr (eq_i res_at (Term.int_eval (1)) rfl), trivial⟩ ⟨hq.1, hq.2.1, hq.2.2.1, (hq.2.2.2.sift fun y hy => Or.inr (N y hy)).mono (by decide) (by decide)⟩⟩
theorem main_1_1 : Claimed_1_1 := comes_1 fun _ _ _ _ _ _ h hF => ⟨h.1, hF⟩
theorem main_1_2 : Claimed_1_2 := comes_1 fun _ _ _ _ _ _ h hF => ⟨h.2.1, hF⟩
end Jvm.Pilot.@@N@@
namespace Jvm.Pilot.@@N@@
open Jvm Jvm.ClassFile Sem Op Lib Jvm.Free Jvm.Stand Jvm.Pilot.@@N@@.Jvm.D
/-! MADE BY PROGRAM (witnessworld.py) out of the Statement's table words and the real class files: 24 classes; the members and pool entries that the words name. The judged class is class 1, her method 3. -/
namespace start1
open Jvm.ClassFile
def u (s : String) : CpInfo := .utf8 (stringToUtf16 s)
/-- a pool by its gaps: so many unusable entries, then the entry; so many at the end -/
def gap : Nat → List CpInfo → List CpInfo
  | 0, r => r
  | n + 1, r => .unusable :: gap n r
def poolList (es : List (Nat × CpInfo)) (last : Nat) : List CpInfo := es.foldr (fun e r => gap e.1 (e.2 :: r)) (gap last [])
def pool (es : List (Nat × CpInfo)) (last : Nat) : Array CpInfo := ⟨poolList es last⟩
def fileOf (pool : Array CpInfo) (this : Nat) (attrs : Array Attribute := #[]) (ms : Array MethodInfo := #[]) (fl : Nat := 33) (sup : Nat := 0) (ifs : Array Nat := #[]) (fds : Array FieldInfo := #[]) : ClassFile where
  minorVersion := 0
  majorVersion := 65
  constantPool := pool
  accessFlags := fl
  thisClass := this
  superClass := sup
  interfaces := ifs
  fields := fds
  methods := ms
  attributes := attrs
def plain (name : String) (sup : Option ClassId) : Class where
  name := name
  kind := .ordinary
  loader := none
  accessFlags := 33
  super := sup
  interfaces := #[]
  cf := none
  fields := #[]
  methods := #[]
  instanceTypes := #[]
  staticTypes := #[]
  resolved := #[]
  callSites := []
  init := .initialized
  statics := none
  mirror := none

def pool0 : Array CpInfo := pool [(5, u "<init>"), (0, u "()V"), (1, .class_ 10), (1, u "java/lang/Object"), (85, u "clone"), (0, u "()Ljava/lang/Object;")] 26

def k0c0 : Code := { maxStack := 0, maxLocals := 1, code := object_method_1_code, exceptionTable := #[], attributes := #[] }
def k0m0 : Method := { name := "<init>", desc := "()V", sig := { parameters := [], returnType := none }, accessFlags := 1, code := some k0c0 }
def k0m1 : Method := { name := "clone", desc := "()Ljava/lang/Object;", sig := { parameters := [], returnType := some (.object "java/lang/Object") }, accessFlags := 260, code := none }
/-- java/lang/Object -/
def k0 : Class := { plain "java/lang/Object" none with
  accessFlags := 33
  interfaces := #[]
  cf := some (fileOf pool0 8 #[] #[{ accessFlags := 1, nameIndex := 5, descriptorIndex := 6, attributes := #[] }, { accessFlags := 260, nameIndex := 96, descriptorIndex := 97, attributes := #[] }] 33 0 #[] #[])
  fields := #[]
  methods := #[k0m0, k0m1]
  instanceTypes := #[]
  staticTypes := #[]
  resolved := Array.replicate 124 none
  statics := none }

def pool1 : Array CpInfo := pool [(2, .class_ 4), (1, u "java/lang/Object"), (0, u "<init>"), (0, u "()V"), (0, .long 255), (1, .string 10), (0, u "allow"), (0, .methodref 12 13), (0, .class_ 14), (0, .nameAndType 15 16), (0, u "java/lang/String"), (0, u "charAt"), (0, u "(I)C"), (0, .string 18), (0, u "deny"), (0, .methodref 12 20), (0, .nameAndType 5 21), (0, u "([C)V"), (0, .methodref 12 23), (0, .nameAndType 24 25), (0, u "valueOf"), (0, u "(C)Ljava/lang/String;"), (0, .methodref 27 28), (0, .class_ 29), (0, .nameAndType 30 31), (0, u "com/example/tenantd/tenantd/PermissionOfTextPinLaw"), (0, u "ch"), (0, u "(IIIJ)C"), (0, .methodref 27 33), (0, .nameAndType 34 35), (0, u "mk"), (0, u "(ICCCCCCC)Ljava/lang/String;"), (0, .fieldref 37 38), (0, .class_ 39), (0, .nameAndType 40 41), (0, u "com/example/tenantd/tenantd/Permission"), (0, u "ALLOW"), (0, u "Lcom/example/tenantd/tenantd/Permission;"), (0, .fieldref 37 43), (0, .nameAndType 44 41), (0, u "DENY"), (0, .methodref 37 46), (0, .nameAndType 47 48), (0, u "ofText"), (0, u "(Ljava/lang/String;)Ljava/util/Optional;"), (0, .methodref 50 51), (0, .class_ 52), (0, .nameAndType 53 54), (0, u "java/util/Optional"), (0, u "orElse"), (0, u "(Ljava/lang/Object;)Ljava/lang/Object;"), (3, u "law"), (0, u "(IJ)Z")] 2

def k1m0 : Method := { name := "<init>", desc := "()V", sig := { parameters := [], returnType := none }, accessFlags := 1, code := none }
def k1c1 : Code := { maxStack := 4, maxLocals := 6, code := method_2_code, exceptionTable := #[], attributes := #[] }
def k1m1 : Method := { name := "ch", desc := "(IIIJ)C", sig := { parameters := [.int, .int, .int, .long], returnType := some .char }, accessFlags := 10, code := some k1c1 }
def k1c2 : Code := { maxStack := 6, maxLocals := 8, code := method_3_code, exceptionTable := #[], attributes := #[] }
def k1m2 : Method := { name := "mk", desc := "(ICCCCCCC)Ljava/lang/String;", sig := { parameters := [.int, .char, .char, .char, .char, .char, .char, .char], returnType := some (.object "java/lang/String") }, accessFlags := 10, code := some k1c2 }
def k1c3 : Code := { maxStack := 8, maxLocals := 16, code := code, exceptionTable := #[], attributes := #[] }
def k1m3 : Method := { name := "law", desc := "(IJ)Z", sig := { parameters := [.int, .long], returnType := some .boolean }, accessFlags := 9, code := some k1c3 }
/-- com/example/tenantd/tenantd/PermissionOfTextPinLaw -/
def k1 : Class := { plain "com/example/tenantd/tenantd/PermissionOfTextPinLaw" (some 0) with
  accessFlags := 49
  interfaces := #[]
  cf := some (fileOf pool1 27 #[] #[{ accessFlags := 1, nameIndex := 5, descriptorIndex := 6, attributes := #[] }, { accessFlags := 10, nameIndex := 30, descriptorIndex := 31, attributes := #[] }, { accessFlags := 10, nameIndex := 34, descriptorIndex := 35, attributes := #[] }, { accessFlags := 9, nameIndex := 58, descriptorIndex := 59, attributes := #[] }] 49 2 #[] #[])
  fields := #[]
  methods := #[k1m0, k1m1, k1m2, k1m3]
  instanceTypes := #[]
  staticTypes := #[]
  resolved := Array.replicate 62 none
  statics := none }

def pool2 : Array CpInfo := pool [(1, .class_ 2), (0, u "java/io/Serializable"), (0, .class_ 4), (0, u "java/lang/Object")] 2

/-- java/io/Serializable -/
def k2 : Class := { plain "java/io/Serializable" (some 0) with
  accessFlags := 1537
  interfaces := #[]
  cf := some (fileOf pool2 1 #[] #[] 1537 3 #[] #[])
  fields := #[]
  methods := #[]
  instanceTypes := #[]
  staticTypes := #[]
  resolved := Array.replicate 7 none
  statics := none }

def pool3 : Array CpInfo := pool [(1, .class_ 2), (0, u "java/lang/Comparable"), (0, .class_ 4), (0, u "java/lang/Object")] 7

/-- java/lang/Comparable -/
def k3 : Class := { plain "java/lang/Comparable" (some 0) with
  accessFlags := 1537
  interfaces := #[]
  cf := some (fileOf pool3 1 #[] #[] 1537 3 #[] #[])
  fields := #[]
  methods := #[]
  instanceTypes := #[]
  staticTypes := #[]
  resolved := Array.replicate 12 none
  statics := none }

def pool4 : Array CpInfo := pool [(2, .class_ 4), (1, u "java/lang/CharSequence"), (42, .class_ 48), (0, u "java/lang/CharSequence$1CodePointIterator"), (10, .class_ 60), (0, u "java/lang/CharSequence$1CharIterator"), (5, .class_ 67), (0, u "java/lang/Object")] 63

/-- java/lang/CharSequence -/
def k4 : Class := { plain "java/lang/CharSequence" (some 0) with
  accessFlags := 1537
  interfaces := #[]
  cf := some (fileOf pool4 2 #[.nestMembers #[47, 59]] #[] 1537 66 #[] #[])
  fields := #[]
  methods := #[]
  instanceTypes := #[]
  staticTypes := #[]
  resolved := Array.replicate 131 none
  statics := none }

def pool5 : Array CpInfo := pool [(1, .class_ 2), (0, u "java/lang/constant/Constable"), (0, .class_ 4), (0, u "java/lang/Object")] 6

/-- java/lang/constant/Constable -/
def k5 : Class := { plain "java/lang/constant/Constable" (some 0) with
  accessFlags := 1537
  interfaces := #[]
  cf := some (fileOf pool5 1 #[] #[] 1537 3 #[] #[])
  fields := #[]
  methods := #[]
  instanceTypes := #[]
  staticTypes := #[]
  resolved := Array.replicate 11 none
  statics := none }

def pool6 : Array CpInfo := pool [(1, .class_ 2), (0, u "java/lang/constant/ConstantDesc"), (0, .class_ 4), (0, u "java/lang/Object")] 32

/-- java/lang/constant/ConstantDesc -/
def k6 : Class := { plain "java/lang/constant/ConstantDesc" (some 0) with
  accessFlags := 1537
  interfaces := #[]
  cf := some (fileOf pool6 1 #[] #[] 1537 3 #[] #[])
  fields := #[]
  methods := #[]
  instanceTypes := #[]
  staticTypes := #[]
  resolved := Array.replicate 37 none
  statics := none }

def pool7 : Array CpInfo := pool [(1, .methodref 2 3), (0, .class_ 4), (0, .nameAndType 5 6), (0, u "java/lang/Object"), (0, u "<init>"), (0, u "()V"), (0, .string 8), (0, u ""), (0, .fieldref 10 11), (0, .class_ 12), (0, .nameAndType 13 14), (0, u "java/lang/String"), (0, u "value"), (0, u "[B"), (0, .fieldref 10 16), (0, .nameAndType 17 18), (0, u "coder"), (0, u "B"), (2, u "hash"), (0, u "I"), (2, u "hashIsZero"), (0, u "Z"), (0, .methodref 10 28), (0, .nameAndType 5 29), (0, u "([CIILjava/lang/Void;)V"), (8, .fieldref 10 39), (0, .nameAndType 40 26), (0, u "COMPACT_STRINGS"), (1, .class_ 44), (1, u "java/lang/StringUTF16"), (0, u "compress"), (1, .methodref 42 48), (0, .nameAndType 49 50), (0, u "coderFromArrayLen"), (0, u "([BI)B"), (2, u "toBytes"), (53, .class_ 109), (1, u "java/lang/StringLatin1"), (32, u "()Z"), (34, .methodref 42 178), (0, .nameAndType 45 179), (0, u "([CII)[B"), (29, .methodref 10 210), (0, .nameAndType 5 211), (0, u "([BB)V"), (151, u "([BI)C"), (5, u "(C)Z"), (21, u "(II)V"), (35, u "(I)C"), (64, .methodref 10 493), (0, .nameAndType 494 142), (0, u "isLatin1"), (0, .methodref 107 496), (0, .nameAndType 497 363), (0, u "charAt"), (3, u "checkIndex"), (39, .methodref 107 542), (0, .nameAndType 543 544), (0, u "equals"), (0, u "([B[B)Z"), (28, u "(Ljava/lang/Object;)Z"), (1, .class_ 576), (0, u "java/lang/CharSequence"), (22, u "CASE_INSENSITIVE_ORDER"), (0, u "Ljava/util/Comparator;"), (181, u "valueOf"), (0, u "(C)Ljava/lang/String;"), (226, u "([C)V"), (4, .methodref 107 1016), (0, .nameAndType 1017 369), (0, u "canEncode"), (0, .methodref 107 1019), (0, .nameAndType 53 1020), (0, u "(C)[B"), (32, .fieldref 1054 1055), (0, .class_ 1056), (0, .nameAndType 1057 1058), (0, u "jdk/internal/util/Preconditions"), (0, u "SIOOBE_FORMATTER"), (0, u "Ljava/util/function/BiFunction;"), (0, .methodref 1054 1060), (0, .nameAndType 501 1061), (0, u "(IILjava/util/function/BiFunction;)I"), (39, u "serialPersistentFields"), (0, u "[Ljava/io/ObjectStreamField;"), (0, .class_ 1104), (0, u "java/lang/String$CaseInsensitiveComparator"), (1, .class_ 1107), (0, u "java/io/Serializable"), (0, .class_ 1109), (0, u "java/lang/Comparable"), (0, .class_ 1111), (0, u "java/lang/constant/Constable"), (0, .class_ 1113), (0, u "java/lang/constant/ConstantDesc"), (2, u "serialVersionUID"), (0, u "J"), (3, u "REPL"), (0, u "C"), (2, u "LATIN1"), (1, u "UTF16")] 323

def k7m0 : Method := { name := "<init>", desc := "()V", sig := { parameters := [], returnType := none }, accessFlags := 1, code := none }
def k7c1 : Code := { maxStack := 5, maxLocals := 2, code := jdk_42_method_3_code, exceptionTable := #[], attributes := #[] }
def k7m1 : Method := { name := "<init>", desc := "([C)V", sig := { parameters := [(.array .char)], returnType := none }, accessFlags := 1, code := some k7c1 }
def k7c2 : Code := { maxStack := 2, maxLocals := 2, code := jdk_42_method_56_code, exceptionTable := #[], attributes := #[] }
def k7m2 : Method := { name := "charAt", desc := "(I)C", sig := { parameters := [.int], returnType := some .char }, accessFlags := 1, code := some k7c2 }
def k7c3 : Code := { maxStack := 2, maxLocals := 3, code := jdk_42_method_66_code, exceptionTable := #[], attributes := #[] }
def k7m3 : Method := { name := "equals", desc := "(Ljava/lang/Object;)Z", sig := { parameters := [(.object "java/lang/Object")], returnType := some .boolean }, accessFlags := 1, code := some k7c3 }
def k7c4 : Code := { maxStack := 4, maxLocals := 1, code := jdk_42_method_139_code, exceptionTable := #[], attributes := #[] }
def k7m4 : Method := { name := "valueOf", desc := "(C)Ljava/lang/String;", sig := { parameters := [.char], returnType := some (.object "java/lang/String") }, accessFlags := 9, code := some k7c4 }
def k7c5 : Code := { maxStack := 4, maxLocals := 6, code := jdk_42_method_149_code, exceptionTable := #[], attributes := #[] }
def k7m5 : Method := { name := "<init>", desc := "([CIILjava/lang/Void;)V", sig := { parameters := [(.array .char), .int, .int, (.object "java/lang/Void")], returnType := none }, accessFlags := 2, code := some k7c5 }
def k7c6 : Code := { maxStack := 2, maxLocals := 3, code := jdk_42_method_151_code, exceptionTable := #[], attributes := #[] }
def k7m6 : Method := { name := "<init>", desc := "([BB)V", sig := { parameters := [(.array .byte), .byte], returnType := none }, accessFlags := 0, code := some k7c6 }
def k7c7 : Code := { maxStack := 1, maxLocals := 1, code := jdk_42_method_154_code, exceptionTable := #[], attributes := #[] }
def k7m7 : Method := { name := "isLatin1", desc := "()Z", sig := { parameters := [], returnType := some .boolean }, accessFlags := 0, code := some k7c7 }
def k7c8 : Code := { maxStack := 3, maxLocals := 2, code := jdk_42_method_155_code, exceptionTable := #[], attributes := #[] }
def k7m8 : Method := { name := "checkIndex", desc := "(II)V", sig := { parameters := [.int, .int], returnType := none }, accessFlags := 8, code := some k7c8 }
/-- java/lang/String -/
def k7 : Class := { plain "java/lang/String" (some 0) with
  accessFlags := 49
  interfaces := #[2, 3, 4, 5, 6]
  cf := some (fileOf pool7 10 #[.nestMembers #[1103]] #[{ accessFlags := 1, nameIndex := 5, descriptorIndex := 6, attributes := #[] }, { accessFlags := 1, nameIndex := 5, descriptorIndex := 1010, attributes := #[] }, { accessFlags := 1, nameIndex := 497, descriptorIndex := 427, attributes := #[] }, { accessFlags := 1, nameIndex := 543, descriptorIndex := 573, attributes := #[] }, { accessFlags := 9, nameIndex := 782, descriptorIndex := 783, attributes := #[] }, { accessFlags := 2, nameIndex := 5, descriptorIndex := 29, attributes := #[] }, { accessFlags := 0, nameIndex := 5, descriptorIndex := 211, attributes := #[] }, { accessFlags := 0, nameIndex := 494, descriptorIndex := 142, attributes := #[] }, { accessFlags := 8, nameIndex := 501, descriptorIndex := 391, attributes := #[] }] 49 2 #[1106, 1108, 575, 1110, 1112] #[{ accessFlags := 18, nameIndex := 13, descriptorIndex := 14, attributes := #[] }, { accessFlags := 18, nameIndex := 17, descriptorIndex := 18, attributes := #[] }, { accessFlags := 2, nameIndex := 21, descriptorIndex := 22, attributes := #[] }, { accessFlags := 2, nameIndex := 25, descriptorIndex := 26, attributes := #[] }, { accessFlags := 26, nameIndex := 1116, descriptorIndex := 1117, attributes := #[] }, { accessFlags := 24, nameIndex := 40, descriptorIndex := 26, attributes := #[] }, { accessFlags := 26, nameIndex := 1101, descriptorIndex := 1102, attributes := #[] }, { accessFlags := 26, nameIndex := 1121, descriptorIndex := 1122, attributes := #[] }, { accessFlags := 25, nameIndex := 599, descriptorIndex := 600, attributes := #[] }, { accessFlags := 24, nameIndex := 1125, descriptorIndex := 18, attributes := #[] }, { accessFlags := 24, nameIndex := 1127, descriptorIndex := 18, attributes := #[] }])
  fields := #[{ name := "value", type := (.array .byte), accessFlags := 18, slot := 0, constantValue := 0 }, { name := "coder", type := .byte, accessFlags := 18, slot := 1, constantValue := 0 }, { name := "hash", type := .int, accessFlags := 2, slot := 2, constantValue := 0 }, { name := "hashIsZero", type := .boolean, accessFlags := 2, slot := 3, constantValue := 0 }, { name := "serialVersionUID", type := .long, accessFlags := 26, slot := 0, constantValue := 0 }, { name := "COMPACT_STRINGS", type := .boolean, accessFlags := 24, slot := 1, constantValue := 0 }, { name := "serialPersistentFields", type := (.array (.object "java/io/ObjectStreamField")), accessFlags := 26, slot := 2, constantValue := 0 }, { name := "REPL", type := .char, accessFlags := 26, slot := 3, constantValue := 0 }, { name := "CASE_INSENSITIVE_ORDER", type := (.object "java/util/Comparator"), accessFlags := 25, slot := 4, constantValue := 0 }, { name := "LATIN1", type := .byte, accessFlags := 24, slot := 5, constantValue := 0 }, { name := "UTF16", type := .byte, accessFlags := 24, slot := 6, constantValue := 0 }]
  methods := #[k7m0, k7m1, k7m2, k7m3, k7m4, k7m5, k7m6, k7m7, k7m8]
  instanceTypes := #[(.array .byte), .byte, .int, .boolean]
  staticTypes := #[.long, .boolean, (.array (.object "java/io/ObjectStreamField")), .char, (.object "java/util/Comparator"), .byte, .byte]
  resolved := Array.replicate 1451 none
  statics := some 0 }

def pool8 : Array CpInfo := pool [(1, .class_ 2), (0, u "java/lang/String"), (1, .class_ 6), (1, u "java/lang/Object"), (0, u "<init>"), (0, u "()V"), (0, .methodref 1 10), (0, .nameAndType 11 12), (0, u "checkIndex"), (0, u "(II)V"), (1, .class_ 16), (1, u "java/lang/StringLatin1"), (36, u "([BI)C"), (36, u "canEncode"), (14, u "(C)Z"), (15, u "$assertionsDisabled"), (0, u "Z"), (98, .class_ 223), (1, u "java/lang/StringLatin1$LinesSpliterator"), (28, u "charAt"), (28, u "equals"), (0, u "([B[B)Z"), (97, u "toBytes"), (1, u "(C)[B"), (7, .class_ 391), (0, u "java/lang/StringLatin1$CharsSpliterator")] 3

def k8m0 : Method := { name := "<init>", desc := "()V", sig := { parameters := [], returnType := none }, accessFlags := 0, code := none }
def k8c1 : Code := { maxStack := 2, maxLocals := 2, code := jdk_43_method_2_code, exceptionTable := #[], attributes := #[] }
def k8m1 : Method := { name := "charAt", desc := "([BI)C", sig := { parameters := [(.array .byte), .int], returnType := some .char }, accessFlags := 9, code := some k8c1 }
def k8c2 : Code := { maxStack := 2, maxLocals := 1, code := jdk_43_method_3_code, exceptionTable := #[], attributes := #[] }
def k8m2 : Method := { name := "canEncode", desc := "(C)Z", sig := { parameters := [.char], returnType := some .boolean }, accessFlags := 9, code := some k8c2 }
def k8c3 : Code := { maxStack := 3, maxLocals := 3, code := jdk_43_method_13_code, exceptionTable := #[], attributes := #[] }
def k8m3 : Method := { name := "equals", desc := "([B[B)Z", sig := { parameters := [(.array .byte), (.array .byte)], returnType := some .boolean }, accessFlags := 9, code := some k8c3 }
def k8c4 : Code := { maxStack := 4, maxLocals := 1, code := jdk_43_method_46_code, exceptionTable := #[], attributes := #[] }
def k8m4 : Method := { name := "toBytes", desc := "(C)[B", sig := { parameters := [.char], returnType := some (.array .byte) }, accessFlags := 9, code := some k8c4 }
/-- java/lang/StringLatin1 -/
def k8 : Class := { plain "java/lang/StringLatin1" (some 0) with
  accessFlags := 48
  interfaces := #[]
  cf := some (fileOf pool8 14 #[.nestMembers #[390, 221]] #[{ accessFlags := 0, nameIndex := 7, descriptorIndex := 8, attributes := #[] }, { accessFlags := 9, nameIndex := 252, descriptorIndex := 53, attributes := #[] }, { accessFlags := 9, nameIndex := 90, descriptorIndex := 105, attributes := #[] }, { accessFlags := 9, nameIndex := 281, descriptorIndex := 282, attributes := #[] }, { accessFlags := 9, nameIndex := 380, descriptorIndex := 382, attributes := #[] }] 48 4 #[] #[{ accessFlags := 4120, nameIndex := 121, descriptorIndex := 122, attributes := #[] }])
  fields := #[{ name := "$assertionsDisabled", type := .boolean, accessFlags := 4120, slot := 0, constantValue := 0 }]
  methods := #[k8m0, k8m1, k8m2, k8m3, k8m4]
  instanceTypes := #[]
  staticTypes := #[.boolean]
  resolved := Array.replicate 395 none
  statics := none }

def pool9 : Array CpInfo := pool [(2, .class_ 4), (1, u "java/lang/Object"), (0, u "<init>"), (0, u "()V"), (17, .class_ 26), (1, u "jdk/internal/util/Preconditions"), (6, u "checkIndex"), (21, .class_ 56), (0, u "jdk/internal/util/Preconditions$4"), (57, .class_ 115), (0, u "jdk/internal/util/Preconditions$1"), (7, u "SIOOBE_FORMATTER"), (0, u "Ljava/util/function/BiFunction;"), (0, .class_ 126), (0, u "jdk/internal/util/Preconditions$2"), (3, u "AIOOBE_FORMATTER"), (0, .class_ 132), (0, u "jdk/internal/util/Preconditions$3"), (3, u "IOOBE_FORMATTER"), (41, u "(IILjava/util/function/BiFunction;)I")] 15

def k9m0 : Method := { name := "<init>", desc := "()V", sig := { parameters := [], returnType := none }, accessFlags := 1, code := none }
def k9c1 : Code := { maxStack := 3, maxLocals := 3, code := jdk_41_method_11_code, exceptionTable := #[], attributes := #[] }
def k9m1 : Method := { name := "checkIndex", desc := "(IILjava/util/function/BiFunction;)I", sig := { parameters := [.int, .int, (.object "java/util/function/BiFunction")], returnType := some .int }, accessFlags := 9, code := some k9c1 }
/-- jdk/internal/util/Preconditions -/
def k9 : Class := { plain "jdk/internal/util/Preconditions" (some 0) with
  accessFlags := 33
  interfaces := #[]
  cf := some (fileOf pool9 24 #[.nestMembers #[55, 131, 125, 114]] #[{ accessFlags := 1, nameIndex := 5, descriptorIndex := 6, attributes := #[] }, { accessFlags := 9, nameIndex := 33, descriptorIndex := 178, attributes := #[] }] 33 2 #[] #[{ accessFlags := 25, nameIndex := 123, descriptorIndex := 124, attributes := #[] }, { accessFlags := 25, nameIndex := 130, descriptorIndex := 124, attributes := #[] }, { accessFlags := 25, nameIndex := 136, descriptorIndex := 124, attributes := #[] }])
  fields := #[{ name := "SIOOBE_FORMATTER", type := (.object "java/util/function/BiFunction"), accessFlags := 25, slot := 0, constantValue := 0 }, { name := "AIOOBE_FORMATTER", type := (.object "java/util/function/BiFunction"), accessFlags := 25, slot := 1, constantValue := 0 }, { name := "IOOBE_FORMATTER", type := (.object "java/util/function/BiFunction"), accessFlags := 25, slot := 2, constantValue := 0 }]
  methods := #[k9m0, k9m1]
  instanceTypes := #[]
  staticTypes := #[(.object "java/util/function/BiFunction"), (.object "java/util/function/BiFunction"), (.object "java/util/function/BiFunction")]
  resolved := Array.replicate 194 none
  statics := some 1 }

def pool10 : Array CpInfo := pool [(2, .class_ 4), (1, u "java/lang/Enum"), (0, u "name"), (0, u "Ljava/lang/String;"), (2, u "ordinal"), (0, u "I"), (1, .class_ 14), (1, u "java/lang/Object"), (4, u "hash"), (86, .class_ 108), (1, u "java/lang/Enum$EnumDesc"), (2, .class_ 112), (0, u "java/lang/constant/Constable"), (0, .class_ 114), (0, u "java/lang/Comparable"), (0, .class_ 116), (0, u "java/io/Serializable")] 87

/-- java/lang/Enum -/
def k10 : Class := { plain "java/lang/Enum" (some 0) with
  accessFlags := 1057
  interfaces := #[5, 3, 2]
  cf := some (fileOf pool10 2 #[.nestMembers #[106]] #[] 1057 12 #[111, 113, 115] #[{ accessFlags := 18, nameIndex := 5, descriptorIndex := 6, attributes := #[] }, { accessFlags := 18, nameIndex := 9, descriptorIndex := 10, attributes := #[] }, { accessFlags := 2, nameIndex := 19, descriptorIndex := 10, attributes := #[] }])
  fields := #[{ name := "name", type := (.object "java/lang/String"), accessFlags := 18, slot := 0, constantValue := 0 }, { name := "ordinal", type := .int, accessFlags := 18, slot := 1, constantValue := 0 }, { name := "hash", type := .int, accessFlags := 2, slot := 2, constantValue := 0 }]
  methods := #[]
  instanceTypes := #[(.object "java/lang/String"), .int, .int]
  staticTypes := #[]
  resolved := Array.replicate 204 none
  statics := none }

def pool11 : Array CpInfo := pool [(1, .class_ 2), (0, u "com/example/tenantd/tenantd/Permission"), (2, u "ALLOW"), (0, u "Lcom/example/tenantd/tenantd/Permission;"), (2, u "DENY"), (0, .fieldref 1 11), (0, .nameAndType 12 13), (0, u "$VALUES"), (0, u "[Lcom/example/tenantd/tenantd/Permission;"), (0, .methodref 15 16), (0, .class_ 13), (0, .nameAndType 17 18), (0, u "clone"), (0, u "()Ljava/lang/Object;"), (1, .class_ 22), (1, u "java/lang/Enum"), (6, .fieldref 1 30), (0, .nameAndType 31 32), (0, u "text"), (0, u "Ljava/lang/String;"), (0, .methodref 1 34), (0, .nameAndType 35 36), (0, u "values"), (0, u "()[Lcom/example/tenantd/tenantd/Permission;"), (0, .methodref 38 39), (0, .class_ 40), (0, .nameAndType 41 42), (0, u "java/lang/String"), (0, u "equals"), (0, u "(Ljava/lang/Object;)Z"), (0, .methodref 44 45), (0, .class_ 46), (0, .nameAndType 47 48), (0, u "java/util/Optional"), (0, u "of"), (0, u "(Ljava/lang/Object;)Ljava/util/Optional;"), (0, .methodref 44 50), (0, .nameAndType 51 52), (0, u "empty"), (0, u "()Ljava/util/Optional;"), (19, u "ofText"), (0, u "(Ljava/lang/String;)Ljava/util/Optional;")] 7

def k11c0 : Code := { maxStack := 1, maxLocals := 0, code := prog_10_method_1_code, exceptionTable := #[], attributes := #[] }
def k11m0 : Method := { name := "values", desc := "()[Lcom/example/tenantd/tenantd/Permission;", sig := { parameters := [], returnType := some (.array (.object "com/example/tenantd/tenantd/Permission")) }, accessFlags := 9, code := some k11c0 }
def k11c1 : Code := { maxStack := 2, maxLocals := 5, code := prog_10_method_5_code, exceptionTable := #[], attributes := #[] }
def k11m1 : Method := { name := "ofText", desc := "(Ljava/lang/String;)Ljava/util/Optional;", sig := { parameters := [(.object "java/lang/String")], returnType := some (.object "java/util/Optional") }, accessFlags := 8, code := some k11c1 }
/-- com/example/tenantd/tenantd/Permission -/
def k11 : Class := { plain "com/example/tenantd/tenantd/Permission" (some 10) with
  accessFlags := 16432
  interfaces := #[]
  cf := some (fileOf pool11 1 #[] #[{ accessFlags := 9, nameIndex := 35, descriptorIndex := 36, attributes := #[] }, { accessFlags := 8, nameIndex := 72, descriptorIndex := 73, attributes := #[] }] 16432 20 #[] #[{ accessFlags := 16409, nameIndex := 5, descriptorIndex := 6, attributes := #[] }, { accessFlags := 16409, nameIndex := 9, descriptorIndex := 6, attributes := #[] }, { accessFlags := 18, nameIndex := 31, descriptorIndex := 32, attributes := #[] }, { accessFlags := 4122, nameIndex := 12, descriptorIndex := 13, attributes := #[] }])
  fields := #[{ name := "ALLOW", type := (.object "com/example/tenantd/tenantd/Permission"), accessFlags := 16409, slot := 0, constantValue := 0 }, { name := "DENY", type := (.object "com/example/tenantd/tenantd/Permission"), accessFlags := 16409, slot := 1, constantValue := 0 }, { name := "text", type := (.object "java/lang/String"), accessFlags := 18, slot := 3, constantValue := 0 }, { name := "$VALUES", type := (.array (.object "com/example/tenantd/tenantd/Permission")), accessFlags := 4122, slot := 2, constantValue := 0 }]
  methods := #[k11m0, k11m1]
  instanceTypes := #[(.object "java/lang/String"), .int, .int, (.object "java/lang/String")]
  staticTypes := #[(.object "com/example/tenantd/tenantd/Permission"), (.object "com/example/tenantd/tenantd/Permission"), (.array (.object "com/example/tenantd/tenantd/Permission"))]
  resolved := Array.replicate 81 none
  statics := some 2 }

def pool12 : Array CpInfo := pool [(1, .class_ 2), (0, u "java/lang/Cloneable"), (0, .class_ 4), (0, u "java/lang/Object")] 2

/-- java/lang/Cloneable -/
def k12 : Class := { plain "java/lang/Cloneable" (some 0) with
  accessFlags := 1537
  interfaces := #[]
  cf := some (fileOf pool12 1 #[] #[] 1537 3 #[] #[])
  fields := #[]
  methods := #[]
  instanceTypes := #[]
  staticTypes := #[]
  resolved := Array.replicate 7 none
  statics := none }

def pool13 : Array CpInfo := pool [(1, .fieldref 2 3), (0, .class_ 4), (0, .nameAndType 5 6), (0, u "java/util/Optional"), (0, u "EMPTY"), (0, u "Ljava/util/Optional;"), (0, .methodref 8 9), (0, .class_ 10), (0, .nameAndType 11 12), (0, u "java/lang/Object"), (0, u "<init>"), (0, u "()V"), (0, .fieldref 2 14), (0, .nameAndType 15 16), (0, u "value"), (0, u "Ljava/lang/Object;"), (0, .methodref 18 19), (0, .class_ 20), (0, .nameAndType 21 22), (0, u "java/util/Objects"), (0, u "requireNonNull"), (0, u "(Ljava/lang/Object;)Ljava/lang/Object;"), (0, .methodref 2 24), (0, .nameAndType 11 25), (0, u "(Ljava/lang/Object;)V"), (29, u "empty"), (0, u "()Ljava/util/Optional;"), (8, u "(Ljava/lang/Object;)Ljava/util/Optional;"), (16, u "of"), (82, u "orElse")] 21

def k13c0 : Code := { maxStack := 1, maxLocals := 1, code := jdk_32_method_1_code, exceptionTable := #[], attributes := #[] }
def k13m0 : Method := { name := "empty", desc := "()Ljava/util/Optional;", sig := { parameters := [], returnType := some (.object "java/util/Optional") }, accessFlags := 9, code := some k13c0 }
def k13c1 : Code := { maxStack := 2, maxLocals := 2, code := jdk_32_method_2_code, exceptionTable := #[], attributes := #[] }
def k13m1 : Method := { name := "<init>", desc := "(Ljava/lang/Object;)V", sig := { parameters := [(.object "java/lang/Object")], returnType := none }, accessFlags := 2, code := some k13c1 }
def k13c2 : Code := { maxStack := 3, maxLocals := 1, code := jdk_32_method_3_code, exceptionTable := #[], attributes := #[] }
def k13m2 : Method := { name := "of", desc := "(Ljava/lang/Object;)Ljava/util/Optional;", sig := { parameters := [(.object "java/lang/Object")], returnType := some (.object "java/util/Optional") }, accessFlags := 9, code := some k13c2 }
def k13c3 : Code := { maxStack := 1, maxLocals := 2, code := jdk_32_method_15_code, exceptionTable := #[], attributes := #[] }
def k13m3 : Method := { name := "orElse", desc := "(Ljava/lang/Object;)Ljava/lang/Object;", sig := { parameters := [(.object "java/lang/Object")], returnType := some (.object "java/lang/Object") }, accessFlags := 1, code := some k13c3 }
/-- java/util/Optional -/
def k13 : Class := { plain "java/util/Optional" (some 0) with
  accessFlags := 49
  interfaces := #[]
  cf := some (fileOf pool13 2 #[] #[{ accessFlags := 9, nameIndex := 55, descriptorIndex := 56, attributes := #[] }, { accessFlags := 2, nameIndex := 11, descriptorIndex := 25, attributes := #[] }, { accessFlags := 9, nameIndex := 82, descriptorIndex := 65, attributes := #[] }, { accessFlags := 1, nameIndex := 165, descriptorIndex := 22, attributes := #[] }] 49 8 #[] #[{ accessFlags := 26, nameIndex := 5, descriptorIndex := 6, attributes := #[] }, { accessFlags := 18, nameIndex := 15, descriptorIndex := 16, attributes := #[] }])
  fields := #[{ name := "EMPTY", type := (.object "java/util/Optional"), accessFlags := 26, slot := 0, constantValue := 0 }, { name := "value", type := (.object "java/lang/Object"), accessFlags := 18, slot := 0, constantValue := 0 }]
  methods := #[k13m0, k13m1, k13m2, k13m3]
  instanceTypes := #[(.object "java/lang/Object")]
  staticTypes := #[(.object "java/util/Optional")]
  resolved := Array.replicate 187 none
  statics := some 3 }

def pool14 : Array CpInfo := pool [(6, .class_ 8), (1, u "java/lang/Object"), (0, u "<init>"), (0, u "()V"), (1, .class_ 14), (1, u "java/lang/StringUTF16"), (31, u "$assertionsDisabled"), (0, u "Z"), (13, u "HI_BYTE_SHIFT"), (0, u "I"), (2, u "LO_BYTE_SHIFT"), (49, .methodref 12 116), (0, .nameAndType 117 118), (0, u "compress"), (0, u "([CI[BII)I"), (3, u "([CII)[B"), (138, u "coderFromArrayLen"), (0, u "([BI)B"), (106, .class_ 371), (1, u "java/lang/StringUTF16$LinesSpliterator"), (58, u "MAX_LENGTH"), (196, .class_ 628), (0, u "java/lang/StringUTF16$CodePointsSpliterator"), (0, .class_ 630), (0, u "java/lang/StringUTF16$CharsSpliterator")] 4

def k14m0 : Method := { name := "<init>", desc := "()V", sig := { parameters := [], returnType := none }, accessFlags := 0, code := none }
def k14c1 : Code := { maxStack := 2, maxLocals := 2, code := jdk_52_method_15_code, exceptionTable := #[], attributes := #[] }
def k14m1 : Method := { name := "coderFromArrayLen", desc := "([BI)B", sig := { parameters := [(.array .byte), .int], returnType := some .byte }, accessFlags := 8, code := some k14c1 }
def k14c2 : Code := { maxStack := 5, maxLocals := 6, code := jdk_52_method_16_code, exceptionTable := #[], attributes := #[] }
def k14m2 : Method := { name := "compress", desc := "([CII)[B", sig := { parameters := [(.array .char), .int, .int], returnType := some (.array .byte) }, accessFlags := 9, code := some k14c2 }
def k14c3 : Code := { maxStack := 3, maxLocals := 7, code := jdk_52_method_21_code, exceptionTable := #[], attributes := #[] }
def k14m3 : Method := { name := "compress", desc := "([CI[BII)I", sig := { parameters := [(.array .char), .int, (.array .byte), .int, .int], returnType := some .int }, accessFlags := 9, code := some k14c3 }
/-- java/lang/StringUTF16 -/
def k14 : Class := { plain "java/lang/StringUTF16" (some 0) with
  accessFlags := 48
  interfaces := #[]
  cf := some (fileOf pool14 12 #[.nestMembers #[627, 629, 369]] #[{ accessFlags := 0, nameIndex := 9, descriptorIndex := 10, attributes := #[] }, { accessFlags := 8, nameIndex := 261, descriptorIndex := 262, attributes := #[] }, { accessFlags := 9, nameIndex := 117, descriptorIndex := 122, attributes := #[] }, { accessFlags := 9, nameIndex := 117, descriptorIndex := 118, attributes := #[] }] 48 6 #[] #[{ accessFlags := 26, nameIndex := 61, descriptorIndex := 62, attributes := #[] }, { accessFlags := 26, nameIndex := 65, descriptorIndex := 62, attributes := #[] }, { accessFlags := 24, nameIndex := 430, descriptorIndex := 62, attributes := #[] }, { accessFlags := 4120, nameIndex := 46, descriptorIndex := 47, attributes := #[] }])
  fields := #[{ name := "HI_BYTE_SHIFT", type := .int, accessFlags := 26, slot := 0, constantValue := 0 }, { name := "LO_BYTE_SHIFT", type := .int, accessFlags := 26, slot := 1, constantValue := 0 }, { name := "MAX_LENGTH", type := .int, accessFlags := 24, slot := 2, constantValue := 0 }, { name := "$assertionsDisabled", type := .boolean, accessFlags := 4120, slot := 3, constantValue := 0 }]
  methods := #[k14m0, k14m1, k14m2, k14m3]
  instanceTypes := #[]
  staticTypes := #[.int, .int, .int, .boolean]
  resolved := Array.replicate 635 none
  statics := none }

def pool15 : Array CpInfo := pool [(2, .class_ 4), (1, u "java/lang/Object"), (0, u "<init>"), (0, u "()V"), (35, .class_ 44), (1, u "java/util/Objects"), (0, u "requireNonNull"), (0, u "(Ljava/lang/Object;)Ljava/lang/Object;")] 137

def k15m0 : Method := { name := "<init>", desc := "()V", sig := { parameters := [], returnType := none }, accessFlags := 2, code := none }
def k15c1 : Code := { maxStack := 2, maxLocals := 1, code := jdk_31_method_10_code, exceptionTable := #[], attributes := #[] }
def k15m1 : Method := { name := "requireNonNull", desc := "(Ljava/lang/Object;)Ljava/lang/Object;", sig := { parameters := [(.object "java/lang/Object")], returnType := some (.object "java/lang/Object") }, accessFlags := 9, code := some k15c1 }
/-- java/util/Objects -/
def k15 : Class := { plain "java/util/Objects" (some 0) with
  accessFlags := 49
  interfaces := #[]
  cf := some (fileOf pool15 42 #[] #[{ accessFlags := 2, nameIndex := 5, descriptorIndex := 6, attributes := #[] }, { accessFlags := 9, nameIndex := 45, descriptorIndex := 46, attributes := #[] }] 49 2 #[] #[])
  fields := #[]
  methods := #[k15m0, k15m1]
  instanceTypes := #[]
  staticTypes := #[]
  resolved := Array.replicate 184 none
  statics := none }

def pool16 : Array CpInfo := pool [(9, u "<init>"), (6, .class_ 18), (1, u "java/lang/Object"), (0, u "()V"), (1, .class_ 23), (1, u "jdk/internal/util/ArraysSupport"), (0, u "LOG2_ARRAY_LONG_INDEX_SCALE"), (0, u "I"), (2, u "U"), (0, u "Ljdk/internal/misc/Unsafe;"), (8, u "BIG_ENDIAN"), (0, u "Z"), (8, u "LOG2_BYTE_BIT_SIZE"), (4, u "LOG2_ARRAY_INT_INDEX_SCALE"), (54, u "JLA"), (0, u "Ljdk/internal/access/JavaLangAccess;"), (11, u "LOG2_ARRAY_BOOLEAN_INDEX_SCALE"), (9, u "LOG2_ARRAY_BYTE_INDEX_SCALE"), (5, u "LOG2_ARRAY_CHAR_INDEX_SCALE"), (5, u "LOG2_ARRAY_SHORT_INDEX_SCALE"), (18, u "LOG2_ARRAY_FLOAT_INDEX_SCALE"), (24, u "LOG2_ARRAY_DOUBLE_INDEX_SCALE"), (89, u "T_BOOLEAN"), (2, u "T_CHAR"), (1, u "T_FLOAT"), (1, u "T_DOUBLE"), (1, u "T_BYTE"), (1, u "T_SHORT"), (1, u "T_INT"), (1, u "T_LONG"), (1, u "SOFT_MAX_ARRAY_LENGTH")] 83

def k16m0 : Method := { name := "<init>", desc := "()V", sig := { parameters := [], returnType := none }, accessFlags := 2, code := none }
/-- jdk/internal/util/ArraysSupport -/
def k16 : Class := { plain "jdk/internal/util/ArraysSupport" (some 0) with
  accessFlags := 33
  interfaces := #[]
  cf := some (fileOf pool16 21 #[] #[{ accessFlags := 2, nameIndex := 9, descriptorIndex := 19, attributes := #[] }] 33 16 #[] #[{ accessFlags := 24, nameIndex := 28, descriptorIndex := 29, attributes := #[] }, { accessFlags := 26, nameIndex := 38, descriptorIndex := 39, attributes := #[] }, { accessFlags := 25, nameIndex := 121, descriptorIndex := 25, attributes := #[] }, { accessFlags := 25, nameIndex := 131, descriptorIndex := 25, attributes := #[] }, { accessFlags := 25, nameIndex := 137, descriptorIndex := 25, attributes := #[] }, { accessFlags := 25, nameIndex := 143, descriptorIndex := 25, attributes := #[] }, { accessFlags := 25, nameIndex := 53, descriptorIndex := 25, attributes := #[] }, { accessFlags := 25, nameIndex := 24, descriptorIndex := 25, attributes := #[] }, { accessFlags := 25, nameIndex := 162, descriptorIndex := 25, attributes := #[] }, { accessFlags := 25, nameIndex := 187, descriptorIndex := 25, attributes := #[] }, { accessFlags := 26, nameIndex := 48, descriptorIndex := 25, attributes := #[] }, { accessFlags := 25, nameIndex := 277, descriptorIndex := 25, attributes := #[] }, { accessFlags := 25, nameIndex := 280, descriptorIndex := 25, attributes := #[] }, { accessFlags := 25, nameIndex := 282, descriptorIndex := 25, attributes := #[] }, { accessFlags := 25, nameIndex := 284, descriptorIndex := 25, attributes := #[] }, { accessFlags := 25, nameIndex := 286, descriptorIndex := 25, attributes := #[] }, { accessFlags := 25, nameIndex := 288, descriptorIndex := 25, attributes := #[] }, { accessFlags := 25, nameIndex := 290, descriptorIndex := 25, attributes := #[] }, { accessFlags := 25, nameIndex := 292, descriptorIndex := 25, attributes := #[] }, { accessFlags := 26, nameIndex := 108, descriptorIndex := 109, attributes := #[] }, { accessFlags := 25, nameIndex := 294, descriptorIndex := 25, attributes := #[] }])
  fields := #[{ name := "U", type := (.object "jdk/internal/misc/Unsafe"), accessFlags := 24, slot := 0, constantValue := 0 }, { name := "BIG_ENDIAN", type := .boolean, accessFlags := 26, slot := 1, constantValue := 0 }, { name := "LOG2_ARRAY_BOOLEAN_INDEX_SCALE", type := .int, accessFlags := 25, slot := 2, constantValue := 0 }, { name := "LOG2_ARRAY_BYTE_INDEX_SCALE", type := .int, accessFlags := 25, slot := 3, constantValue := 0 }, { name := "LOG2_ARRAY_CHAR_INDEX_SCALE", type := .int, accessFlags := 25, slot := 4, constantValue := 0 }, { name := "LOG2_ARRAY_SHORT_INDEX_SCALE", type := .int, accessFlags := 25, slot := 5, constantValue := 0 }, { name := "LOG2_ARRAY_INT_INDEX_SCALE", type := .int, accessFlags := 25, slot := 6, constantValue := 0 }, { name := "LOG2_ARRAY_LONG_INDEX_SCALE", type := .int, accessFlags := 25, slot := 7, constantValue := 0 }, { name := "LOG2_ARRAY_FLOAT_INDEX_SCALE", type := .int, accessFlags := 25, slot := 8, constantValue := 0 }, { name := "LOG2_ARRAY_DOUBLE_INDEX_SCALE", type := .int, accessFlags := 25, slot := 9, constantValue := 0 }, { name := "LOG2_BYTE_BIT_SIZE", type := .int, accessFlags := 26, slot := 10, constantValue := 0 }, { name := "T_BOOLEAN", type := .int, accessFlags := 25, slot := 11, constantValue := 0 }, { name := "T_CHAR", type := .int, accessFlags := 25, slot := 12, constantValue := 0 }, { name := "T_FLOAT", type := .int, accessFlags := 25, slot := 13, constantValue := 0 }, { name := "T_DOUBLE", type := .int, accessFlags := 25, slot := 14, constantValue := 0 }, { name := "T_BYTE", type := .int, accessFlags := 25, slot := 15, constantValue := 0 }, { name := "T_SHORT", type := .int, accessFlags := 25, slot := 16, constantValue := 0 }, { name := "T_INT", type := .int, accessFlags := 25, slot := 17, constantValue := 0 }, { name := "T_LONG", type := .int, accessFlags := 25, slot := 18, constantValue := 0 }, { name := "JLA", type := (.object "jdk/internal/access/JavaLangAccess"), accessFlags := 26, slot := 19, constantValue := 0 }, { name := "SOFT_MAX_ARRAY_LENGTH", type := .int, accessFlags := 25, slot := 20, constantValue := 0 }]
  methods := #[k16m0]
  instanceTypes := #[]
  staticTypes := #[(.object "jdk/internal/misc/Unsafe"), .boolean, .int, .int, .int, .int, .int, .int, .int, .int, .int, .int, .int, .int, .int, .int, .int, .int, .int, (.object "jdk/internal/access/JavaLangAccess"), .int]
  resolved := Array.replicate 378 none
  statics := none }

/-- the primitive byte -/
def k17 : Class := { plain "byte" none with kind := .primitive 'B', accessFlags := 0x411 }
/-- [B -/
def k18 : Class := { plain "[B" (some 0) with kind := .array 17 .byte, interfaces := #[12, 2], accessFlags := 1041 }

/-- the primitive char -/
def k19 : Class := { plain "char" none with kind := .primitive 'C', accessFlags := 0x411 }
/-- [C -/
def k20 : Class := { plain "[C" (some 0) with kind := .array 19 .char, interfaces := #[12, 2], accessFlags := 1041 }

/-- the primitive int -/
def k21 : Class := { plain "int" none with kind := .primitive 'I', accessFlags := 0x411 }
/-- [I -/
def k22 : Class := { plain "[I" (some 0) with kind := .array 21 .int, interfaces := #[12, 2], accessFlags := 1041 }

/-- [Lcom/example/tenantd/tenantd/Permission; -/
def k23 : Class := { plain "[Lcom/example/tenantd/tenantd/Permission;" (some 0) with kind := .array 11 (.object "com/example/tenantd/tenantd/Permission"), interfaces := #[12, 2], accessFlags := 1041 }

def heap : Heap := #[{ cls := 7, slots := #[.long 0, .int 1, .null, .int 0, .null, .int 0, .int 0], vm := .statics 7 },
  { cls := 9, slots := #[.null, .null, .null], vm := .statics 9 },
  { cls := 11, slots := #[.ref 5, .ref 6, .ref 4], vm := .statics 11 },
  { cls := 13, slots := #[.ref 11], vm := .statics 13 },
  { cls := 23, slots := #[.ref 5, .ref 6], vm := .none },
  { cls := 11, slots := #[.null, .int 0, .int 0, .ref 7], vm := .none },
  { cls := 11, slots := #[.null, .int 1, .int 0, .ref 8], vm := .none },
  { cls := 7, slots := #[.ref 9, .int 0, .int 0, .int 0], vm := .none },
  { cls := 7, slots := #[.ref 10, .int 0, .int 0, .int 0], vm := .none },
  { cls := 18, slots := #[.int 97, .int 108, .int 108, .int 111, .int 119], vm := .none },
  { cls := 18, slots := #[.int 100, .int 101, .int 110, .int 121], vm := .none },
  { cls := 13, slots := #[.null], vm := .none }]
def classes : Array Class := #[k0, k1, k2, k3, k4, k5, k6, k7, k8, k9, k10, k11, k12, k13, k14, k15, k16, k17, k18, k19, k20, k21, k22, k23]
def interned : List (Array UInt16 × Addr) := []
def slotsUsed : Nat := 42
def theMethod : MethodId := ⟨1, 3⟩
def args0 : Array Value := #[.int 5, .long 7]
def aboutOver (below : List Frame) : State where
  vm := { classes := classes, interned := interned.toArray }
  heap := heap
  slotsUsed := slotsUsed
  threads := #[{ frames := .invoking theMethod args0 :: below }]
def below0 : List Frame := [.native { method := ⟨0, 0⟩, args := #[] }]
def about1 : State := aboutOver below0
def p0 : Program := .bare "" "" ""
def e0 : Env := launch0.env 0 0 0
theorem w_frames : about1.frames = Frame.invoking theMethod args0 :: below0 := rfl
set_option maxRecDepth 65536 in
theorem w_args : argsFit about1.vm theMethod args0 = true := by decide +kernel
set_option maxRecDepth 65536 in
theorem w_heap : heapFits about1 = true := by decide +kernel
set_option maxRecDepth 65536 in
theorem w_runnable : about1.curStatus? = some .runnable := by decide +kernel
set_option maxRecDepth 65536 in
theorem w_alone : about1.alone = true := by decide +kernel
set_option maxRecDepth 65536 in
theorem w_named : about1.methodNamed? x = some theMethod := by decide +kernel
set_option maxRecDepth 65536 in
theorem w_hears : about1.hears theMethod below0 = true := by decide +kernel
set_option maxRecDepth 65536 in
theorem w_ripe : about1.ripe theMethod args0 below0 = true := by decide +kernel
theorem w_running : about1.status = .running := rfl
set_option maxRecDepth 65536 in
theorem w_room : about1.hasRoom e0.platform room_1 = true :=
  launch0.hasRoom_least _ room_1 (by decide +kernel) (by decide +kernel) (by decide +kernel) (by decide +kernel) (by decide +kernel) (by decide +kernel)
theorem allAtoms_all (ts : List Jvm.Cond) (a : Array Jvm.Value) (st : Jvm.State) : (allAtoms ts).before a st = ts.all (fun c => c.before a st) := by
  induction ts with
  | nil => rfl
  | cons c t ih =>
    show (Jvm.Cond.and c (allAtoms t)).before a st = _
    rw [Jvm.Cond.before_and, ih, List.all_cons]
def words1 : List Jvm.Cond := Jvm.Cond.code x code maxLocals ret :: tables_1
/-- a 'code' word, met by the world's own term for the bytes: nothing is compared byte by byte -/
theorem code_word {y : MethodName} {bytes : ByteArray} {mx : Nat} {rt : Option FieldType} {a : Array Value} {s : State} {m : MethodId} {meth : Method} {c : Code} (h1 : s.methodNamed? y = some m) (h2 : s.vm.method? m = some meth) (h3 : meth.code = some c) (h4 : c.code = bytes)
    (h5 : (c.maxLocals == mx && c.exceptionTable.isEmpty && decide (c.maxStack ≤ mostOperands) && decide (meth.sig.returnType = rt) && !meth.locks && decide (parseMethodDescriptor y.desc = some meth.sig)) = true) : (Jvm.Cond.code y bytes mx rt).before a s = true := by
  simp only [Bool.and_eq_true, beq_iff_eq, Bool.not_eq_true', decide_eq_true_eq] at h5
  obtain ⟨⟨⟨⟨⟨g1, g2⟩, g3⟩, g4⟩, g5⟩, g6⟩ := h5
  simp [Cond.before, Cond.holds, Cond.value, h1, h2, h3, h4, g1, g2, g3, g4, g5, g6]
def isCode : Jvm.Cond → Bool
  | .code _ _ _ _ => true
  | _ => false
theorem all_split {L : List Jvm.Cond} {P : Jvm.Cond → Bool} (h1 : L.all (fun c => isCode c || P c) = true) (h2 : ∀ c ∈ L.filter isCode, P c = true) : L.all P = true := by
  refine List.all_eq_true.mpr fun c hc => ?_
  have h := List.all_eq_true.mp h1 c hc
  rcases Bool.eq_false_or_eq_true (isCode c) with hi | hi
  · exact h2 c (List.mem_filter.mpr ⟨hc, hi⟩)
  · simpa [hi] using h
set_option maxRecDepth 65536 in
theorem w_c0 : (Jvm.Cond.code x code maxLocals ret).before args0 about1 = true := code_word (m := ⟨1, 3⟩) (meth := k1m3) (c := k1c3) (by decide +kernel) rfl rfl rfl (by decide +kernel)
set_option maxRecDepth 65536 in
theorem w_c1 : (Jvm.Cond.code ({ cls := "com/example/tenantd/tenantd/PermissionOfTextPinLaw", name := "ch", desc := "(IIIJ)C" } : Jvm.MethodName) method_2_code (6 : Nat) (Option.some Jvm.ClassFile.FieldType.char)).before args0 about1 = true := code_word (m := ⟨1, 1⟩) (meth := k1m1) (c := k1c1) (by decide +kernel) rfl rfl rfl (by decide +kernel)
set_option maxRecDepth 65536 in
theorem w_c2 : (Jvm.Cond.code ({ cls := "java/lang/String", name := "charAt", desc := "(I)C" } : Jvm.MethodName) jdk_42_method_56_code (2 : Nat) (Option.some Jvm.ClassFile.FieldType.char)).before args0 about1 = true := code_word (m := ⟨7, 2⟩) (meth := k7m2) (c := k7c2) (by decide +kernel) rfl rfl rfl (by decide +kernel)
set_option maxRecDepth 65536 in
theorem w_c3 : (Jvm.Cond.code ({ cls := "java/lang/String", name := "isLatin1", desc := "()Z" } : Jvm.MethodName) jdk_42_method_154_code (1 : Nat) (Option.some Jvm.ClassFile.FieldType.boolean)).before args0 about1 = true := code_word (m := ⟨7, 7⟩) (meth := k7m7) (c := k7c7) (by decide +kernel) rfl rfl rfl (by decide +kernel)
set_option maxRecDepth 65536 in
theorem w_c4 : (Jvm.Cond.code ({ cls := "java/lang/StringLatin1", name := "charAt", desc := "([BI)C" } : Jvm.MethodName) jdk_43_method_2_code (2 : Nat) (Option.some Jvm.ClassFile.FieldType.char)).before args0 about1 = true := code_word (m := ⟨8, 1⟩) (meth := k8m1) (c := k8c1) (by decide +kernel) rfl rfl rfl (by decide +kernel)
set_option maxRecDepth 65536 in
theorem w_c5 : (Jvm.Cond.code ({ cls := "java/lang/String", name := "checkIndex", desc := "(II)V" } : Jvm.MethodName) jdk_42_method_155_code (2 : Nat) (Option.none : Option Jvm.ClassFile.FieldType)).before args0 about1 = true := code_word (m := ⟨7, 8⟩) (meth := k7m8) (c := k7c8) (by decide +kernel) rfl rfl rfl (by decide +kernel)
set_option maxRecDepth 65536 in
theorem w_c6 : (Jvm.Cond.code ({ cls := "jdk/internal/util/Preconditions", name := "checkIndex", desc := "(IILjava/util/function/BiFunction;)I" } : Jvm.MethodName) jdk_41_method_11_code (3 : Nat) (Option.some Jvm.ClassFile.FieldType.int)).before args0 about1 = true := code_word (m := ⟨9, 1⟩) (meth := k9m1) (c := k9c1) (by decide +kernel) rfl rfl rfl (by decide +kernel)
set_option maxRecDepth 65536 in
theorem w_c7 : (Jvm.Cond.code ({ cls := "com/example/tenantd/tenantd/PermissionOfTextPinLaw", name := "mk", desc := "(ICCCCCCC)Ljava/lang/String;" } : Jvm.MethodName) method_3_code (8 : Nat) (Option.some (Jvm.ClassFile.FieldType.object "java/lang/String"))).before args0 about1 = true := code_word (m := ⟨1, 2⟩) (meth := k1m2) (c := k1c2) (by decide +kernel) rfl rfl rfl (by decide +kernel)
set_option maxRecDepth 65536 in
theorem w_c8 : (Jvm.Cond.code ({ cls := "java/lang/String", name := "<init>", desc := "([C)V" } : Jvm.MethodName) jdk_42_method_3_code (2 : Nat) (Option.none : Option Jvm.ClassFile.FieldType)).before args0 about1 = true := code_word (m := ⟨7, 1⟩) (meth := k7m1) (c := k7c1) (by decide +kernel) rfl rfl rfl (by decide +kernel)
set_option maxRecDepth 65536 in
theorem w_c9 : (Jvm.Cond.code ({ cls := "java/lang/String", name := "<init>", desc := "([CIILjava/lang/Void;)V" } : Jvm.MethodName) jdk_42_method_149_code (6 : Nat) (Option.none : Option Jvm.ClassFile.FieldType)).before args0 about1 = true := code_word (m := ⟨7, 5⟩) (meth := k7m5) (c := k7c5) (by decide +kernel) rfl rfl rfl (by decide +kernel)
set_option maxRecDepth 65536 in
theorem w_c10 : (Jvm.Cond.code ({ cls := "java/lang/Object", name := "<init>", desc := "()V" } : Jvm.MethodName) object_method_1_code (1 : Nat) (Option.none : Option Jvm.ClassFile.FieldType)).before args0 about1 = true := code_word (m := ⟨0, 0⟩) (meth := k0m0) (c := k0c0) (by decide +kernel) rfl rfl rfl (by decide +kernel)
set_option maxRecDepth 65536 in
theorem w_c11 : (Jvm.Cond.code ({ cls := "com/example/tenantd/tenantd/Permission", name := "ofText", desc := "(Ljava/lang/String;)Ljava/util/Optional;" } : Jvm.MethodName) prog_10_method_5_code (5 : Nat) (Option.some (Jvm.ClassFile.FieldType.object "java/util/Optional"))).before args0 about1 = true := code_word (m := ⟨11, 1⟩) (meth := k11m1) (c := k11c1) (by decide +kernel) rfl rfl rfl (by decide +kernel)
set_option maxRecDepth 65536 in
theorem w_c12 : (Jvm.Cond.code ({ cls := "com/example/tenantd/tenantd/Permission", name := "values", desc := "()[Lcom/example/tenantd/tenantd/Permission;" } : Jvm.MethodName) prog_10_method_1_code (0 : Nat) (Option.some (Jvm.ClassFile.FieldType.array (Jvm.ClassFile.FieldType.object "com/example/tenantd/tenantd/Permission")))).before args0 about1 = true := code_word (m := ⟨11, 0⟩) (meth := k11m0) (c := k11c0) (by decide +kernel) rfl rfl rfl (by decide +kernel)
set_option maxRecDepth 65536 in
theorem w_c13 : (Jvm.Cond.code ({ cls := "java/lang/String", name := "equals", desc := "(Ljava/lang/Object;)Z" } : Jvm.MethodName) jdk_42_method_66_code (3 : Nat) (Option.some Jvm.ClassFile.FieldType.boolean)).before args0 about1 = true := code_word (m := ⟨7, 3⟩) (meth := k7m3) (c := k7c3) (by decide +kernel) rfl rfl rfl (by decide +kernel)
set_option maxRecDepth 65536 in
theorem w_c14 : (Jvm.Cond.code ({ cls := "java/lang/StringLatin1", name := "equals", desc := "([B[B)Z" } : Jvm.MethodName) jdk_43_method_13_code (3 : Nat) (Option.some Jvm.ClassFile.FieldType.boolean)).before args0 about1 = true := code_word (m := ⟨8, 3⟩) (meth := k8m3) (c := k8c3) (by decide +kernel) rfl rfl rfl (by decide +kernel)
set_option maxRecDepth 65536 in
theorem w_c15 : (Jvm.Cond.code ({ cls := "java/util/Optional", name := "empty", desc := "()Ljava/util/Optional;" } : Jvm.MethodName) jdk_32_method_1_code (1 : Nat) (Option.some (Jvm.ClassFile.FieldType.object "java/util/Optional"))).before args0 about1 = true := code_word (m := ⟨13, 0⟩) (meth := k13m0) (c := k13c0) (by decide +kernel) rfl rfl rfl (by decide +kernel)
set_option maxRecDepth 65536 in
theorem w_c16 : (Jvm.Cond.code ({ cls := "java/util/Optional", name := "orElse", desc := "(Ljava/lang/Object;)Ljava/lang/Object;" } : Jvm.MethodName) jdk_32_method_15_code (2 : Nat) (Option.some (Jvm.ClassFile.FieldType.object "java/lang/Object"))).before args0 about1 = true := code_word (m := ⟨13, 3⟩) (meth := k13m3) (c := k13c3) (by decide +kernel) rfl rfl rfl (by decide +kernel)
set_option maxRecDepth 65536 in
theorem w_c17 : (Jvm.Cond.code ({ cls := "java/lang/String", name := "valueOf", desc := "(C)Ljava/lang/String;" } : Jvm.MethodName) jdk_42_method_139_code (1 : Nat) (Option.some (Jvm.ClassFile.FieldType.object "java/lang/String"))).before args0 about1 = true := code_word (m := ⟨7, 4⟩) (meth := k7m4) (c := k7c4) (by decide +kernel) rfl rfl rfl (by decide +kernel)
set_option maxRecDepth 65536 in
theorem w_c18 : (Jvm.Cond.code ({ cls := "java/lang/StringLatin1", name := "canEncode", desc := "(C)Z" } : Jvm.MethodName) jdk_43_method_3_code (1 : Nat) (Option.some Jvm.ClassFile.FieldType.boolean)).before args0 about1 = true := code_word (m := ⟨8, 2⟩) (meth := k8m2) (c := k8c2) (by decide +kernel) rfl rfl rfl (by decide +kernel)
set_option maxRecDepth 65536 in
theorem w_c19 : (Jvm.Cond.code ({ cls := "java/lang/StringLatin1", name := "toBytes", desc := "(C)[B" } : Jvm.MethodName) jdk_43_method_46_code (1 : Nat) (Option.some (Jvm.ClassFile.FieldType.array Jvm.ClassFile.FieldType.byte))).before args0 about1 = true := code_word (m := ⟨8, 4⟩) (meth := k8m4) (c := k8c4) (by decide +kernel) rfl rfl rfl (by decide +kernel)
set_option maxRecDepth 65536 in
theorem w_c20 : (Jvm.Cond.code ({ cls := "java/lang/String", name := "<init>", desc := "([BB)V" } : Jvm.MethodName) jdk_42_method_151_code (3 : Nat) (Option.none : Option Jvm.ClassFile.FieldType)).before args0 about1 = true := code_word (m := ⟨7, 6⟩) (meth := k7m6) (c := k7c6) (by decide +kernel) rfl rfl rfl (by decide +kernel)
set_option maxRecDepth 65536 in
theorem w_c21 : (Jvm.Cond.code ({ cls := "java/lang/StringUTF16", name := "compress", desc := "([CII)[B" } : Jvm.MethodName) jdk_52_method_16_code (6 : Nat) (Option.some (Jvm.ClassFile.FieldType.array Jvm.ClassFile.FieldType.byte))).before args0 about1 = true := code_word (m := ⟨14, 2⟩) (meth := k14m2) (c := k14c2) (by decide +kernel) rfl rfl rfl (by decide +kernel)
set_option maxRecDepth 65536 in
theorem w_c22 : (Jvm.Cond.code ({ cls := "java/lang/StringUTF16", name := "compress", desc := "([CI[BII)I" } : Jvm.MethodName) jdk_52_method_21_code (7 : Nat) (Option.some Jvm.ClassFile.FieldType.int)).before args0 about1 = true := code_word (m := ⟨14, 3⟩) (meth := k14m3) (c := k14c3) (by decide +kernel) rfl rfl rfl (by decide +kernel)
set_option maxRecDepth 65536 in
theorem w_c23 : (Jvm.Cond.code ({ cls := "java/lang/StringUTF16", name := "coderFromArrayLen", desc := "([BI)B" } : Jvm.MethodName) jdk_52_method_15_code (2 : Nat) (Option.some Jvm.ClassFile.FieldType.byte)).before args0 about1 = true := code_word (m := ⟨14, 1⟩) (meth := k14m1) (c := k14c1) (by decide +kernel) rfl rfl rfl (by decide +kernel)
set_option maxRecDepth 65536 in
theorem w_c24 : (Jvm.Cond.code ({ cls := "java/util/Optional", name := "of", desc := "(Ljava/lang/Object;)Ljava/util/Optional;" } : Jvm.MethodName) jdk_32_method_3_code (1 : Nat) (Option.some (Jvm.ClassFile.FieldType.object "java/util/Optional"))).before args0 about1 = true := code_word (m := ⟨13, 2⟩) (meth := k13m2) (c := k13c2) (by decide +kernel) rfl rfl rfl (by decide +kernel)
set_option maxRecDepth 65536 in
theorem w_c25 : (Jvm.Cond.code ({ cls := "java/util/Objects", name := "requireNonNull", desc := "(Ljava/lang/Object;)Ljava/lang/Object;" } : Jvm.MethodName) jdk_31_method_10_code (1 : Nat) (Option.some (Jvm.ClassFile.FieldType.object "java/lang/Object"))).before args0 about1 = true := code_word (m := ⟨15, 1⟩) (meth := k15m1) (c := k15c1) (by decide +kernel) rfl rfl rfl (by decide +kernel)
set_option maxRecDepth 65536 in
theorem w_c26 : (Jvm.Cond.code ({ cls := "java/util/Optional", name := "<init>", desc := "(Ljava/lang/Object;)V" } : Jvm.MethodName) jdk_32_method_2_code (2 : Nat) (Option.none : Option Jvm.ClassFile.FieldType)).before args0 about1 = true := code_word (m := ⟨13, 1⟩) (meth := k13m1) (c := k13c1) (by decide +kernel) rfl rfl rfl (by decide +kernel)
def codes1 : List Jvm.Cond := [Jvm.Cond.code x code maxLocals ret, Jvm.Cond.code ({ cls := "com/example/tenantd/tenantd/PermissionOfTextPinLaw", name := "ch", desc := "(IIIJ)C" } : Jvm.MethodName) method_2_code (6 : Nat) (Option.some Jvm.ClassFile.FieldType.char), Jvm.Cond.code ({ cls := "java/lang/String", name := "charAt", desc := "(I)C" } : Jvm.MethodName) jdk_42_method_56_code (2 : Nat) (Option.some Jvm.ClassFile.FieldType.char), Jvm.Cond.code ({ cls := "java/lang/String", name := "isLatin1", desc := "()Z" } : Jvm.MethodName) jdk_42_method_154_code (1 : Nat) (Option.some Jvm.ClassFile.FieldType.boolean), Jvm.Cond.code ({ cls := "java/lang/StringLatin1", name := "charAt", desc := "([BI)C" } : Jvm.MethodName) jdk_43_method_2_code (2 : Nat) (Option.some Jvm.ClassFile.FieldType.char), Jvm.Cond.code ({ cls := "java/lang/String", name := "checkIndex", desc := "(II)V" } : Jvm.MethodName) jdk_42_method_155_code (2 : Nat) (Option.none : Option Jvm.ClassFile.FieldType), Jvm.Cond.code ({ cls := "jdk/internal/util/Preconditions", name := "checkIndex", desc := "(IILjava/util/function/BiFunction;)I" } : Jvm.MethodName) jdk_41_method_11_code (3 : Nat) (Option.some Jvm.ClassFile.FieldType.int), Jvm.Cond.code ({ cls := "com/example/tenantd/tenantd/PermissionOfTextPinLaw", name := "mk", desc := "(ICCCCCCC)Ljava/lang/String;" } : Jvm.MethodName) method_3_code (8 : Nat) (Option.some (Jvm.ClassFile.FieldType.object "java/lang/String")), Jvm.Cond.code ({ cls := "java/lang/String", name := "<init>", desc := "([C)V" } : Jvm.MethodName) jdk_42_method_3_code (2 : Nat) (Option.none : Option Jvm.ClassFile.FieldType), Jvm.Cond.code ({ cls := "java/lang/String", name := "<init>", desc := "([CIILjava/lang/Void;)V" } : Jvm.MethodName) jdk_42_method_149_code (6 : Nat) (Option.none : Option Jvm.ClassFile.FieldType), Jvm.Cond.code ({ cls := "java/lang/Object", name := "<init>", desc := "()V" } : Jvm.MethodName) object_method_1_code (1 : Nat) (Option.none : Option Jvm.ClassFile.FieldType), Jvm.Cond.code ({ cls := "com/example/tenantd/tenantd/Permission", name := "ofText", desc := "(Ljava/lang/String;)Ljava/util/Optional;" } : Jvm.MethodName) prog_10_method_5_code (5 : Nat) (Option.some (Jvm.ClassFile.FieldType.object "java/util/Optional")), Jvm.Cond.code ({ cls := "com/example/tenantd/tenantd/Permission", name := "values", desc := "()[Lcom/example/tenantd/tenantd/Permission;" } : Jvm.MethodName) prog_10_method_1_code (0 : Nat) (Option.some (Jvm.ClassFile.FieldType.array (Jvm.ClassFile.FieldType.object "com/example/tenantd/tenantd/Permission"))), Jvm.Cond.code ({ cls := "java/lang/String", name := "equals", desc := "(Ljava/lang/Object;)Z" } : Jvm.MethodName) jdk_42_method_66_code (3 : Nat) (Option.some Jvm.ClassFile.FieldType.boolean), Jvm.Cond.code ({ cls := "java/lang/StringLatin1", name := "equals", desc := "([B[B)Z" } : Jvm.MethodName) jdk_43_method_13_code (3 : Nat) (Option.some Jvm.ClassFile.FieldType.boolean), Jvm.Cond.code ({ cls := "java/util/Optional", name := "empty", desc := "()Ljava/util/Optional;" } : Jvm.MethodName) jdk_32_method_1_code (1 : Nat) (Option.some (Jvm.ClassFile.FieldType.object "java/util/Optional")), Jvm.Cond.code ({ cls := "java/util/Optional", name := "orElse", desc := "(Ljava/lang/Object;)Ljava/lang/Object;" } : Jvm.MethodName) jdk_32_method_15_code (2 : Nat) (Option.some (Jvm.ClassFile.FieldType.object "java/lang/Object")), Jvm.Cond.code ({ cls := "java/lang/String", name := "valueOf", desc := "(C)Ljava/lang/String;" } : Jvm.MethodName) jdk_42_method_139_code (1 : Nat) (Option.some (Jvm.ClassFile.FieldType.object "java/lang/String")), Jvm.Cond.code ({ cls := "java/lang/StringLatin1", name := "canEncode", desc := "(C)Z" } : Jvm.MethodName) jdk_43_method_3_code (1 : Nat) (Option.some Jvm.ClassFile.FieldType.boolean), Jvm.Cond.code ({ cls := "java/lang/StringLatin1", name := "toBytes", desc := "(C)[B" } : Jvm.MethodName) jdk_43_method_46_code (1 : Nat) (Option.some (Jvm.ClassFile.FieldType.array Jvm.ClassFile.FieldType.byte)), Jvm.Cond.code ({ cls := "java/lang/String", name := "<init>", desc := "([BB)V" } : Jvm.MethodName) jdk_42_method_151_code (3 : Nat) (Option.none : Option Jvm.ClassFile.FieldType), Jvm.Cond.code ({ cls := "java/lang/StringUTF16", name := "compress", desc := "([CII)[B" } : Jvm.MethodName) jdk_52_method_16_code (6 : Nat) (Option.some (Jvm.ClassFile.FieldType.array Jvm.ClassFile.FieldType.byte)), Jvm.Cond.code ({ cls := "java/lang/StringUTF16", name := "compress", desc := "([CI[BII)I" } : Jvm.MethodName) jdk_52_method_21_code (7 : Nat) (Option.some Jvm.ClassFile.FieldType.int), Jvm.Cond.code ({ cls := "java/lang/StringUTF16", name := "coderFromArrayLen", desc := "([BI)B" } : Jvm.MethodName) jdk_52_method_15_code (2 : Nat) (Option.some Jvm.ClassFile.FieldType.byte), Jvm.Cond.code ({ cls := "java/util/Optional", name := "of", desc := "(Ljava/lang/Object;)Ljava/util/Optional;" } : Jvm.MethodName) jdk_32_method_3_code (1 : Nat) (Option.some (Jvm.ClassFile.FieldType.object "java/util/Optional")), Jvm.Cond.code ({ cls := "java/util/Objects", name := "requireNonNull", desc := "(Ljava/lang/Object;)Ljava/lang/Object;" } : Jvm.MethodName) jdk_31_method_10_code (1 : Nat) (Option.some (Jvm.ClassFile.FieldType.object "java/lang/Object")), Jvm.Cond.code ({ cls := "java/util/Optional", name := "<init>", desc := "(Ljava/lang/Object;)V" } : Jvm.MethodName) jdk_32_method_2_code (2 : Nat) (Option.none : Option Jvm.ClassFile.FieldType)]
set_option maxRecDepth 65536 in
theorem codes_eq : words1.filter isCode = codes1 := rfl
theorem w_codes : ∀ c ∈ words1.filter isCode, c.before args0 about1 = true := by
  rw [codes_eq]
  intro c hc
  simp only [codes1, List.mem_cons, List.not_mem_nil, or_false] at hc
  rcases hc with rfl | rfl | rfl | rfl | rfl | rfl | rfl | rfl | rfl | rfl | rfl | rfl | rfl | rfl | rfl | rfl | rfl | rfl | rfl | rfl | rfl | rfl | rfl | rfl | rfl | rfl | rfl
  · exact w_c0
  · exact w_c1
  · exact w_c2
  · exact w_c3
  · exact w_c4
  · exact w_c5
  · exact w_c6
  · exact w_c7
  · exact w_c8
  · exact w_c9
  · exact w_c10
  · exact w_c11
  · exact w_c12
  · exact w_c13
  · exact w_c14
  · exact w_c15
  · exact w_c16
  · exact w_c17
  · exact w_c18
  · exact w_c19
  · exact w_c20
  · exact w_c21
  · exact w_c22
  · exact w_c23
  · exact w_c24
  · exact w_c25
  · exact w_c26
set_option maxRecDepth 65536 in
theorem w_t1 : (words1.take 24).all (fun c => isCode c || c.before args0 about1) = true := by decide +kernel
set_option maxRecDepth 65536 in
theorem w_t2 : ((words1.drop 24).take 24).all (fun c => isCode c || c.before args0 about1) = true := by decide +kernel
set_option maxRecDepth 65536 in
theorem w_t3 : (((words1.drop 24).drop 24).take 24).all (fun c => isCode c || c.before args0 about1) = true := by decide +kernel
set_option maxRecDepth 65536 in
theorem w_t4 : ((((words1.drop 24).drop 24).drop 24).take 24).all (fun c => isCode c || c.before args0 about1) = true := by decide +kernel
set_option maxRecDepth 65536 in
theorem w_t5 : (((((words1.drop 24).drop 24).drop 24).drop 24).take 24).all (fun c => isCode c || c.before args0 about1) = true := by decide +kernel
set_option maxRecDepth 65536 in
theorem w_t6 : (((((words1.drop 24).drop 24).drop 24).drop 24).drop 24).all (fun c => isCode c || c.before args0 about1) = true := by decide +kernel
theorem w_tables : (allAtoms (Jvm.Cond.code x code maxLocals ret :: tables_1)).before args0 about1 = true := by
  rw [allAtoms_all]
  show words1.all (fun c => c.before args0 about1) = true
  refine all_split ?_ w_codes
  rw [← List.take_append_drop 24 words1, List.all_append, w_t1, ← List.take_append_drop 24 (words1.drop 24), List.all_append, w_t2, ← List.take_append_drop 24 ((words1.drop 24).drop 24), List.all_append, w_t3, ← List.take_append_drop 24 (((words1.drop 24).drop 24).drop 24), List.all_append, w_t4, ← List.take_append_drop 24 ((((words1.drop 24).drop 24).drop 24).drop 24), List.all_append, w_t5, w_t6]
  rfl
set_option maxRecDepth 65536 in
theorem w_rest : rest_1_c.before args0 about1 = true := by decide +kernel
set_option maxRecDepth 65536 in
theorem w_case : (Jvm.Cond.and given_1 narrow_1).before args0 about1 = true := by decide +kernel
set_option maxRecDepth 65536 in
theorem w_consts : constsHeld consts_1 about1 := Jvm.Lit.constsHeldB_iff.mp (by decide +kernel)
theorem w_applies : (headSpec (Jvm.Cond.code x code maxLocals ret :: tables_1) room_1).applies x e0.platform about1 = true :=
  (Spec.applies_iff w_frames).mpr ⟨w_running, w_runnable, w_alone, w_named, w_hears, w_ripe, w_room, w_tables⟩
theorem atStart : AtStart classFile x code maxLocals ret World_1 tables_1 room_1 Calls_1 rest_1 Pre_1 launch0 p0 e0 about1 theMethod args0 below0 :=
  ⟨lists_1, trivial, launch0.admits_env _ _ _, launch0.least_env, fairChoices_fair.cas, fairChoices_fair.clock, w_frames, w_args, w_heap, w_applies, ⟨w_consts, trivial⟩, w_rest, w_case⟩
end start1
theorem witness_1 : WitnessClaimed_1 := ⟨start1.p0, start1.e0, start1.about1, start1.theMethod, start1.args0, start1.below0, start1.atStart⟩
end Jvm.Pilot.@@N@@
