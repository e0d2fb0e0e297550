import JvmDerived
import JvmDerived.Pilot.@@N@@Statement
import JvmDerived.Pilot.@@N@@Code
set_option linter.unusedVariables false
set_option linter.unusedSimpArgs false
@@BLOCK:NumsL.lean.txt@@
/- laws to paste: Road.backV, Road.eqW, Road.lenW, Road.chN, Road.codOf (cut by pick.py; bodies as the Statement names them) -/
namespace Jvm.Pilot.@@N@@
namespace StrChars
open Jvm Sem ClassFile Op Lib Jvm.Stand Jvm.Free.XT Jvm.Free.ALB Jvm.Free.JM Jvm.Free
open Jvm.Lib.Cold (StaticIs)
/-- a char array whose places are chars -/
def Ch (a : Addr) (A : Cell) (U : State) : Prop := Arr .char a A U ∧ Typed .char A
theorem Ch.mv {a : Addr} {A : Cell} {U U' : State} (h : Ch a A U) (hal : U.vm.Alike U'.vm) (hh : U'.heap = U.heap) : Ch a A U' := ⟨h.1.mv hal hh, h.2⟩
theorem Ch.keep {a : Addr} {A : Cell} {U U' : State} (h : Ch a A U) (hal : U.vm.Alike U'.vm) (hk : U'.heap[a]? = some A) : Ch a A U' := ⟨h.1.keep hal hk, h.2⟩
/-- what place i of a char[]'s cell holds -/
def cv (A : Cell) (i : Nat) : Int32 := match A.slots[i]? with | some (.int x) => x | _ => 0
theorem Ch.get {a : Addr} {A : Cell} {U : State} (h : Ch a A U) {i : Nat} (hi : i < A.slots.size) : A.slots[i]? = some (.int (cv A i)) := by
  have e := Array.getElem?_eq_getElem hi
  have f := h.2 i _ e
  unfold cv; rw [e]
  generalize A.slots[i] = v at f
  cases v <;> simp [fits] at f ⊢
/-- the byte that i2b leaves of a char -/
def lo8 (x : Int32) : Int32 := x.toInt8.toInt32
theorem fits_lo8 (y : Int32) : fits .byte (.int (lo8 y)) = true := by
  have h1 := y.toInt8.le_toInt
  have h2 := y.toInt8.toInt_lt
  simp only [lo8, fits, Bool.and_eq_true, decide_eq_true_eq, Int32.le_iff_toInt_le, Int8.toInt_toInt32, show (-128 : Int32).toInt = -128 from by decide, show (127 : Int32).toInt = 127 from by decide]
  omega
/-- A' is A but that each place j of lo .. hi - 1 holds f j -/
def Laid (A A' : Cell) (lo hi : Nat) (f : Nat → Value) : Prop := A'.cls = A.cls ∧ A'.vm = A.vm ∧ A'.slots.size = A.slots.size ∧ ∀ i, A'.slots[i]? = if lo ≤ i ∧ i < hi then some (f i) else A.slots[i]?
theorem Laid.zero (A : Cell) (lo : Nat) (f : Nat → Value) : Laid A A lo (lo + 0) f := ⟨rfl, rfl, rfl, fun i => by rw [if_neg (by omega)]⟩
theorem Laid.step {A Ak : Cell} {lo k : Nat} {f : Nat → Value} {v : Value} (h : Laid A Ak lo k f) (hlo : lo ≤ k) (hk : k < Ak.slots.size) (hv : v = f k) : Laid A (Ak.setSlot k v) lo (k + 1) f := by
  refine ⟨h.1, h.2.1, by simpa [Cell.setSlot] using h.2.2.1, fun i => ?_⟩
  by_cases e : k = i
  · subst e; rw [Cell.slots_setSlot_self v hk, if_pos (by omega), hv]
  · rw [Cell.slots_setSlot_ne v e, h.2.2.2 i]
    by_cases q : lo ≤ i ∧ i < k
    · rw [if_pos q, if_pos (by omega)]
    · rw [if_neg q, if_neg (by omega)]
def U16 : String := "java/lang/StringUTF16"
namespace Cmp5
def yN : MethodName := ⟨"java/lang/StringUTF16", "compress", "([CI[BII)I"⟩
abbrev yB : ByteArray := jdk_52_method_21_code
theorem d0 : decode yB 0 = .ok (.iconst 0, 1) := by decide +kernel
theorem d1 : decode yB 1 = .ok (.istore 5, 2) := by decide +kernel
theorem d3 : decode yB 3 = .ok (.iload 5, 2) := by decide +kernel
theorem d5 : decode yB 5 = .ok (.iload 4, 2) := by decide +kernel
theorem d7 : decode yB 7 = .ok (.if_icmp (.ge) 37, 3) := by decide +kernel
theorem d10 : decode yB 10 = .ok (.aload_n 0, 1) := by decide +kernel
theorem d11 : decode yB 11 = .ok (.iload_n 1, 1) := by decide +kernel
theorem d12 : decode yB 12 = .ok (.caload, 1) := by decide +kernel
theorem d13 : decode yB 13 = .ok (.istore 6, 2) := by decide +kernel
theorem d15 : decode yB 15 = .ok (.iload 6, 2) := by decide +kernel
theorem d17 : decode yB 17 = .ok (.sipush 255, 3) := by decide +kernel
theorem d20 : decode yB 20 = .ok (.if_icmp (.le) 6, 3) := by decide +kernel
theorem d26 : decode yB 26 = .ok (.aload_n 2, 1) := by decide +kernel
theorem d27 : decode yB 27 = .ok (.iload_n 3, 1) := by decide +kernel
theorem d28 : decode yB 28 = .ok (.iload 6, 2) := by decide +kernel
theorem d30 : decode yB 30 = .ok (.i2b, 1) := by decide +kernel
theorem d31 : decode yB 31 = .ok (.bastore, 1) := by decide +kernel
theorem d32 : decode yB 32 = .ok (.iinc 1 1, 3) := by decide +kernel
theorem d35 : decode yB 35 = .ok (.iinc 3 1, 3) := by decide +kernel
theorem d38 : decode yB 38 = .ok (.iinc 5 1, 3) := by decide +kernel
theorem d41 : decode yB 41 = .ok (.goto (-38), 3) := by decide +kernel
theorem d44 : decode yB 44 = .ok (.iload 4, 2) := by decide +kernel
theorem d46 : decode yB 46 = .ok (.ireturn, 1) := by decide +kernel
def site : List Cond := []
def tab : Cond := tabOf yN yB 7 (some .int) site
def P (b : Addr) (A : Cell) (d : Addr) (B : Cell) (o q len : Nat) (args : Array Value) (s : State) : Prop := args = #[.ref b, .int (Int32.ofNat o), .ref d, .int (Int32.ofNat q), .int (Int32.ofNat len)] ∧ Ch b A s ∧ Arr .byte d B s ∧ b ≠ d ∧ o + len ≤ A.slots.size ∧ q + len ≤ B.slots.size ∧ ∀ i, i < len → ¬ 255 < cv A (o + i)
def E (b : Addr) (A : Cell) (d : Addr) (B : Cell) (o q len : Nat) (r : Option Value) (s u : State) : Prop := r = some (.int (Int32.ofNat len)) ∧ ∃ B', Put d B' s u ∧ Laid B B' q (q + len) (fun j => Value.int (lo8 (cv A (o + (j - q)))))
/-- no char of the range above 255: len; the places written hold each char's low byte -/
theorem law (l : Launch) (b : Addr) (A : Cell) (d : Addr) (B : Cell) (o q len : Nat) : Law l yN 5 5 0 0 yB 7 (some .int) site (P b A d B o q len) (E b A d B o q len) (copyLocs d q len) 0 0 := by
  refine Law.of_walk (plainFor_of_name (by decide +kernel)) (by decide +kernel) (by decide +kernel) (by decide) (fun _ _ h => by rw [h.1]; rfl) (fun _ U U' hal hh h => ⟨h.1, h.2.1.mv hal hh, h.2.2.1.mv hal hh, h.2.2.2⟩) (fun r U U' V V' h1 hal h2 h => ⟨h.1, h.2.elim fun B' q => ⟨B', q.1.mv h1 h2, q.2⟩⟩) ?_
  intro p e s m args below meth c s₁ X0 hexec hbytes hml hret hlk hnm hown hh0 W hP
  obtain ⟨rfl, hA, hB, hne, l1, l2, hp⟩ := hP
  have c1 : Steps p.tables e below (s₁.setTop (entryFrame m #[.ref b, .int (Int32.ofNat o), .ref d, .int (Int32.ofNat q), .int (Int32.ofNat len)] 7)) (s₁.setTop (mkF m 0 #[.val (.ref b), .val (.int (Int32.ofNat o)), .val (.ref d), .val (.int (Int32.ofNat q)), .val (.int (Int32.ofNat len)), .unset, .unset] [])) := entry rfl
  have hA0 := hA.1.mv X0.warmed.alike hh0
  have hB0 := hB.mv X0.warmed.alike hh0
  have a31 := hA.1.2.2.2
  have c2 : Steps p.tables e below (s₁.setTop (entryFrame m #[.ref b, .int (Int32.ofNat o), .ref d, .int (Int32.ofNat q), .int (Int32.ofNat len)] 7)) (s₁.setTop (mkF m 3 #[.val (.ref b), .val (.int (Int32.ofNat o)), .val (.ref d), .val (.int (Int32.ofNat q)), .val (.int (Int32.ofNat len)), .val (.int 0), .unset] [])) := c1.trans (by
    refine iconstV X0.here hexec rfl 0 (hb hbytes d0) (by decide) ?_
    refine XS.istore X0.here hexec rfl (hb hbytes d1) rfl rfl ?_
    exact Steps.refl _)
  have loop : ∀ (r i : Nat), i + r = len → ∀ (z : Slot), (z = .unset ∨ ∃ w, z = .val w ∧ w.category = 1) → ∀ (Tl : State) (Bk : Cell), Stand p l e { frames := 0, locals := 0, cells := 0, slots := 0 } s m #[.ref b, .int (Int32.ofNat o), .ref d, .int (Int32.ofNat q), .int (Int32.ofNat len)] below meth c Tl ([] ++ copyLocs d q i) 0 0 → Put d Bk s₁ Tl → Laid B Bk q (q + i) (fun j => Value.int (lo8 (cv A (o + (j - q))))) →
      Steps p.tables e below (s₁.setTop (entryFrame m #[.ref b, .int (Int32.ofNat o), .ref d, .int (Int32.ofNat q), .int (Int32.ofNat len)] 7)) (Tl.setTop (mkF m 3 #[.val (.ref b), .val (.int (Int32.ofNat (o + i))), .val (.ref d), .val (.int (Int32.ofNat (q + i))), .val (.int (Int32.ofNat len)), .val (.int (Int32.ofNat i)), z] [])) → ∃ (T' : State) (B' : Cell) (z' : Slot), Stand p l e { frames := 0, locals := 0, cells := 0, slots := 0 } s m #[.ref b, .int (Int32.ofNat o), .ref d, .int (Int32.ofNat q), .int (Int32.ofNat len)] below meth c T' ([] ++ copyLocs d q len) 0 0 ∧ Put d B' s₁ T' ∧ Laid B B' q (q + len) (fun j => Value.int (lo8 (cv A (o + (j - q))))) ∧
      Steps p.tables e below (s₁.setTop (entryFrame m #[.ref b, .int (Int32.ofNat o), .ref d, .int (Int32.ofNat q), .int (Int32.ofNat len)] 7)) (T'.setTop (mkF m 3 #[.val (.ref b), .val (.int (Int32.ofNat (o + len))), .val (.ref d), .val (.int (Int32.ofNat (q + len))), .val (.int (Int32.ofNat len)), .val (.int (Int32.ofNat len)), z'] [])) := by
    intro r
    induction r with
    | zero =>
      intro i hi z hz Tl Bk Xl pl fl cl
      have hil : i = len := by omega
      rw [hil] at Xl fl cl
      exact ⟨Tl, Bk, z, Xl, pl, fl, cl⟩
    | succ r ih =>
      intro i hi z hz Tl Bk Xl pl fl cl
      have all := X0.warmed.alike.symm.trans Xl.warmed.alike
      have hAl := hA0.keep all (pl.other hne hA0.1)
      have hBk := hB0.like all pl.1 fl.1 fl.2.1 fl.2.2.1
      have hlt : q + i < Bk.slots.size := by rw [fl.2.2.1]; omega
      have c3 : Steps p.tables e below (s₁.setTop (entryFrame m #[.ref b, .int (Int32.ofNat o), .ref d, .int (Int32.ofNat q), .int (Int32.ofNat len)] 7)) (Tl.setTop (mkF m 12 #[.val (.ref b), .val (.int (Int32.ofNat (o + i))), .val (.ref d), .val (.int (Int32.ofNat (q + i))), .val (.int (Int32.ofNat len)), .val (.int (Int32.ofNat i)), z] [.int (Int32.ofNat (o + i)), .ref b])) := cl.trans (by
        refine XS.iload Xl.here hexec rfl (hb hbytes d3) rfl ?_
        refine XS.iload Xl.here hexec rfl (hb hbytes d5) rfl ?_
        refine XS.icmpNo Xl.here hexec rfl (hb hbytes d7) rfl (ii_ge_f (lt32 (by omega) (by omega))) ?_
        refine XS.aloadN Xl.here hexec rfl (hb hbytes d10) rfl rfl ?_
        refine XS.iloadN Xl.here hexec rfl (hb hbytes d11) rfl ?_
        exact Steps.refl _)
      have c4 : Steps p.tables e below (s₁.setTop (entryFrame m #[.ref b, .int (Int32.ofNat o), .ref d, .int (Int32.ofNat q), .int (Int32.ofNat len)] 7)) (Tl.setTop (mkF m 13 #[.val (.ref b), .val (.int (Int32.ofNat (o + i))), .val (.ref d), .val (.int (Int32.ofNat (q + i))), .val (.int (Int32.ofNat len)), .val (.int (Int32.ofNat i)), z] [.int (cv A (o + i))])) := c3.trans (by
        refine Xl.aget hexec hAl rfl (hA.get (i := o + i) (by omega)) rfl rfl (hb hbytes d12) ?_
        exact Steps.refl _)
      have c5 : Steps p.tables e below (s₁.setTop (entryFrame m #[.ref b, .int (Int32.ofNat o), .ref d, .int (Int32.ofNat q), .int (Int32.ofNat len)] 7)) (Tl.setTop (mkF m 15 #[.val (.ref b), .val (.int (Int32.ofNat (o + i))), .val (.ref d), .val (.int (Int32.ofNat (q + i))), .val (.int (Int32.ofNat len)), .val (.int (Int32.ofNat i)), .val (.int (cv A (o + i)))] [])) := c4.trans (by
        refine XS.istoreS Xl.here hexec rfl (hb hbytes d13) rfl rfl hz ?_
        exact Steps.refl _)
      have c6 : Steps p.tables e below (s₁.setTop (entryFrame m #[.ref b, .int (Int32.ofNat o), .ref d, .int (Int32.ofNat q), .int (Int32.ofNat len)] 7)) (Tl.setTop (mkF m 31 #[.val (.ref b), .val (.int (Int32.ofNat (o + i))), .val (.ref d), .val (.int (Int32.ofNat (q + i))), .val (.int (Int32.ofNat len)), .val (.int (Int32.ofNat i)), .val (.int (cv A (o + i)))] [.int (lo8 (cv A (o + i))), .int (Int32.ofNat (q + i)), .ref d])) := c5.trans (by
        refine XS.iload Xl.here hexec rfl (hb hbytes d15) rfl ?_
        refine sipushV Xl.here hexec rfl 255 (hb hbytes d17) (by decide) ?_
        refine XS.icmpYes Xl.here hexec rfl (pc0 := 20) rfl (hb hbytes d20) rfl (ii_le_t (hp i (by omega))) (by decide) rfl ?_
        refine XS.aloadN Xl.here hexec rfl (hb hbytes d26) rfl rfl ?_
        refine XS.iloadN Xl.here hexec rfl (hb hbytes d27) rfl ?_
        refine XS.iload Xl.here hexec rfl (hb hbytes d28) rfl ?_
        refine i2b Xl.here hexec rfl (hb hbytes d30) rfl ?_
        exact Steps.refl _)
      obtain ⟨T7, X7, p7, st7⟩ := Xl.aput hexec hBk rfl hlt rfl (fits_lo8 (cv A (o + i))) (g := (mkF m 31 #[.val (.ref b), .val (.int (Int32.ofNat (o + i))), .val (.ref d), .val (.int (Int32.ofNat (q + i))), .val (.int (Int32.ofNat len)), .val (.int (Int32.ofNat i)), .val (.int (cv A (o + i)))] [.int (lo8 (cv A (o + i))), .int (Int32.ofNat (q + i)), .ref d])) rfl (rest := []) rfl (hb hbytes d31)
      have c8 : Steps p.tables e below (s₁.setTop (entryFrame m #[.ref b, .int (Int32.ofNat o), .ref d, .int (Int32.ofNat q), .int (Int32.ofNat len)] 7)) (T7.setTop (mkF m 32 #[.val (.ref b), .val (.int (Int32.ofNat (o + i))), .val (.ref d), .val (.int (Int32.ofNat (q + i))), .val (.int (Int32.ofNat len)), .val (.int (Int32.ofNat i)), .val (.int (cv A (o + i)))] [])) := c6.trans (st7 _ (Steps.refl _))
      have c9 : Steps p.tables e below (s₁.setTop (entryFrame m #[.ref b, .int (Int32.ofNat o), .ref d, .int (Int32.ofNat q), .int (Int32.ofNat len)] 7)) (T7.setTop (mkF m 3 #[.val (.ref b), .val (.int (Int32.ofNat (o + i) + 1)), .val (.ref d), .val (.int (Int32.ofNat (q + i) + 1)), .val (.int (Int32.ofNat len)), .val (.int (Int32.ofNat i + 1)), .val (.int (cv A (o + i)))] [])) := c8.trans (by
        refine iincV X7.here hexec rfl 1 (hb hbytes d32) (by decide) rfl rfl ?_
        refine iincV X7.here hexec rfl 1 (hb hbytes d35) (by decide) rfl rfl ?_
        refine iincV X7.here hexec rfl 1 (hb hbytes d38) (by decide) rfl rfl ?_
        refine XS.goto X7.here hexec rfl (pc0 := 41) rfl (hb hbytes d41) (by decide) rfl ?_
        exact Steps.refl _)
      have c10 : Steps p.tables e below (s₁.setTop (entryFrame m #[.ref b, .int (Int32.ofNat o), .ref d, .int (Int32.ofNat q), .int (Int32.ofNat len)] 7)) (T7.setTop (mkF m 3 #[.val (.ref b), .val (.int (Int32.ofNat (o + (i + 1)))), .val (.ref d), .val (.int (Int32.ofNat (q + (i + 1)))), .val (.int (Int32.ofNat len)), .val (.int (Int32.ofNat (i + 1))), .val (.int (cv A (o + i)))] [])) := by
        have := c9
        rw [succ32, succ32, succ32] at this
        exact this
      exact ih (i + 1) (by omega) _ (Or.inr ⟨_, rfl, rfl⟩) T7 _ (by rw [copyLocs_step, ← List.append_assoc]; exact X7) (pl.trans p7) (fl.step (by omega) hlt (by simp)) c10
  obtain ⟨T9, B9, z9, X9, p9, f9, g9⟩ := loop len 0 (by omega) .unset (Or.inl rfl) s₁ B (by simpa [copyLocs] using X0) ⟨hB0.1, fun _ _ => rfl, rfl⟩ (Laid.zero _ _ _) c2
  have c11 : Steps p.tables e below (s₁.setTop (entryFrame m #[.ref b, .int (Int32.ofNat o), .ref d, .int (Int32.ofNat q), .int (Int32.ofNat len)] 7)) (T9.setTop (mkF m 46 #[.val (.ref b), .val (.int (Int32.ofNat (o + len))), .val (.ref d), .val (.int (Int32.ofNat (q + len))), .val (.int (Int32.ofNat len)), .val (.int (Int32.ofNat len)), z9] [.int (Int32.ofNat len)])) := g9.trans (by
    refine XS.iload X9.here hexec rfl (hb hbytes d3) rfl ?_
    refine XS.iload X9.here hexec rfl (hb hbytes d5) rfl ?_
    refine XS.icmpYes X9.here hexec rfl (pc0 := 7) rfl (hb hbytes d7) rfl (ii_ge_t (nlt32 (by omega) (Nat.le_refl _))) (by decide) rfl ?_
    refine XS.iload X9.here hexec rfl (hb hbytes d44) rfl ?_
    exact Steps.refl _)
  exact ⟨T9, some (.int (Int32.ofNat len)), _, _, _, X9, by simp, rfl, rfl, (fun h => by cases h), ⟨rfl, B9, p9.from hh0, f9⟩, fun fs hl => c11.trans (X9.ireturnOut hexec hret rfl (Or.inl rfl) (hb hbytes d46) hl)⟩
end Cmp5
namespace Cmp3
def yN : MethodName := ⟨"java/lang/StringUTF16", "compress", "([CII)[B"⟩
abbrev yB : ByteArray := jdk_52_method_16_code
theorem d0 : decode yB 0 = .ok (.iload_n 2, 1) := by decide +kernel
theorem d1 : decode yB 1 = .ok (.newarray .byte, 2) := by decide +kernel
theorem d3 : decode yB 3 = .ok (.astore_n 3, 1) := by decide +kernel
theorem d4 : decode yB 4 = .ok (.aload_n 0, 1) := by decide +kernel
theorem d5 : decode yB 5 = .ok (.iload_n 1, 1) := by decide +kernel
theorem d6 : decode yB 6 = .ok (.aload_n 3, 1) := by decide +kernel
theorem d7 : decode yB 7 = .ok (.iconst 0, 1) := by decide +kernel
theorem d8 : decode yB 8 = .ok (.iload_n 2, 1) := by decide +kernel
theorem d9 : decode yB 9 = .ok (.invokestatic 115, 3) := by decide +kernel
theorem d12 : decode yB 12 = .ok (.istore 4, 2) := by decide +kernel
theorem d14 : decode yB 14 = .ok (.iload 4, 2) := by decide +kernel
theorem d16 : decode yB 16 = .ok (.iload_n 2, 1) := by decide +kernel
theorem d17 : decode yB 17 = .ok (.if_icmp (.eq) 40, 3) := by decide +kernel
theorem d57 : decode yB 57 = .ok (.aload_n 3, 1) := by decide +kernel
theorem d58 : decode yB 58 = .ok (.areturn, 1) := by decide +kernel
def site : List Cond := [.arrayClass .byte, Cmp5.tab] ++ staticW U16 115 Cmp5.yN
def tab : Cond := tabOf yN yB 6 (some (.array .byte)) site
def P (b : Addr) (A : Cell) (o len : Nat) (args : Array Value) (s : State) : Prop := args = #[.ref b, .int (Int32.ofNat o), .int (Int32.ofNat len)] ∧ Ch b A s ∧ o + len ≤ A.slots.size ∧ len ≤ 536870912 ∧ ∀ i, i < len → ¬ 255 < cv A (o + i)
def E (b : Addr) (A : Cell) (o len : Nat) (r : Option Value) (s u : State) : Prop := NewArr .byte "[B" len (fun j => .int (lo8 (cv A (o + j)))) r s u ∧ u.heap.size = s.heap.size + 1
/-- no char of the range above 255: a new byte[] of their low bytes -/
theorem law (l : Launch) (b : Addr) (A : Cell) (o len : Nat) : Law l yN 3 3 1 18 yB 6 (some (.array .byte)) site (P b A o len) (E b A o len) [] 1 len := by
  refine Law.of_walk (plainFor_of_name (by decide +kernel)) (by decide +kernel) (by decide +kernel) (by decide) (fun _ _ h => by rw [h.1]; rfl) (fun _ U U' hal hh h => ⟨h.1, h.2.1.mv hal hh, h.2.2⟩) (fun r U U' V V' h1 hal h2 h => ⟨NewArr.mv r U U' V V' h1 hal h2 h.1, by rw [h1, h2]; exact h.2⟩) ?_
  intro p e s m args below meth c s₁ X0 hexec hbytes hml hret hlk hnm hown hh0 W hP
  obtain ⟨rfl, hA, l1, l2, hp⟩ := hP
  have a31 := hA.1.2.2.2
  have c1 : Steps p.tables e below (s₁.setTop (entryFrame m #[.ref b, .int (Int32.ofNat o), .int (Int32.ofNat len)] 6)) (s₁.setTop (mkF m 0 #[.val (.ref b), .val (.int (Int32.ofNat o)), .val (.int (Int32.ofNat len)), .unset, .unset, .unset] [])) := entry rfl
  have c2 : Steps p.tables e below (s₁.setTop (entryFrame m #[.ref b, .int (Int32.ofNat o), .int (Int32.ofNat len)] 6)) (s₁.setTop (mkF m 1 #[.val (.ref b), .val (.int (Int32.ofNat o)), .val (.int (Int32.ofNat len)), .unset, .unset, .unset] [.int (Int32.ofNat len)])) := c1.trans (by
    refine XS.iloadN X0.here hexec rfl (hb hbytes d0) rfl ?_
    exact Steps.refl _)
  obtain ⟨T3, B3, X3, ba3, bs3, bv3, bh3, bf3, st3⟩ := X0.anew hexec (atype := .byte) (wk W (.arrayClass .byte)) rfl (by show len * 1 ≤ _; omega) (by omega) (g := (mkF m 1 #[.val (.ref b), .val (.int (Int32.ofNat o)), .val (.int (Int32.ofNat len)), .unset, .unset, .unset] [.int (Int32.ofNat len)])) rfl (hb hbytes d1) (rest := []) rfl (Nat.le_refl _) (by show 0 + len ≤ len; omega)
  rw [hh0] at ba3 st3
  have kp3 : XT.Kept s T3 := (XT.Kept.of_eq hh0).push bh3
  have hA3 := hA.keep X3.warmed.alike (kp3 _ _ hA.1.1)
  have hne : b ≠ s.heap.size := hA.1.ne
  have c4 : Steps p.tables e below (s₁.setTop (entryFrame m #[.ref b, .int (Int32.ofNat o), .int (Int32.ofNat len)] 6)) (T3.setTop (mkF m 3 #[.val (.ref b), .val (.int (Int32.ofNat o)), .val (.int (Int32.ofNat len)), .unset, .unset, .unset] [.ref s.heap.size])) := c2.trans (st3 _ (Steps.refl _))
  have c5 : Steps p.tables e below (s₁.setTop (entryFrame m #[.ref b, .int (Int32.ofNat o), .int (Int32.ofNat len)] 6)) (T3.setTop (mkF m 9 #[.val (.ref b), .val (.int (Int32.ofNat o)), .val (.int (Int32.ofNat len)), .val (.ref s.heap.size), .unset, .unset] [.int (Int32.ofNat len), .int 0, .ref s.heap.size, .int (Int32.ofNat o), .ref b])) := c4.trans (by
    refine XS.astoreN X3.here hexec rfl (hb hbytes d3) rfl rfl rfl ?_
    refine XS.aloadN X3.here hexec rfl (hb hbytes d4) rfl rfl ?_
    refine XS.iloadN X3.here hexec rfl (hb hbytes d5) rfl ?_
    refine XS.aloadN X3.here hexec rfl (hb hbytes d6) rfl rfl ?_
    refine iconstV X3.here hexec rfl 0 (hb hbytes d7) (by decide) ?_
    refine XS.iloadN X3.here hexec rfl (hb hbytes d8) rfl ?_
    exact Steps.refl _)
  obtain ⟨v6, T6, X6, E6, g6⟩ := X3.callS hexec (Cmp5.law l b A s.heap.size B3 o 0 len) hown (wks W (staticW U16 115 Cmp5.yN)) (wk W Cmp5.tab) (W := 0) (Nat.le_of_ble_eq_true rfl) (Nat.le_of_ble_eq_true rfl) (Nat.le_refl _) (by show 0 + len + 0 ≤ len; omega) (g := (mkF m 9 #[.val (.ref b), .val (.int (Int32.ofNat o)), .val (.int (Int32.ofNat len)), .val (.ref s.heap.size), .unset, .unset] [.int (Int32.ofNat len), .int (Int32.ofNat 0), .ref s.heap.size, .int (Int32.ofNat o), .ref b])) rfl (by rw [hml]; rfl) c5 (argsL := [.ref b, .int (Int32.ofNat o), .ref s.heap.size, .int (Int32.ofNat 0), .int (Int32.ofNat len)]) (rest := []) rfl rfl (by show 2 * 0 + 0 ≤ _; decide) (hb hbytes d9) (⟨rfl, hA3, ba3, hne, l1, by rw [bs3]; simp, hp⟩)
  obtain ⟨rfl, B6, p6, f6⟩ := E6
  have c7 : Steps p.tables e below (s₁.setTop (entryFrame m #[.ref b, .int (Int32.ofNat o), .int (Int32.ofNat len)] 6)) (T6.setTop (mkF m 12 #[.val (.ref b), .val (.int (Int32.ofNat o)), .val (.int (Int32.ofNat len)), .val (.ref s.heap.size), .unset, .unset] [.int (Int32.ofNat len)])) := g6
  have c8 : Steps p.tables e below (s₁.setTop (entryFrame m #[.ref b, .int (Int32.ofNat o), .int (Int32.ofNat len)] 6)) (T6.setTop (mkF m 58 #[.val (.ref b), .val (.int (Int32.ofNat o)), .val (.int (Int32.ofNat len)), .val (.ref s.heap.size), .val (.int (Int32.ofNat len)), .unset] [.ref s.heap.size])) := c7.trans (by
    refine XS.istore X6.here hexec rfl (hb hbytes d12) rfl rfl ?_
    refine XS.iload X6.here hexec rfl (hb hbytes d14) rfl ?_
    refine XS.iloadN X6.here hexec rfl (hb hbytes d16) rfl ?_
    refine XS.icmpYes X6.here hexec rfl (pc0 := 17) rfl (hb hbytes d17) rfl (ii_eq_t rfl) (by decide) rfl ?_
    refine XS.aloadN X6.here hexec rfl (hb hbytes d57) rfl rfl ?_
    exact Steps.refl _)
  have X8 := X6.wide (L' := []) (cells' := 1) (slots' := len) (fun x hx hlt => by
    simp only [List.nil_append, copyLocs, List.mem_map, List.mem_range] at hx
    obtain ⟨i, -, rfl⟩ := hx
    exact absurd hlt (Nat.lt_irrefl _)) (Nat.le_refl _) (by omega)
  exact ⟨T6, some (.ref s.heap.size), _, _, _, X8, rfl, rfl, rfl, (fun h => by cases h), ⟨⟨rfl, B6, ba3.like (X3.warmed.alike.symm.trans X6.warmed.alike) p6.1 f6.1 f6.2.1 f6.2.2.1, f6.2.1.trans bv3, by rw [X6.warmed.alike.findClass, f6.1]; exact bf3, by rw [f6.2.2.1, bs3]; simp, fun j hj => by rw [f6.2.2.2 j, if_pos (by omega)]; rfl, kp3.put p6 (Nat.le_refl _)⟩, by rw [p6.2.2, bh3, hh0]; simp⟩, fun fs hl => c8.trans (X8.areturnOut hexec rfl hret rfl (hb hbytes d58) hl)⟩
end Cmp3
namespace CodL
def yN : MethodName := ⟨"java/lang/StringUTF16", "coderFromArrayLen", "([BI)B"⟩
abbrev yB : ByteArray := jdk_52_method_15_code
theorem d0 : decode yB 0 = .ok (.iload_n 1, 1) := by decide +kernel
theorem d1 : decode yB 1 = .ok (.aload_n 0, 1) := by decide +kernel
theorem d2 : decode yB 2 = .ok (.arraylength, 1) := by decide +kernel
theorem d3 : decode yB 3 = .ok (.isub, 1) := by decide +kernel
theorem d4 : decode yB 4 = .ok (.bipush 31, 2) := by decide +kernel
theorem d6 : decode yB 6 = .ok (.iushr, 1) := by decide +kernel
theorem d7 : decode yB 7 = .ok (.i2b, 1) := by decide +kernel
theorem d8 : decode yB 8 = .ok (.ireturn, 1) := by decide +kernel
def site : List Cond := []
def tab : Cond := tabOf yN yB 2 (some .byte) site
def P (d : Addr) (B : Cell) (args : Array Value) (s : State) : Prop := args = #[.ref d, .int (Int32.ofNat B.slots.size)] ∧ Arr .byte d B s
def E (r : Option Value) (s u : State) : Prop := XT.PureE (some (.int 0)) r s u
/-- an array as long as the number of chars: LATIN1 -/
theorem law (l : Launch) (d : Addr) (B : Cell) : Law l yN 2 2 0 0 yB 2 (some .byte) site (P d B) E [] 0 0 := by
  refine Law.of_walk (plainFor_of_name (by decide +kernel)) (by decide +kernel) (by decide +kernel) (by decide) (fun _ _ h => by rw [h.1]; rfl) (fun _ U U' hal hh h => ⟨h.1, h.2.mv hal hh⟩) (fun r U U' V V' h1 hal h2 h => XT.PureE.mv r U U' V V' h1 hal h2 h) ?_
  intro p e s m args below meth c s₁ X0 hexec hbytes hml hret hlk hnm hown hh0 W hP
  obtain ⟨rfl, hB⟩ := hP
  have hB0 := hB.mv X0.warmed.alike hh0
  have c1 : Steps p.tables e below (s₁.setTop (entryFrame m #[.ref d, .int (Int32.ofNat B.slots.size)] 2)) (s₁.setTop (mkF m 0 #[.val (.ref d), .val (.int (Int32.ofNat B.slots.size))] [])) := entry rfl
  have c2 : Steps p.tables e below (s₁.setTop (entryFrame m #[.ref d, .int (Int32.ofNat B.slots.size)] 2)) (s₁.setTop (mkF m 2 #[.val (.ref d), .val (.int (Int32.ofNat B.slots.size))] [.ref d, .int (Int32.ofNat B.slots.size)])) := c1.trans (by
    refine XS.iloadN X0.here hexec rfl (hb hbytes d0) rfl ?_
    refine XS.aloadN X0.here hexec rfl (hb hbytes d1) rfl rfl ?_
    exact Steps.refl _)
  have c3 : Steps p.tables e below (s₁.setTop (entryFrame m #[.ref d, .int (Int32.ofNat B.slots.size)] 2)) (s₁.setTop (mkF m 8 #[.val (.ref d), .val (.int (Int32.ofNat B.slots.size))] [.int (lo8 (ushr (Int32.ofNat B.slots.size - Int32.ofNat B.slots.size) 31))])) := c2.trans (by
    refine X0.alen hexec hB0 rfl rfl (hb hbytes d2) ?_
    refine XS.isub X0.here hexec rfl (hb hbytes d3) rfl ?_
    refine bipushV X0.here hexec rfl 31 (hb hbytes d4) (by decide) ?_
    refine iushr X0.here hexec rfl (hb hbytes d6) rfl ?_
    refine i2b X0.here hexec rfl (hb hbytes d7) rfl ?_
    exact Steps.refl _)
  have e0 : lo8 (ushr (Int32.ofNat B.slots.size - Int32.ofNat B.slots.size) 31) = 0 := by rw [Int32.sub_self]; decide
  rw [e0] at c3
  exact ⟨s₁, some (.int 0), _, _, _, X0, rfl, rfl, rfl, (fun h => by cases h), ⟨rfl, hh0⟩, fun fs hl => c3.trans (X0.ireturnOut hexec hret rfl (Or.inr (Or.inr (Or.inl rfl))) (hb hbytes d8) hl)⟩
end CodL
/-- the String at a is Latin-1 over a new byte[] (the heap's one new cell): the low bytes of the len chars of A from o on; every cell but a is kept -/
def Got (a : Addr) (D : Cell) (fV fC : Field) (A : Cell) (o len : Nat) (r : Option Value) (s u : State) : Prop := r = none ∧ ∃ D' V : Cell, Blank "java/lang/String" a D' u ∧ Same D D' [fV.slot, fC.slot] ∧ D'.slots[fV.slot]? = some (.ref s.heap.size) ∧ D'.slots[fC.slot]? = some (.int 0) ∧ Arr .byte s.heap.size V u ∧ V.vm = .none ∧ u.vm.findClass "[B" = some V.cls ∧ V.slots.size = len ∧ (∀ j, j < len → V.slots[j]? = some (.int (lo8 (cv A (o + j))))) ∧ (∀ (y : Addr) (c : Cell), y ≠ a → s.heap[y]? = some c → u.heap[y]? = some c) ∧ u.heap.size = s.heap.size + 1
theorem Got.mv {a : Addr} {D A : Cell} {fV fC : Field} {o len : Nat} : ∀ r (U U' V V' : State), U'.heap = U.heap → V.vm.Alike V'.vm → V'.heap = V.heap → Got a D fV fC A o len r U V → Got a D fV fC A o len r U' V' :=
  fun r U U' V V' h1 hal h2 ⟨e0, D', X, a1, a2, a3, a4, a5, a6, a7, a8, a9, a10, a11⟩ => ⟨e0, D', X, a1.mv hal h2, a2, by rw [h1]; exact a3, a4, by rw [h1]; exact a5.mv hal h2, a6, by rw [hal.findClass]; exact a7, a8, a9, by rw [h1, h2]; exact a10, by rw [h1, h2]; exact a11⟩
namespace New4
def yN : MethodName := ⟨"java/lang/String", "<init>", "([CIILjava/lang/Void;)V"⟩
abbrev yB : ByteArray := jdk_42_method_149_code
theorem d0 : decode yB 0 = .ok (.aload_n 0, 1) := by decide +kernel
theorem d1 : decode yB 1 = .ok (.invokespecial 1, 3) := by decide +kernel
theorem d4 : decode yB 4 = .ok (.iload_n 3, 1) := by decide +kernel
theorem d5 : decode yB 5 = .ok (.ifCond (.ne) 22, 3) := by decide +kernel
theorem d27 : decode yB 27 = .ok (.getstatic 38, 3) := by decide +kernel
theorem d30 : decode yB 30 = .ok (.ifCond (.eq) 28, 3) := by decide +kernel
theorem d33 : decode yB 33 = .ok (.aload_n 1, 1) := by decide +kernel
theorem d34 : decode yB 34 = .ok (.iload_n 2, 1) := by decide +kernel
theorem d35 : decode yB 35 = .ok (.iload_n 3, 1) := by decide +kernel
theorem d36 : decode yB 36 = .ok (.invokestatic 177, 3) := by decide +kernel
theorem d39 : decode yB 39 = .ok (.astore 5, 2) := by decide +kernel
theorem d41 : decode yB 41 = .ok (.aload_n 0, 1) := by decide +kernel
theorem d42 : decode yB 42 = .ok (.aload 5, 2) := by decide +kernel
theorem d44 : decode yB 44 = .ok (.iload_n 3, 1) := by decide +kernel
theorem d45 : decode yB 45 = .ok (.invokestatic 47, 3) := by decide +kernel
theorem d48 : decode yB 48 = .ok (.putfield 15, 3) := by decide +kernel
theorem d51 : decode yB 51 = .ok (.aload_n 0, 1) := by decide +kernel
theorem d52 : decode yB 52 = .ok (.aload 5, 2) := by decide +kernel
theorem d54 : decode yB 54 = .ok (.putfield 9, 3) := by decide +kernel
theorem d57 : decode yB 57 = .ok (.return_, 1) := by decide +kernel
def site : List Cond := [.fieldLink "java/lang/String" 38 "java/lang/String" "COMPACT_STRINGS" "Z", Cmp3.tab, CodL.tab, .laysFinal "java/lang/String" "java/lang/String" "value" "[B", .fieldLink "java/lang/String" 9 "java/lang/String" "value" "[B", .laysFinal "java/lang/String" "java/lang/String" "coder" "B", .fieldLink "java/lang/String" 15 "java/lang/String" "coder" "B"] ++ objW "java/lang/String" 1 ++ staticW "java/lang/String" 177 Cmp3.yN ++ staticW "java/lang/String" 47 CodL.yN
def tab : Cond := tabOf yN yB 6 none site
def P (a : Addr) (D : Cell) (fV fC : Field) (b : Addr) (A : Cell) (z : Int32) (o len : Nat) (args : Array Value) (s : State) : Prop := args = #[.ref a, .ref b, .int (Int32.ofNat o), .int (Int32.ofNat len), .null] ∧ Blank "java/lang/String" a D s ∧ Found "java/lang/String" "value" "[B" fV s ∧ Found "java/lang/String" "coder" "B" fC s ∧ Ch b A s ∧ StaticIs s "java/lang/String" "COMPACT_STRINGS" "Z" (.int z) ∧ ¬ z = 0 ∧ 0 < len ∧ o + len ≤ A.slots.size ∧ len ≤ 536870912 ∧ ∀ i, i < len → ¬ 255 < cv A (o + i)
def E (a : Addr) (D : Cell) (fV fC : Field) (A : Cell) (o len : Nat) (r : Option Value) (s u : State) : Prop := Got a D fV fC A o len r s u
/-- len > 0, no char of the range above 255: a Latin-1 String of their low bytes -/
theorem law (l : Launch) (a : Addr) (D : Cell) (fV fC : Field) (b : Addr) (A : Cell) (z : Int32) (o len : Nat) : Law l yN 5 4 2 35 yB 6 none site (P a D fV fC b A z o len) (E a D fV fC A o len) [⟨a, fC.slot⟩, ⟨a, fV.slot⟩] 1 len := by
  refine Law.of_walk (plainFor_of_name (by decide +kernel)) (by decide +kernel) (by decide +kernel) (by decide) (fun _ _ h => by rw [h.1]; rfl) (fun _ U U' hal hh h => ⟨h.1, h.2.1.mv hal hh, h.2.2.1.al hal, h.2.2.2.1.al hal, h.2.2.2.2.1.mv hal hh, h.2.2.2.2.2.1.there hal hh, h.2.2.2.2.2.2⟩) (fun r U U' V V' h1 hal h2 h => Got.mv r U U' V V' h1 hal h2 h) ?_
  intro p e s m args below meth c s₁ X0 hexec hbytes hml hret hlk hnm hown hh0 W hP
  obtain ⟨rfl, hB, f1, f2, hA, s1, hz, l0, l1, l2, hp⟩ := hP
  have a31 := hA.1.2.2.2
  have c1 : Steps p.tables e below (s₁.setTop (entryFrame m #[.ref a, .ref b, .int (Int32.ofNat o), .int (Int32.ofNat len), .null] 6)) (s₁.setTop (mkF m 0 #[.val (.ref a), .val (.ref b), .val (.int (Int32.ofNat o)), .val (.int (Int32.ofNat len)), .val .null, .unset] [])) := entry rfl
  have c2 : Steps p.tables e below (s₁.setTop (entryFrame m #[.ref a, .ref b, .int (Int32.ofNat o), .int (Int32.ofNat len), .null] 6)) (s₁.setTop (mkF m 1 #[.val (.ref a), .val (.ref b), .val (.int (Int32.ofNat o)), .val (.int (Int32.ofNat len)), .val .null, .unset] [.ref a])) := c1.trans (by
    refine XS.aloadN X0.here hexec rfl (hb hbytes d0) rfl rfl ?_
    exact Steps.refl _)
  obtain ⟨T3, X3, q3, st3⟩ := X0.oinit hexec hown (wks W (objW "java/lang/String" 1)) (g := (mkF m 1 #[.val (.ref a), .val (.ref b), .val (.int (Int32.ofNat o)), .val (.int (Int32.ofNat len)), .val .null, .unset] [.ref a])) rfl (by rw [hml]; rfl) (rest := []) rfl (hb hbytes d1) (W := 0) (by show 2 * 0 + 0 ≤ _; decide) (Nat.le_of_ble_eq_true rfl) (Nat.le_of_ble_eq_true rfl)
  have hh3 := q3.trans hh0
  have c4 : Steps p.tables e below (s₁.setTop (entryFrame m #[.ref a, .ref b, .int (Int32.ofNat o), .int (Int32.ofNat len), .null] 6)) (T3.setTop (mkF m 27 #[.val (.ref a), .val (.ref b), .val (.int (Int32.ofNat o)), .val (.int (Int32.ofNat len)), .val .null, .unset] [])) := (c2.trans (st3 _ (Steps.refl _))).trans (by
    refine XS.iloadN X3.here hexec rfl (hb hbytes d4) rfl ?_
    refine XS.ifYes X3.here hexec rfl (pc0 := 5) rfl (hb hbytes d5) rfl (i0_ne_t (nz32 (by omega) l0)) (by decide) rfl ?_
    exact Steps.refl _)
  obtain ⟨T5, X5, q5, st5⟩ := X3.sget hexec hown (wk W (.fieldLink "java/lang/String" 38 "java/lang/String" "COMPACT_STRINGS" "Z")) s1 (fun _ _ h => by rw [hh3]; exact h) (g := (mkF m 27 #[.val (.ref a), .val (.ref b), .val (.int (Int32.ofNat o)), .val (.int (Int32.ofNat len)), .val .null, .unset] [])) rfl (hb hbytes d27)
  have hh5 := q5.trans hh3
  have c6 : Steps p.tables e below (s₁.setTop (entryFrame m #[.ref a, .ref b, .int (Int32.ofNat o), .int (Int32.ofNat len), .null] 6)) (T5.setTop (mkF m 30 #[.val (.ref a), .val (.ref b), .val (.int (Int32.ofNat o)), .val (.int (Int32.ofNat len)), .val .null, .unset] [.int z])) := c4.trans (st5 _ (Steps.refl _))
  have c7 : Steps p.tables e below (s₁.setTop (entryFrame m #[.ref a, .ref b, .int (Int32.ofNat o), .int (Int32.ofNat len), .null] 6)) (T5.setTop (mkF m 36 #[.val (.ref a), .val (.ref b), .val (.int (Int32.ofNat o)), .val (.int (Int32.ofNat len)), .val .null, .unset] [.int (Int32.ofNat len), .int (Int32.ofNat o), .ref b])) := c6.trans (by
    refine XS.ifNo X5.here hexec rfl (hb hbytes d30) rfl (i0_eq_f hz) ?_
    refine XS.aloadN X5.here hexec rfl (hb hbytes d33) rfl rfl ?_
    refine XS.iloadN X5.here hexec rfl (hb hbytes d34) rfl ?_
    refine XS.iloadN X5.here hexec rfl (hb hbytes d35) rfl ?_
    exact Steps.refl _)
  obtain ⟨v8, T8, X8, E8, g8⟩ := X5.callS hexec (Cmp3.law l b A o len) hown (wks W (staticW "java/lang/String" 177 Cmp3.yN)) (wk W Cmp3.tab) (W := 0) (Nat.le_of_ble_eq_true rfl) (Nat.le_of_ble_eq_true rfl) (Nat.le_refl _) (by show 0 + len ≤ len; omega) (g := (mkF m 36 #[.val (.ref a), .val (.ref b), .val (.int (Int32.ofNat o)), .val (.int (Int32.ofNat len)), .val .null, .unset] [.int (Int32.ofNat len), .int (Int32.ofNat o), .ref b])) rfl (by rw [hml]; rfl) c7 (argsL := [.ref b, .int (Int32.ofNat o), .int (Int32.ofNat len)]) (rest := []) rfl rfl (by show 2 * 0 + 0 ≤ _; decide) (hb hbytes d36) (⟨rfl, hA.mv X5.warmed.alike hh5, l1, l2, hp⟩)
  obtain ⟨e8, z8⟩ := E8
  obtain ⟨rfl, N, n1, n2, n3, n4, n5, n6⟩ := NewArr.mv _ T5 s _ _ hh5.symm (Vm.Alike.refl _) rfl e8
  rw [hh5] at z8
  have hB1 := hB.keep X8.warmed.alike (n6 _ _ hB.1)
  have hne : s.heap.size ≠ a := (Nat.ne_of_lt (Array.getElem?_eq_some_iff.mp hB.1).1).symm
  have c9 : Steps p.tables e below (s₁.setTop (entryFrame m #[.ref a, .ref b, .int (Int32.ofNat o), .int (Int32.ofNat len), .null] 6)) (T8.setTop (mkF m 39 #[.val (.ref a), .val (.ref b), .val (.int (Int32.ofNat o)), .val (.int (Int32.ofNat len)), .val .null, .unset] [.ref s.heap.size])) := g8
  have c10 : Steps p.tables e below (s₁.setTop (entryFrame m #[.ref a, .ref b, .int (Int32.ofNat o), .int (Int32.ofNat len), .null] 6)) (T8.setTop (mkF m 45 #[.val (.ref a), .val (.ref b), .val (.int (Int32.ofNat o)), .val (.int (Int32.ofNat len)), .val .null, .val (.ref s.heap.size)] [.int (Int32.ofNat N.slots.size), .ref s.heap.size, .ref a])) := by
    have hc : Steps p.tables e below (s₁.setTop (entryFrame m #[.ref a, .ref b, .int (Int32.ofNat o), .int (Int32.ofNat len), .null] 6)) (T8.setTop (mkF m 45 #[.val (.ref a), .val (.ref b), .val (.int (Int32.ofNat o)), .val (.int (Int32.ofNat len)), .val .null, .val (.ref s.heap.size)] [.int (Int32.ofNat len), .ref s.heap.size, .ref a])) := c9.trans (by
      refine XS.astore X8.here hexec rfl (hb hbytes d39) rfl rfl rfl ?_
      refine XS.aloadN X8.here hexec rfl (hb hbytes d41) rfl rfl ?_
      refine XS.aload X8.here hexec rfl (hb hbytes d42) rfl rfl ?_
      refine XS.iloadN X8.here hexec rfl (hb hbytes d44) rfl ?_
      exact Steps.refl _)
    rw [n4]; exact hc
  obtain ⟨v11, T11, X11, E11, g11⟩ := X8.callS hexec (CodL.law l s.heap.size N) hown (wks W (staticW "java/lang/String" 47 CodL.yN)) (wk W CodL.tab) (W := 1) (Nat.le_of_ble_eq_true rfl) (Nat.le_of_ble_eq_true rfl) (Nat.le_refl _) (by show 0 + len + 0 ≤ len; omega) (g := (mkF m 45 #[.val (.ref a), .val (.ref b), .val (.int (Int32.ofNat o)), .val (.int (Int32.ofNat len)), .val .null, .val (.ref s.heap.size)] [.int (Int32.ofNat N.slots.size), .ref s.heap.size, .ref a])) rfl (by rw [hml]; rfl) c10 (argsL := [.ref s.heap.size, .int (Int32.ofNat N.slots.size)]) (rest := [.ref a]) rfl rfl (by show 2 * 0 + (1 + 0) ≤ _; decide) (hb hbytes d45) (⟨rfl, n1⟩)
  obtain ⟨rfl, q11⟩ := E11
  have hB11 := hB1.mv (X8.warmed.alike.symm.trans X11.warmed.alike) q11
  have c12 : Steps p.tables e below (s₁.setTop (entryFrame m #[.ref a, .ref b, .int (Int32.ofNat o), .int (Int32.ofNat len), .null] 6)) (T11.setTop (mkF m 48 #[.val (.ref a), .val (.ref b), .val (.int (Int32.ofNat o)), .val (.int (Int32.ofNat len)), .val .null, .val (.ref s.heap.size)] [.int 0, .ref a])) := g11
  obtain ⟨T13, X13, p13, bl13, sl13, st13⟩ := X11.finit hexec hown (wk W (.fieldLink "java/lang/String" 15 "java/lang/String" "coder" "B")) (Or.inr ⟨_, (wk W (.laysFinal "java/lang/String" "java/lang/String" "coder" "B"))⟩) (Or.inl ⟨rfl, hnm⟩) f2 (Or.inl rfl) hB11 (t := .byte) (by decide +kernel) rfl (g := (mkF m 48 #[.val (.ref a), .val (.ref b), .val (.int (Int32.ofNat o)), .val (.int (Int32.ofNat len)), .val .null, .val (.ref s.heap.size)] [.int 0, .ref a])) rfl (rest := []) rfl (hb hbytes d48)
  have c14 : Steps p.tables e below (s₁.setTop (entryFrame m #[.ref a, .ref b, .int (Int32.ofNat o), .int (Int32.ofNat len), .null] 6)) (T13.setTop (mkF m 54 #[.val (.ref a), .val (.ref b), .val (.int (Int32.ofNat o)), .val (.int (Int32.ofNat len)), .val .null, .val (.ref s.heap.size)] [.ref s.heap.size, .ref a])) := (c12.trans (st13 _ (Steps.refl _))).trans (by
    refine XS.aloadN X13.here hexec rfl (hb hbytes d51) rfl rfl ?_
    refine XS.aload X13.here hexec rfl (hb hbytes d52) rfl rfl ?_
    exact Steps.refl _)
  obtain ⟨T15, X15, p15, bl15, sl15, st15⟩ := X13.finit hexec hown (wk W (.fieldLink "java/lang/String" 9 "java/lang/String" "value" "[B")) (Or.inr ⟨_, (wk W (.laysFinal "java/lang/String" "java/lang/String" "value" "[B"))⟩) (Or.inl ⟨rfl, hnm⟩) f1 (Or.inl rfl) bl13 (t := (.array .byte)) (by decide +kernel) rfl (g := (mkF m 54 #[.val (.ref a), .val (.ref b), .val (.int (Int32.ofNat o)), .val (.int (Int32.ofNat len)), .val .null, .val (.ref s.heap.size)] [.ref s.heap.size, .ref a])) rfl (rest := []) rfl (hb hbytes d54)
  have c16 : Steps p.tables e below (s₁.setTop (entryFrame m #[.ref a, .ref b, .int (Int32.ofNat o), .int (Int32.ofNat len), .null] 6)) (T15.setTop (mkF m 57 #[.val (.ref a), .val (.ref b), .val (.int (Int32.ofNat o)), .val (.int (Int32.ofNat len)), .val .null, .val (.ref s.heap.size)] [])) := c14.trans (st15 _ (Steps.refl _))
  have ap := apart (Or.inr ⟨_, (wk W (.laysFinal "java/lang/String" "java/lang/String" "value" "[B"))⟩) (Or.inr ⟨_, (wk W (.laysFinal "java/lang/String" "java/lang/String" "coder" "B"))⟩) f1 f2 (t₁ := .array .byte) (t₂ := .byte) (by decide +kernel) (by decide +kernel) (by decide)
  have al := X8.warmed.alike.symm.trans X15.warmed.alike
  have n7 : T11.heap[s.heap.size]? = some N := by rw [q11]; exact n1.1
  exact ⟨T15, none, _, _, _, X15, by simp, rfl, by omega, (fun _ => rfl), ⟨rfl, _, N, bl15, ((Same.refl D _).set _ (by simp)).set _ (by simp), sl15, (Cell.slots_setSlot_ne _ ap).trans sl13, n1.keep al (p15.other hne (p13.other hne n7)), n2, by rw [al.findClass]; exact n3, n4, n5, fun y c h1 h2 => p15.other h1 (p13.other h1 (by rw [q11]; exact n6 y c h2)), by rw [p15.2.2, p13.2.2, q11]; exact z8⟩, fun fs hl => c16.trans (X15.returnOut hexec hret (hb hbytes d57) hl)⟩
end New4
namespace New1
def yN : MethodName := ⟨"java/lang/String", "<init>", "([C)V"⟩
abbrev yB : ByteArray := jdk_42_method_3_code
theorem d0 : decode yB 0 = .ok (.aload_n 0, 1) := by decide +kernel
theorem d1 : decode yB 1 = .ok (.aload_n 1, 1) := by decide +kernel
theorem d2 : decode yB 2 = .ok (.iconst 0, 1) := by decide +kernel
theorem d3 : decode yB 3 = .ok (.aload_n 1, 1) := by decide +kernel
theorem d4 : decode yB 4 = .ok (.arraylength, 1) := by decide +kernel
theorem d5 : decode yB 5 = .ok (.aconst_null, 1) := by decide +kernel
theorem d6 : decode yB 6 = .ok (.invokespecial 27, 3) := by decide +kernel
theorem d9 : decode yB 9 = .ok (.return_, 1) := by decide +kernel
def site : List Cond := [New4.tab] ++ initW "java/lang/String" 27 New4.yN
def tab : Cond := tabOf yN yB 2 none site
def P (a : Addr) (D : Cell) (fV fC : Field) (b : Addr) (A : Cell) (z : Int32) (args : Array Value) (s : State) : Prop := args = #[.ref a, .ref b] ∧ Blank "java/lang/String" a D s ∧ Found "java/lang/String" "value" "[B" fV s ∧ Found "java/lang/String" "coder" "B" fC s ∧ Ch b A s ∧ StaticIs s "java/lang/String" "COMPACT_STRINGS" "Z" (.int z) ∧ ¬ z = 0 ∧ 0 < A.slots.size ∧ A.slots.size ≤ 536870912 ∧ ∀ i, i < A.slots.size → ¬ 255 < cv A i
def E (a : Addr) (D : Cell) (fV fC : Field) (A : Cell) (r : Option Value) (s u : State) : Prop := Got a D fV fC A 0 A.slots.size r s u
/-- new String(chars), not empty, no char above 255: a Latin-1 String of their low bytes -/
theorem law (l : Launch) (a : Addr) (D : Cell) (fV fC : Field) (b : Addr) (A : Cell) (z : Int32) : Law l yN 2 1 3 52 yB 2 none site (P a D fV fC b A z) (E a D fV fC A) [⟨a, fC.slot⟩, ⟨a, fV.slot⟩] 1 A.slots.size := by
  refine Law.of_walk (plainFor_of_name (by decide +kernel)) (by decide +kernel) (by decide +kernel) (by decide) (fun _ _ h => by rw [h.1]; rfl) (fun _ U U' hal hh h => ⟨h.1, h.2.1.mv hal hh, h.2.2.1.al hal, h.2.2.2.1.al hal, h.2.2.2.2.1.mv hal hh, h.2.2.2.2.2.1.there hal hh, h.2.2.2.2.2.2⟩) (fun r U U' V V' h1 hal h2 h => Got.mv r U U' V V' h1 hal h2 h) ?_
  intro p e s m args below meth c s₁ X0 hexec hbytes hml hret hlk hnm hown hh0 W hP
  obtain ⟨rfl, hB, f1, f2, hA, s1, hz, l0, l2, hp⟩ := hP
  have c1 : Steps p.tables e below (s₁.setTop (entryFrame m #[.ref a, .ref b] 2)) (s₁.setTop (mkF m 0 #[.val (.ref a), .val (.ref b)] [])) := entry rfl
  have c2 : Steps p.tables e below (s₁.setTop (entryFrame m #[.ref a, .ref b] 2)) (s₁.setTop (mkF m 6 #[.val (.ref a), .val (.ref b)] [.null, .int (Int32.ofNat A.slots.size), .int 0, .ref b, .ref a])) := c1.trans (by
    refine XS.aloadN X0.here hexec rfl (hb hbytes d0) rfl rfl ?_
    refine XS.aloadN X0.here hexec rfl (hb hbytes d1) rfl rfl ?_
    refine iconstV X0.here hexec rfl 0 (hb hbytes d2) (by decide) ?_
    refine XS.aloadN X0.here hexec rfl (hb hbytes d3) rfl rfl ?_
    refine X0.alen hexec (hA.1.mv X0.warmed.alike hh0) rfl rfl (hb hbytes d4) ?_
    refine XS.aconstNull X0.here hexec rfl (hb hbytes d5) ?_
    exact Steps.refl _)
  obtain ⟨v3, T3, X3, E3, g3⟩ := X0.callN hexec (New4.law l a D fV fC b A z 0 A.slots.size) rfl hown (wks W (initW "java/lang/String" 27 New4.yN)) (W New4.tab (by simp only [site, List.mem_cons, List.mem_append, true_or, or_true])) (W := 0) (Nat.le_of_ble_eq_true rfl) (Nat.le_of_ble_eq_true rfl) (Nat.le_refl _) (by show 0 + A.slots.size ≤ A.slots.size; omega) (g := (mkF m 6 #[.val (.ref a), .val (.ref b)] [.null, .int (Int32.ofNat A.slots.size), .int (Int32.ofNat 0), .ref b, .ref a])) rfl (by rw [hml]; rfl) c2 (argsL := [.ref b, .int (Int32.ofNat 0), .int (Int32.ofNat A.slots.size), .null]) (rest := []) rfl rfl (by show 2 * 0 + 0 ≤ _; decide) (hb hbytes d6) (⟨rfl, hB.mv X0.warmed.alike hh0, f1.al X0.warmed.alike, f2.al X0.warmed.alike, hA.mv X0.warmed.alike hh0, s1.there X0.warmed.alike hh0, hz, l0, by omega, l2, fun i hi => by rw [Nat.zero_add]; exact hp i hi⟩)
  have e0 := Got.mv _ s₁ s _ _ hh0.symm (Vm.Alike.refl _) rfl E3
  obtain rfl := e0.1
  have c4 : Steps p.tables e below (s₁.setTop (entryFrame m #[.ref a, .ref b] 2)) (T3.setTop (mkF m 9 #[.val (.ref a), .val (.ref b)] [])) := g3
  exact ⟨T3, none, _, _, _, X3, by simp, rfl, by omega, (fun _ => rfl), e0, fun fs hl => c4.trans (X3.returnOut hexec hret (hb hbytes d9) hl)⟩
theorem pays {l : Launch} {R : Room} {p : Program} {e : Env} {below : List Frame} {s : State} {sargs : Array Value} {len W : Nat} (a : Addr) (D : Cell) (fV fC : Field) (b : Addr) (A : Cell) (z : Int32) (htab : tab.before sargs s = true) (hfr : 4 ≤ R.frames) (hlo : W + 65 ≤ R.locals) :
    Back l R p e below s sargs yN len W (fun A₁ a₁ => A₁.cells + 1 ≤ R.cells ∧ A₁.slots + A.slots.size ≤ R.slots ∧ P a D fV fC b A z a₁ A₁.U) (fun A₁ _ v₁ B₁ => E a D fV fC A v₁ A₁.U B₁.U ∧ B₁.locs = A₁.locs ++ [⟨a, fC.slot⟩, ⟨a, fV.slot⟩] ∧ B₁.cells = A₁.cells + 1 ∧ B₁.slots = A₁.slots + A.slots.size) :=
  (law l a D fV fC b A z).pays htab hfr (by omega)
end New1
/-- the byte, read back as charAt reads it, is the char -/
theorem lo8_mask {x : Int32} (h0 : ¬ x < 0) (h1 : ¬ 255 < x) : lo8 x &&& 255 = x := by
  have t : ∀ k : Fin 256, lo8 (Int32.ofNat k.val) &&& 255 = Int32.ofNat k.val := by decide +kernel
  rw [Int32.lt_iff_toInt_lt] at h0 h1
  have e0 : (0 : Int32).toInt = 0 := rfl
  have e1 : (255 : Int32).toInt = 255 := rfl
  obtain ⟨k, hk⟩ : ∃ k : Nat, x.toInt = k := ⟨x.toInt.toNat, by omega⟩
  have hx : x = Int32.ofNat k := Int32.toInt_inj.mp (by rw [hk, Int32.toInt_ofNat_small (by omega)])
  rw [hx]
  exact t ⟨k, by omega⟩
end StrChars
namespace StrChars.Road
open Jvm Sem ClassFile Op Lib Jvm.Stand Jvm.Free Jvm.Free.XT
open Jvm.Lib.Cold (StaticIs)
abbrev ST : String := "java/lang/String"
/-- every table word that New1's law asks, flat -/
abbrev words : List Jvm.Cond := [.code New1.yN New1.yB 2 none, .initialized ST, .methodLink ST 27 New4.yN, .instanceMethod New4.yN,
  .code New4.yN New4.yB 6 none, .fieldLink ST 38 ST "COMPACT_STRINGS" "Z", .laysFinal ST ST "value" "[B", .fieldLink ST 9 ST "value" "[B", .laysFinal ST ST "coder" "B", .fieldLink ST 15 ST "coder" "B",
  .methodLink ST 1 Lib.objectInit, .instanceMethod Lib.objectInit, .code Lib.objectInit ⟨#[0xb1]⟩ 1 none, .methodLink ST 177 Cmp3.yN, .static Cmp3.yN, .methodLink ST 47 CodL.yN, .static CodL.yN,
  .code Cmp3.yN Cmp3.yB 6 (some (.array .byte)), .initialized U16, .arrayClass .byte, .methodLink U16 115 Cmp5.yN, .static Cmp5.yN, .code Cmp5.yN Cmp5.yB 7 (some .int), .code CodL.yN CodL.yB 2 (some .byte)]
theorem tab_of {a : Array Value} {s : State} (h : ∀ w ∈ words, w.before a s = true) : New1.tab.before a s = true := by
  have h5 : Cmp5.tab.before a s = true := unparts (wk h (.code Cmp5.yN Cmp5.yB 7 (some .int))) (wks h (.initialized Cmp5.yN.cls :: Cmp5.site))
  have hc : CodL.tab.before a s = true := unparts (wk h (.code CodL.yN CodL.yB 2 (some .byte))) (wks h (.initialized CodL.yN.cls :: CodL.site))
  have q5 : ∀ w ∈ Cmp5.tab :: words, w.before a s = true := fun w hw => (List.mem_cons.mp hw).elim (fun e => e ▸ h5) (h w)
  have h3 : Cmp3.tab.before a s = true := unparts (wk q5 (.code Cmp3.yN Cmp3.yB 6 (some (.array .byte)))) (wks q5 (.initialized Cmp3.yN.cls :: Cmp3.site))
  have q3 : ∀ w ∈ Cmp3.tab :: CodL.tab :: words, w.before a s = true := fun w hw => (List.mem_cons.mp hw).elim (fun e => e ▸ h3) fun hw => (List.mem_cons.mp hw).elim (fun e => e ▸ hc) (h w)
  have h4 : New4.tab.before a s = true := unparts (wk q3 (.code New4.yN New4.yB 6 none)) (wks q3 (.initialized New4.yN.cls :: New4.site))
  have q4 : ∀ w ∈ New4.tab :: words, w.before a s = true := fun w hw => (List.mem_cons.mp hw).elim (fun e => e ▸ h4) (h w)
  exact unparts (wk q4 (.code New1.yN New1.yB 2 none)) (wks q4 (.initialized New1.yN.cls :: New1.site))
/-- the words ride from the start Z to the walk's own state -/
theorem moved {Z s : State} {a0 args : Array Value} (hZ : Z.Warmed39 s.vm) (hw : ∀ d ∈ words, d.before a0 Z = true) : ∀ d ∈ words, d.before args s = true := fun d hd => by
  have q := hw d hd
  have t : ∀ d ∈ words, d = .arrayClass .byte ∨ (d.onTables && d.keepsFace) = true := by decide +kernel
  rcases t d hd with rfl | t
  · exact RoadKit.mvA hZ q
  · exact RoadKit.mv hZ q t
/-- WHAT COMES BACK, over the tables of the start Z: h the heap at the call, h' behind it -/
def Q (Z : State) (x : Addr) (A : Cell) (h : Heap) (v : Option Value) (h' : Heap) (L : List Loc) : Prop := v = none ∧ (∀ y ∈ L, y.base = x) ∧ RoadKit.Keep h h' [x] ∧ h'.size = h.size + 1 ∧ RoadKit.Exa Z h' x ST ∧ RoadKit.Fld Z h' x ST "value" "[B" (.ref h.size) ∧ RoadKit.Fld Z h' x ST "coder" "B" (.int 0) ∧
  (∃ V : Cell, RoadKit.Arr Z h' h.size V .byte ∧ V.vm = .none ∧ Z.vm.findClass "[B" = some V.cls ∧ V.slots.size = A.slots.size ∧ ∀ j, j < A.slots.size → V.slots[j]? = some (.int (lo8 (cv A j)))) ∧
  ∀ (O n d : String) (w : Value), RoadKit.Fld Z h x O n d w → RoadKit.slotOf Z O n d ≠ RoadKit.slotOf Z ST "value" "[B" → RoadKit.slotOf Z O n d ≠ RoadKit.slotOf Z ST "coder" "B" → RoadKit.Fld Z h' x O n d w
/-- **new String(chars) AT A CALL, IN THE ROAD'S FORM**: for specialBack behind newO: x the fresh String, b the char[] with the cell A -/
theorem back {p : Program} {l : Launch} {e : Env} {R : Room} {s : State} {args : Array Value} {below : List Frame} {len W : Nat} {Z : State} {a0 : Array Value} {h : Heap} (hZ : Z.Warmed39 s.vm) (hw : ∀ d ∈ words, d.before a0 Z = true) {kI : Nat} (wi : (Jvm.Cond.instantiable ST kI).before a0 Z = true)
    {x b : Addr} {A : Cell} {z : Int32} {v0 c0 : Value} (E : RoadKit.Exa Z h x ST) (V : RoadKit.Fld Z h x ST "value" "[B" v0) (C : RoadKit.Fld Z h x ST "coder" "B" c0) (K : RoadKit.Arr Z h b A .char) (hty : Typed .char A) (S : RoadKit.Sta Z h ST "COMPACT_STRINGS" "Z" (.int z)) (hz : ¬ z = 0)
    (l0 : 0 < A.slots.size) (l2 : A.slots.size ≤ 536870912) (hp : ∀ i, i < A.slots.size → ¬ 255 < cv A i) (hfr : 4 ≤ R.frames) (hlo : W + 65 ≤ R.locals) :
    Back l R p e below s args New1.yN len W (fun P a => a = #[.ref x, .ref b] ∧ P.U.heap = h ∧ P.cells + 1 ≤ R.cells ∧ P.slots + A.slots.size ≤ R.slots)
      (fun P _ v B => ∃ L, Q Z x A h v B.U.heap L ∧ B.locs = P.locs ++ L ∧ B.cells = P.cells + 1 ∧ B.slots = P.slots + A.slots.size) := by
  intro m meth c P g ig mk a X hg hsize hdg hW hn hp'
  obtain ⟨rfl, rfl, r1, r2⟩ := hp'
  have al : Z.vm.Alike P.U.vm := hZ.alike.trans X.warmed.alike
  obtain ⟨D, cfV, kV, iV, fV, hD, gV, stV, knV, obV, asV, slV⟩ := id V
  obtain ⟨D', cfC, kC, iC, fC, hD', gC, stC, -, -, asC, slC⟩ := id C
  cases hD.symm.trans hD'
  obtain ⟨D2, kD, e1, e2, e3, e4, e5⟩ := id E
  cases hD.symm.trans e1
  obtain ⟨c2, k2, i1, i2, i3, -⟩ := Cond.instantiable_spec wi
  cases e2.symm.trans i1
  cases e3.symm.trans i2
  obtain ⟨kU, u1, u2⟩ := al.2.2 _ _ e3
  have hB : Blank ST x D P.U := ⟨hD, ⟨knV, fun q hq => by rw [hq] at obV; cases obV⟩, by rw [al.findClass]; exact e2, kU, u1, by rw [u2]; exact i3, by rw [u2]; exact e5 i3⟩
  have F1 : Found ST "value" "[B" fV P.U := ⟨SBG.found_only al ⟨cfV, kV, iV, gV⟩, stV⟩
  have F2 : Found ST "coder" "B" fC P.U := ⟨SBG.found_only al ⟨cfC, kC, iC, gC⟩, stC⟩
  have hA : Ch b A P.U := ⟨⟨K.1, State.isArrayOf_alike al K.2.1, K.2.2, by omega⟩, hty⟩
  have hS : StaticIs P.U ST "COMPACT_STRINGS" "Z" (.int z) := by
    obtain ⟨cfS, iS, kS, fS, st, cS, t1, t2, t3, t4, t5, t6, t7⟩ := S
    exact StaticIs.there (s := { Z with heap := P.U.heap }) ⟨cfS, iS, kS, fS, st, cS, t1, t2, t3, t4, t5, (fun q => by rw [q] at t6; cases t6), t7⟩ al rfl
  obtain ⟨v, B, X', ⟨⟨hv, E', V', q1, q2, q3, q4, q5, q6, q7, q8, q9, q10, q11⟩, hl, hc, hs⟩, st⟩ := New1.pays x D fV fC b A z (tab_of (moved hZ hw)) hfr hlo m meth c P g ig mk _ X hg hsize hdg hW hn ⟨r1, r2, rfl, hB, F1, F2, hA, hS, hz, l0, l2, hp⟩
  have al' : Z.vm.Alike B.U.vm := hZ.alike.trans X'.warmed.alike
  have hsz : E'.slots.size = D.slots.size := by
    obtain ⟨-, -, -, kB, w1, w2, w3⟩ := q1
    obtain ⟨kB', y1, y2⟩ := al'.2.2 _ _ e3
    rw [q2.2.1] at w1
    cases w1.symm.trans y1
    rw [w3, e5 i3, y2]
  refine ⟨v, B, X', ⟨_, ⟨hv, ?_, ⟨by omega, fun y cy hy hn' => q10 y cy (by simpa using hn') hy, fun y cy hy => ?_⟩, q11, ⟨E', _, q1.1, by rw [q2.2.1]; exact e2, by rw [q2.2.1]; exact e3, by rw [q2.1]; exact obV, fun _ => by rw [hsz]; exact e5 i3⟩,
    ⟨E', cfV, kV, iV, fV, q1.1, gV, stV, by rw [q2.1]; exact knV, by rw [q2.1]; exact obV, by rw [q2.2.1]; exact asV, q3⟩, ⟨E', cfC, kC, iC, fC, q1.1, gC, stC, by rw [q2.1]; exact knV, by rw [q2.1]; exact obV, by rw [q2.2.1]; exact asC, q4⟩,
    ⟨V', ⟨q5.1, State.isArrayOf_alike al'.symm q5.2.1, q5.2.2.1⟩, q6, by rw [← al'.findClass]; exact q7, q8, fun j hj => by have := q9 j hj; rwa [Nat.zero_add] at this⟩, fun O n d w F n1 n2 => ?_⟩, hl, hc, hs⟩, st⟩
  · intro y hy
    simp only [List.mem_cons, List.not_mem_nil, or_false] at hy
    rcases hy with rfl | rfl <;> rfl
  · by_cases q : y = x
    · subst q
      cases hD.symm.trans hy
      exact ⟨E', q1.1, q2.2.1, q2.1, hsz⟩
    · exact ⟨cy, q10 y cy q hy, rfl, rfl, rfl⟩
  · obtain ⟨D3, cf, k, i, f, g1, g2, g3, g4, g5, g6, g7⟩ := F
    cases hD.symm.trans g1
    simp only [RoadKit.slotOf, g2, gV, gC, Option.map_some, Option.getD_some] at n1 n2
    exact ⟨E', cf, k, i, f, q1.1, g2, g3, by rw [q2.1]; exact g4, by rw [q2.1]; exact g5, by rw [q2.2.1]; exact g6, by rw [q2.2.2 f.slot (by simp [n1, n2])]; exact g7⟩
end StrChars.Road
namespace StrChars.Road
open Jvm Sem ClassFile Op Lib Jvm.Stand Jvm.Free Jvm.Free.XT
/-- WHAT COMES BACK, the byte[] as a list of values -/
def QA (Z : State) (x : Addr) (zn : Int32) (cs : List Int32) (h : Heap) (v : Option Value) (h' : Heap) (L : List Loc) : Prop := v = none ∧ (∀ y ∈ L, y.base = x) ∧ RoadKit.Keep h h' [x] ∧ h'.size = h.size + 1 ∧ RoadKit.Exa Z h' x ST ∧ RoadKit.Fld Z h' x ST "value" "[B" (.ref h.size) ∧ RoadKit.Fld Z h' x ST "coder" "B" (.int 0) ∧
  (∃ kb, Z.vm.findClass "[B" = some kb ∧ RoadKit.Arv Z h' h.size kb .byte zn (cs.map fun c => .int (lo8 c)) (.int 0)) ∧
  ∀ (O n d : String) (w : Value), RoadKit.Fld Z h x O n d w → RoadKit.slotOf Z O n d ≠ RoadKit.slotOf Z ST "value" "[B" → RoadKit.slotOf Z O n d ≠ RoadKit.slotOf Z ST "coder" "B" → RoadKit.Fld Z h' x O n d w
/-- **new String(chars) AT A CALL, THE ARRAYS AS LISTS**: the char[] at b holds cs, not empty, no char above 255 -/
theorem backArv {p : Program} {l : Launch} {e : Env} {R : Room} {s : State} {args : Array Value} {below : List Frame} {len W : Nat} {Z : State} {a0 : Array Value} {h : Heap} (hZ : Z.Warmed39 s.vm) (hw : ∀ d ∈ words, d.before a0 Z = true) {kI : Nat} (wi : (Jvm.Cond.instantiable ST kI).before a0 Z = true)
    {x b : Addr} {k : ClassId} {zn z : Int32} {cs : List Int32} {dv v0 c0 : Value} (E : RoadKit.Exa Z h x ST) (V : RoadKit.Fld Z h x ST "value" "[B" v0) (C : RoadKit.Fld Z h x ST "coder" "B" c0) (K : RoadKit.Arv Z h b k .char zn (cs.map Value.int) dv) (S : RoadKit.Sta Z h ST "COMPACT_STRINGS" "Z" (.int z)) (hz : ¬ z = 0)
    (hlen : zn.toNatClampNeg = cs.length) (h0 : 0 < cs.length) (hbig : cs.length ≤ 536870912) (hall : ∀ c ∈ cs, ¬ 255 < c) (hfr : 4 ≤ R.frames) (hlo : W + 65 ≤ R.locals) :
    Back l R p e below s args New1.yN len W (fun P a => a = #[.ref x, .ref b] ∧ P.U.heap = h ∧ P.cells + 1 ≤ R.cells ∧ P.slots + cs.length ≤ R.slots)
      (fun P _ v B => ∃ L, QA Z x zn cs h v B.U.heap L ∧ B.locs = P.locs ++ L ∧ B.cells = P.cells + 1 ∧ B.slots = P.slots + cs.length) := by
  obtain ⟨A, K1, K2, K3, K4, K5, K6⟩ := K
  have e : A.slots.size = cs.length := K3.trans hlen
  have hat : ∀ (i : Nat) (hi : i < cs.length), A.slots[i]? = some (.int cs[i]) := fun i hi => by rw [K5 i (by omega)]; simp [List.getD_eq_getElem?_getD, hi]
  have hcv : ∀ (i : Nat) (hi : i < cs.length), cv A i = cs[i] := fun i hi => by unfold cv; rw [hat i hi]
  have hty : Typed .char A := fun i v hv => by
    have hi : i < A.slots.size := (Array.getElem?_eq_some_iff.mp hv).1
    have q := K5 i hi
    rw [hv] at q
    rw [Option.some.inj q]
    exact K6 i hi
  refine Back.mono (back hZ hw wi E V C K1 hty S hz (by omega) (by omega) (fun i hi => by rw [hcv i (by omega)]; exact hall _ (List.getElem_mem _)) hfr hlo) (fun P a hp => ⟨hp.1, hp.2.1, hp.2.2.1, by rw [e]; exact hp.2.2.2⟩) (fun P a v B hp hq => ?_)
  obtain ⟨L, ⟨q1, q2, q3, q4, q5, q6, q7, ⟨V', v1, v2, v3, v4, v5⟩, q9⟩, hl, hc, hs⟩ := hq
  refine ⟨L, ⟨q1, q2, q3, q4, q5, q6, q7, ⟨V'.cls, v3, V', v1, rfl, by rw [v4, e, hlen], K4, fun i hi => ?_, fun i hi => ?_⟩, q9⟩, hl, hc, by rw [hs, e]⟩
  · have hi' : i < cs.length := by omega
    rw [v5 i (by omega), hcv i hi']; simp [List.getD_eq_getElem?_getD, hi']
  · have hi' : i < cs.length := by omega
    simp only [List.getD_eq_getElem?_getD, List.getElem?_map, List.getElem?_eq_getElem hi', Option.map_some, Option.getD_some]
    exact fits_lo8 _
end StrChars.Road
namespace StrChars.Road
open Jvm Sem ClassFile Op Lib Jvm.Stand Jvm.Free Jvm.Free.XT
/-- WHAT COMES BACK, in the writer's own shape -/
def QV (Z : State) (x : Addr) (N : Int32) (bs : List Int32) (h : Heap) (n0 : Nat) (v : Option Value) (h' : Heap) (L : List Loc) : Prop := v = none ∧ RoadKit.Fr n0 L ∧ RoadKit.Keep h h' [x] ∧ RoadKit.Exa Z h' x ST ∧ RoadKit.Fld Z h' x ST "coder" "B" (.int 0) ∧
  ∃ (t : Addr) (kb : ClassId), n0 ≤ t ∧ h.size ≤ t ∧ ¬ t = x ∧ RoadKit.Fld Z h' x ST "value" "[B" (.ref t) ∧ RoadKit.Arv Z h' t kb .byte N (bs.map Value.int) (.int 0)
/-- **new String(chars) AT A CALL, FOR THE WRITER**: a char[] of n known ints, each 0 to 255 -/
theorem backV {p : Program} {l : Launch} {e : Env} {R : Room} {s : State} {args : Array Value} {below : List Frame} {len W : Nat} {Z : State} {a0 : Array Value} {h : Heap} (hZ : Z.Warmed39 s.vm) (hw : ∀ d ∈ words, d.before a0 Z = true) {kI : Nat} (wi : (Jvm.Cond.instantiable ST kI).before a0 Z = true)
    {x b : Addr} {kC : ClassId} {cs bs : List Int32} {d v0 c0 : Value} {z N : Int32} {n n0 : Nat} (hx0 : n0 ≤ x) (hh0 : n0 ≤ h.size) (E : RoadKit.Exa Z h x ST) (V : RoadKit.Fld Z h x ST "value" "[B" v0) (C : RoadKit.Fld Z h x ST "coder" "B" c0) (K : RoadKit.Arv Z h b kC .char N (cs.map Value.int) d) (S : RoadKit.Sta Z h ST "COMPACT_STRINGS" "Z" (.int z)) (hz : ¬ z = 0)
    (hn : cs.length = n) (hN : N = Int32.ofNat n) (l0 : 0 < n) (l2 : n ≤ 4000) (hp : ∀ c ∈ cs, ¬ c < 0 ∧ ¬ (255 : Int32) < c) (hb : bs = cs.map (fun c => c.toInt8.toInt32)) (hfr : 4 ≤ R.frames) (hlo : W + 65 ≤ R.locals) :
    Back l R p e below s args (⟨"java/lang/String", "<init>", "([C)V"⟩ : MethodName) len W (fun P a => a = #[.ref x, .ref b] ∧ P.U.heap = h ∧ P.cells + 1 ≤ R.cells ∧ P.slots + n ≤ R.slots)
      (fun P _ v B => ∃ L, QV Z x N bs h n0 v B.U.heap L ∧ B.locs = P.locs ++ L ∧ B.cells = P.cells + 1 ∧ B.slots = P.slots + n) := by
  subst hn hN hb
  refine Back.mono (backArv hZ hw wi E V C K S hz (n32 (by omega)) l0 (by omega) (fun c hc => (hp c hc).2) hfr hlo) (fun P a hp => hp) (fun P a v B hp hq => ?_)
  obtain ⟨L, ⟨q1, q2, q3, q4, q5, q6, q7, ⟨kb, v1, v2⟩, q9⟩, hl, hc, hs⟩ := hq
  exact ⟨L, ⟨q1, fun y hy => by rw [q2 y hy]; exact hx0, q3, q5, q7, h.size, kb, hh0, Nat.le_refl _, Nat.ne_of_gt E.lt, q6, by rw [List.map_map]; exact v2⟩, hl, hc, hs⟩
end StrChars.Road
namespace StrChars
open Jvm Sem ClassFile Op Lib Jvm.Stand Jvm.Free.XT Jvm.Free.ALB Jvm.Free.JM Jvm.Free
open Jvm.Lib.Cold (StaticIs)
def hi8 (x : Int32) : Int32 := lo8 (x >>> ((8 : Int32) &&& 31))
/-- what StringUTF16.getChar makes of two bytes -/
def pairCh (u v : Int32) : Int32 := (((u &&& 255) <<< ((0 : Int32) &&& 31)) ||| ((v &&& 255) <<< ((8 : Int32) &&& 31))).toUInt32.toUInt16.toUInt32.toInt32
theorem shr0 (c : Int32) : c >>> ((0 : Int32) &&& 31) = c := by
  have e : ((0 : Int32) &&& 31) = 0 := by decide
  rw [e]
  apply Int32.toBitVec_inj.mp
  rw [Int32.toBitVec_shiftRight]
  have e1 : ((0 : Int32).toBitVec.smod 32) = 0#32 := by decide
  rw [e1, BitVec.sshiftRight_eq']
  exact BitVec.sshiftRight_zero
theorem lo8_and (x : Int32) : (lo8 x &&& 255).toBitVec.toNat = x.toBitVec.toNat % 256 := by
  have h : (lo8 x).toBitVec = (x.toBitVec.signExtend 8).signExtend 32 := by rw [lo8, Int8.toBitVec_toInt32, Int32.toBitVec_toInt8]
  rw [Int32.toBitVec_and, BitVec.toNat_and, h]
  have e : ((x.toBitVec.signExtend 8).signExtend 32).toNat % 256 = x.toBitVec.toNat % 256 := by
    rw [BitVec.toNat_signExtend]
    have hlt := x.toBitVec.isLt
    simp only [BitVec.toNat_setWidth, BitVec.toNat_signExtend]
    split <;> split <;> omega
  rw [← e]
  exact Nat.and_two_pow_sub_one_eq_mod _ 8
theorem pair_says {c : Int32} (h0 : ¬ c < 0) (h1 : ¬ 65535 < c) : pairCh (lo8 c) (hi8 c) = c := by
  rw [Int32.lt_iff_toInt_lt] at h0 h1
  have e0 : (0 : Int32).toInt = 0 := rfl
  have e1 : (65535 : Int32).toInt = 65535 := rfl
  have hc : c.toInt = c.toBitVec.toNat := by
    have := c.toBitVec.isLt
    have e : c.toInt = c.toBitVec.toInt := rfl
    rw [e] at h0 h1
    rw [e]
    rw [BitVec.toInt_eq_toNat_cond] at h0 h1 ⊢
    split at h0 <;> split <;> omega
  have hn : c.toBitVec.toNat < 65536 := by omega
  have a1 := lo8_and c
  have a2 : (hi8 c &&& 255).toBitVec.toNat = c.toBitVec.toNat / 256 := by
    rw [hi8, lo8_and]
    have e : ((8 : Int32) &&& 31) = 8 := by decide
    rw [e, Int32.toBitVec_shiftRight]
    have e2 : ((8 : Int32).toBitVec.smod 32) = 8#32 := by decide
    rw [e2, BitVec.sshiftRight_eq', BitVec.toNat_sshiftRight_of_msb_false (by rw [BitVec.msb_eq_false_iff_two_mul_lt]; omega)]
    show c.toBitVec.toNat >>> 8 % 256 = _
    rw [Nat.shiftRight_eq_div_pow]
    omega
  unfold pairCh
  apply Int32.toBitVec_inj.mp
  apply BitVec.eq_of_toNat_eq
  have f0 : ((0 : Int32) &&& 31) = 0 := by decide
  have f8 : ((8 : Int32) &&& 31) = 8 := by decide
  rw [f0, f8]
  have g : (((lo8 c &&& 255) <<< (0 : Int32)) ||| ((hi8 c &&& 255) <<< (8 : Int32))).toBitVec.toNat = c.toBitVec.toNat := by
    rw [Int32.toBitVec_or, Int32.toBitVec_shiftLeft, Int32.toBitVec_shiftLeft]
    have s0 : ((0 : Int32).toBitVec.smod 32) = 0#32 := by decide
    have s8 : ((8 : Int32).toBitVec.smod 32) = 8#32 := by decide
    rw [s0, s8, BitVec.toNat_or]
    simp only [BitVec.shiftLeft_eq', BitVec.toNat_shiftLeft, a1, a2]
    show (c.toBitVec.toNat % 256) <<< 0 % 2 ^ 32 ||| (c.toBitVec.toNat / 256) <<< 8 % 2 ^ 32 = _
    rw [Nat.shiftLeft_zero, Nat.mod_eq_of_lt (show c.toBitVec.toNat % 256 < 2 ^ 32 by omega), Nat.mod_eq_of_lt (show (c.toBitVec.toNat / 256) <<< 8 < 2 ^ 32 by rw [Nat.shiftLeft_eq]; omega), Nat.or_comm, ← Nat.shiftLeft_add_eq_or_of_lt (by omega), Nat.shiftLeft_eq]
    omega
  show BitVec.toNat (((((lo8 c &&& 255) <<< (0 : Int32)) ||| ((hi8 c &&& 255) <<< (8 : Int32))).toBitVec.setWidth 16).setWidth 32) = _
  rw [BitVec.toNat_setWidth, BitVec.toNat_setWidth, g]
  omega
end StrChars
namespace StrChars
open Jvm Sem ClassFile Op Lib Jvm.Stand Jvm.Free.XT Jvm.Free.ALB Jvm.Free.JM Jvm.Free
open Jvm.Lib.Cold (StaticIs)
theorem shr1 {n : Nat} (h : 2 * n < 2 ^ 31) : Int32.ofNat (2 * n) >>> ((1 : Int32) &&& 31) = Int32.ofNat n := by
  have e : ((1 : Int32) &&& 31) = 1 := by decide
  rw [e]
  apply Int32.toBitVec_inj.mp
  rw [Int32.toBitVec_shiftRight]
  have e1 : ((1 : Int32).toBitVec.smod 32) = 1#32 := by decide
  have hm : (BitVec.ofNat 32 (2 * n)).toNat = 2 * n := by rw [BitVec.toNat_ofNat, Nat.mod_eq_of_lt (by omega)]
  rw [e1, BitVec.sshiftRight_eq']
  apply BitVec.eq_of_toNat_eq
  show ((BitVec.ofNat 32 (2 * n)).sshiftRight 1).toNat = (BitVec.ofNat 32 n).toNat
  rw [BitVec.toNat_sshiftRight_of_msb_false (by rw [BitVec.msb_eq_false_iff_two_mul_lt, hm]; omega), hm, BitVec.toNat_ofNat, Nat.shiftRight_eq_div_pow]
  omega
/-- charAt's cast of a byte read back -/
def chr8 (u : Int32) : Int32 := (u &&& 255).toUInt32.toUInt16.toUInt32.toInt32
theorem chr8_lo8 {c : Int32} (h0 : ¬ c < 0) (h1 : ¬ 255 < c) : chr8 (lo8 c) = c := by
  have t : ∀ k : Fin 256, (Int32.ofNat k.val).toUInt32.toUInt16.toUInt32.toInt32 = Int32.ofNat k.val := by decide +kernel
  unfold chr8
  rw [lo8_mask h0 h1]
  rw [Int32.lt_iff_toInt_lt] at h0 h1
  have e0 : (0 : Int32).toInt = 0 := rfl
  have e1 : (255 : Int32).toInt = 255 := rfl
  obtain ⟨k, hk⟩ : ∃ k : Nat, c.toInt = k := ⟨c.toInt.toNat, by omega⟩
  have hx : c = Int32.ofNat k := Int32.toInt_inj.mp (by rw [hk, Int32.toInt_ofNat_small (by omega)])
  rw [hx]
  exact t ⟨k, by omega⟩
theorem narrow_ch {c : Int32} (h0 : ¬ c < 0) (h1 : ¬ 65535 < c) : narrow .char (.int c) = .int c := by
  have q : narrow .char (.int (pairCh (lo8 c) (hi8 c))) = .int (pairCh (lo8 c) (hi8 c)) := narrow_c _
  rwa [pair_says h0 h1] at q
/-- the array's cell V codes the n chars f 0 .. f (n - 1) by the coder cd, as the JDK does: coder 1 just where some char is above 255 -/
def Cod (cd : Int32) (n : Nat) (f : Nat → Int32) (V : Cell) : Prop := (cd = 0 ∧ V.slots.size = n ∧ ∀ j, j < n → V.slots[j]? = some (.int (lo8 (f j))) ∧ ¬ 255 < f j) ∨ (cd = 1 ∧ V.slots.size = 2 * n ∧ (∀ j, j < n → V.slots[2 * j]? = some (.int (lo8 (f j))) ∧ V.slots[2 * j + 1]? = some (.int (hi8 (f j)))) ∧ ∃ j, j < n ∧ 255 < f j)
theorem Cod.cd {cd : Int32} {n : Nat} {f : Nat → Int32} {V : Cell} (h : Cod cd n f V) : cd = 0 ∨ cd = 1 := h.imp (fun q => q.1) fun q => q.1
theorem Cod.len {cd : Int32} {n : Nat} {f : Nat → Int32} {V : Cell} (h : Cod cd n f V) (hs : V.slots.size < 2 ^ 31) : Int32.ofNat V.slots.size >>> (cd &&& 31) = Int32.ofNat n := by
  rcases h with ⟨rfl, h, -⟩ | ⟨rfl, h, -⟩
  · rw [shr0, h]
  · rw [h, shr1 (by omega)]
/-- **x is a String of the n chars f 0 .. f (n - 1)**, Latin-1 or UTF-16; its array at t has the cell V -/
def Txt (x t : Addr) (V : Cell) (cd : Int32) (n : Nat) (f : Nat → Int32) (U : State) : Prop := Exact "java/lang/String" x U ∧ Has x "java/lang/String" "value" "[B" (.ref t) U ∧ Has x "java/lang/String" "coder" "B" (.int cd) U ∧ XT.Arr .byte t V U ∧ Cod cd n f V ∧ ∀ j, j < n → ¬ f j < 0 ∧ ¬ 65535 < f j
theorem Txt.mv {x t : Addr} {V : Cell} {cd : Int32} {n : Nat} {f : Nat → Int32} {U U' : State} (h : Txt x t V cd n f U) (hal : U.vm.Alike U'.vm) (hh : U'.heap = U.heap) : Txt x t V cd n f U' := ⟨h.1.mv hal hh, h.2.1.mv hal hh, h.2.2.1.mv hal hh, h.2.2.2.1.mv hal hh, h.2.2.2.2⟩
namespace Cdr
def yN : MethodName := ⟨"java/lang/String", "coder", "()B"⟩
abbrev yB : ByteArray := jdk_42_method_152_code
theorem d0 : decode yB 0 = .ok (.getstatic 38, 3) := by decide +kernel
theorem d3 : decode yB 3 = .ok (.ifCond (.eq) 10, 3) := by decide +kernel
theorem d6 : decode yB 6 = .ok (.aload_n 0, 1) := by decide +kernel
theorem d7 : decode yB 7 = .ok (.getfield 15, 3) := by decide +kernel
theorem d10 : decode yB 10 = .ok (.goto 4, 3) := by decide +kernel
theorem d14 : decode yB 14 = .ok (.ireturn, 1) := by decide +kernel
def site : List Cond := [.fieldLink "java/lang/String" 38 "java/lang/String" "COMPACT_STRINGS" "Z", .fieldLink "java/lang/String" 15 "java/lang/String" "coder" "B"]
def tab : Cond := tabOf yN yB 1 (some .byte) site
def P (x : Addr) (cd z : Int32) (args : Array Value) (s : State) : Prop := args = #[.ref x] ∧ Has x "java/lang/String" "coder" "B" (.int cd) s ∧ (cd = 0 ∨ cd = 1) ∧ StaticIs s "java/lang/String" "COMPACT_STRINGS" "Z" (.int z) ∧ ¬ z = 0
def E (cd : Int32) (r : Option Value) (s u : State) : Prop := XT.PureE (some (.int cd)) r s u
theorem law (l : Launch) (x : Addr) (cd z : Int32) : Law l yN 1 0 0 0 yB 1 (some .byte) site (P x cd z) (E cd) [] 0 0 := by
  refine Law.of_walk (plainFor_of_name (by decide +kernel)) (by decide +kernel) (by decide +kernel) (by decide) (fun _ _ h => by rw [h.1]; rfl) (fun _ U U' hal hh h => ⟨h.1, h.2.1.mv hal hh, h.2.2.1, h.2.2.2.1.there hal hh, h.2.2.2.2⟩) (fun r U U' V V' h1 hal h2 h => XT.PureE.mv r U U' V V' h1 hal h2 h) ?_
  intro p e s m args below meth c s₁ X0 hexec hbytes hml hret hlk hnm hown hh0 W hP
  obtain ⟨rfl, hx, hc, s1, hz⟩ := hP
  have c1 : Steps p.tables e below (s₁.setTop (entryFrame m #[.ref x] 1)) (s₁.setTop (mkF m 0 #[.val (.ref x)] [])) := entry rfl
  obtain ⟨T2, X2, q2, st2⟩ := X0.sget hexec hown (wk W (.fieldLink "java/lang/String" 38 "java/lang/String" "COMPACT_STRINGS" "Z")) s1 (fun _ _ h => by rw [hh0]; exact h) (g := (mkF m 0 #[.val (.ref x)] [])) rfl (hb hbytes d0)
  have hh2 := q2.trans hh0
  have c3 : Steps p.tables e below (s₁.setTop (entryFrame m #[.ref x] 1)) (T2.setTop (mkF m 7 #[.val (.ref x)] [.ref x])) := (c1.trans (st2 _ (Steps.refl _))).trans (by
    refine XS.ifNo X2.here hexec rfl (hb hbytes d3) rfl (i0_eq_f hz) ?_
    refine XS.aloadN X2.here hexec rfl (hb hbytes d6) rfl rfl ?_
    exact Steps.refl _)
  obtain ⟨T4, X4, q4, st4⟩ := X2.hget hexec hown (wk W (.fieldLink "java/lang/String" 15 "java/lang/String" "coder" "B")) (hx.mv X2.warmed.alike hh2) (g := (mkF m 7 #[.val (.ref x)] [.ref x])) rfl (rest := []) rfl (hb hbytes d7)
  have c5 : Steps p.tables e below (s₁.setTop (entryFrame m #[.ref x] 1)) (T4.setTop (mkF m 14 #[.val (.ref x)] [.int cd])) := (c3.trans (st4 _ (Steps.refl _))).trans (by
    refine XS.goto X4.here hexec rfl (pc0 := 10) rfl (hb hbytes d10) (by decide) rfl ?_
    exact Steps.refl _)
  exact ⟨T4, some (.int cd), _, _, _, X4, rfl, rfl, rfl, (fun h => by cases h), ⟨rfl, q4.trans hh2⟩, fun fs hl => c5.trans (X4.ireturnOut hexec hret (by rcases hc with rfl | rfl <;> rfl) (Or.inr (Or.inr (Or.inl rfl))) (hb hbytes d14) hl)⟩
end Cdr
namespace Len
def yN : MethodName := ⟨"java/lang/String", "length", "()I"⟩
abbrev yB : ByteArray := jdk_42_method_54_code
theorem d0 : decode yB 0 = .ok (.aload_n 0, 1) := by decide +kernel
theorem d1 : decode yB 1 = .ok (.getfield 9, 3) := by decide +kernel
theorem d4 : decode yB 4 = .ok (.arraylength, 1) := by decide +kernel
theorem d5 : decode yB 5 = .ok (.aload_n 0, 1) := by decide +kernel
theorem d6 : decode yB 6 = .ok (.invokevirtual 335, 3) := by decide +kernel
theorem d9 : decode yB 9 = .ok (.ishr, 1) := by decide +kernel
theorem d10 : decode yB 10 = .ok (.ireturn, 1) := by decide +kernel
def site : List Cond := [.fieldLink "java/lang/String" 9 "java/lang/String" "value" "[B", Cdr.tab] ++ virtW "java/lang/String" 335 "java/lang/String" Cdr.yN Cdr.yN
def tab : Cond := tabOf yN yB 1 (some .int) site
def P (x t : Addr) (V : Cell) (cd : Int32) (n : Nat) (f : Nat → Int32) (z : Int32) (args : Array Value) (s : State) : Prop := args = #[.ref x] ∧ Txt x t V cd n f s ∧ StaticIs s "java/lang/String" "COMPACT_STRINGS" "Z" (.int z) ∧ ¬ z = 0
def E (n : Nat) (r : Option Value) (s u : State) : Prop := XT.PureE (some (.int (Int32.ofNat n))) r s u
/-- length() of a String of n chars, in either coding -/
theorem law (l : Launch) (x t : Addr) (V : Cell) (cd : Int32) (n : Nat) (f : Nat → Int32) (z : Int32) : Law l yN 1 0 1 13 yB 1 (some .int) site (P x t V cd n f z) (E n) [] 0 0 := by
  refine Law.of_walk (plainFor_of_name (by decide +kernel)) (by decide +kernel) (by decide +kernel) (by decide) (fun _ _ h => by rw [h.1]; rfl) (fun _ U U' hal hh h => ⟨h.1, h.2.1.mv hal hh, h.2.2.1.there hal hh, h.2.2.2⟩) (fun r U U' V V' h1 hal h2 h => XT.PureE.mv r U U' V V' h1 hal h2 h) ?_
  intro p e s m args below meth c s₁ X0 hexec hbytes hml hret hlk hnm hown hh0 W hP
  obtain ⟨rfl, hx, s1, hz⟩ := hP
  have v31 := hx.2.2.2.1.2.2.2
  have c1 : Steps p.tables e below (s₁.setTop (entryFrame m #[.ref x] 1)) (s₁.setTop (mkF m 1 #[.val (.ref x)] [.ref x])) := Steps.trans (entry rfl) (by
    show Steps p.tables e below (s₁.setTop (mkF m 0 #[.val (.ref x)] [])) _
    refine XS.aloadN X0.here hexec rfl (hb hbytes d0) rfl rfl ?_
    exact Steps.refl _)
  obtain ⟨T2, X2, q2, st2⟩ := X0.hget hexec hown (wk W (.fieldLink "java/lang/String" 9 "java/lang/String" "value" "[B")) (hx.mv X0.warmed.alike hh0).2.1 (g := (mkF m 1 #[.val (.ref x)] [.ref x])) rfl (rest := []) rfl (hb hbytes d1)
  have hh2 := q2.trans hh0
  have hx2 := hx.mv X2.warmed.alike hh2
  have c3 : Steps p.tables e below (s₁.setTop (entryFrame m #[.ref x] 1)) (T2.setTop (mkF m 6 #[.val (.ref x)] [.ref x, .int (Int32.ofNat V.slots.size)])) := (c1.trans (st2 _ (Steps.refl _))).trans (by
    refine X2.alen hexec hx2.2.2.2.1 rfl rfl (hb hbytes d4) ?_
    refine XS.aloadN X2.here hexec rfl (hb hbytes d5) rfl rfl ?_
    exact Steps.refl _)
  obtain ⟨v4, T4, X4, E4, g4⟩ := X2.callV hexec (Cdr.law l x cd z) hown (wks W (virtW "java/lang/String" 335 "java/lang/String" Cdr.yN Cdr.yN)) rfl (by decide) (wk W Cdr.tab) (W := 1) (Nat.le_of_ble_eq_true rfl) (Nat.le_of_ble_eq_true rfl) (Nat.le_refl _) (Nat.le_refl _) (hx2.1.fc X2.warmed.alike) hx2.1.is (g := (mkF m 6 #[.val (.ref x)] [.ref x, .int (Int32.ofNat V.slots.size)])) rfl (by rw [hml]; rfl) c3 (argsL := []) (rest := [.int (Int32.ofNat V.slots.size)]) rfl rfl (by show 2 * 0 + (1 + 0) ≤ _; decide) (hb hbytes d6) (⟨rfl, hx2.2.2.1, hx.2.2.2.2.1.cd, s1.there X2.warmed.alike hh2, hz⟩)
  obtain ⟨rfl, q4⟩ := E4
  have c5 : Steps p.tables e below (s₁.setTop (entryFrame m #[.ref x] 1)) (T4.setTop (mkF m 10 #[.val (.ref x)] [.int (Int32.ofNat V.slots.size >>> (cd &&& 31))])) := Steps.trans g4 (by
    refine ishr X4.here hexec rfl (hb hbytes d9) rfl ?_
    exact Steps.refl _)
  rw [hx.2.2.2.2.1.len v31] at c5
  exact ⟨T4, some (.int (Int32.ofNat n)), _, _, _, X4, rfl, rfl, rfl, (fun h => by cases h), ⟨rfl, q4.trans hh2⟩, fun fs hl => c5.trans (X4.ireturnOut hexec hret rfl (Or.inl rfl) (hb hbytes d10) hl)⟩
theorem pays {l : Launch} {R : Room} {p : Program} {e : Env} {below : List Frame} {s : State} {sargs : Array Value} {len W : Nat} (x t : Addr) (V : Cell) (cd : Int32) (n : Nat) (f : Nat → Int32) (z : Int32) (htab : tab.before sargs s = true) (hfr : 2 ≤ R.frames) (hlo : W + 25 ≤ R.locals) :
    Back l R p e below s sargs yN len W (fun A₁ a₁ => A₁.cells + 0 ≤ R.cells ∧ A₁.slots + 0 ≤ R.slots ∧ P x t V cd n f z a₁ A₁.U) (fun A₁ _ v₁ B₁ => E n v₁ A₁.U B₁.U ∧ B₁.locs = A₁.locs ++ [] ∧ B₁.cells = A₁.cells + 0 ∧ B₁.slots = A₁.slots + 0) :=
  (law l x t V cd n f z).pays htab hfr (by omega)
end Len
namespace IsL
def yN : MethodName := ⟨"java/lang/String", "isLatin1", "()Z"⟩
abbrev yB : ByteArray := jdk_42_method_154_code
theorem d0 : decode yB 0 = .ok (.getstatic 38, 3) := by decide +kernel
theorem d3 : decode yB 3 = .ok (.ifCond (.eq) 14, 3) := by decide +kernel
theorem d6 : decode yB 6 = .ok (.aload_n 0, 1) := by decide +kernel
theorem d7 : decode yB 7 = .ok (.getfield 15, 3) := by decide +kernel
theorem d10 : decode yB 10 = .ok (.ifCond (.ne) 7, 3) := by decide +kernel
theorem d13 : decode yB 13 = .ok (.iconst 1, 1) := by decide +kernel
theorem d14 : decode yB 14 = .ok (.goto 4, 3) := by decide +kernel
theorem d17 : decode yB 17 = .ok (.iconst 0, 1) := by decide +kernel
theorem d18 : decode yB 18 = .ok (.ireturn, 1) := by decide +kernel
def site : List Cond := [.fieldLink "java/lang/String" 38 "java/lang/String" "COMPACT_STRINGS" "Z", .fieldLink "java/lang/String" 15 "java/lang/String" "coder" "B"]
def tab : Cond := tabOf yN yB 1 (some .boolean) site
def P (x : Addr) (cd z : Int32) (args : Array Value) (s : State) : Prop := args = #[.ref x] ∧ Has x "java/lang/String" "coder" "B" (.int cd) s ∧ (cd = 0 ∨ cd = 1) ∧ StaticIs s "java/lang/String" "COMPACT_STRINGS" "Z" (.int z) ∧ ¬ z = 0
def E (cd : Int32) (r : Option Value) (s u : State) : Prop := XT.PureE (some (.int (1 - cd))) r s u
theorem law (l : Launch) (x : Addr) (cd z : Int32) : Law l yN 1 0 0 0 yB 1 (some .boolean) site (P x cd z) (E cd) [] 0 0 := by
  refine Law.of_walk (plainFor_of_name (by decide +kernel)) (by decide +kernel) (by decide +kernel) (by decide) (fun _ _ h => by rw [h.1]; rfl) (fun _ U U' hal hh h => ⟨h.1, h.2.1.mv hal hh, h.2.2.1, h.2.2.2.1.there hal hh, h.2.2.2.2⟩) (fun r U U' V V' h1 hal h2 h => XT.PureE.mv r U U' V V' h1 hal h2 h) ?_
  intro p e s m args below meth c s₁ X0 hexec hbytes hml hret hlk hnm hown hh0 W hP
  obtain ⟨rfl, hx, hc, s1, hz⟩ := hP
  have c1 : Steps p.tables e below (s₁.setTop (entryFrame m #[.ref x] 1)) (s₁.setTop (mkF m 0 #[.val (.ref x)] [])) := entry rfl
  obtain ⟨T2, X2, q2, st2⟩ := X0.sget hexec hown (wk W (.fieldLink "java/lang/String" 38 "java/lang/String" "COMPACT_STRINGS" "Z")) s1 (fun _ _ h => by rw [hh0]; exact h) (g := (mkF m 0 #[.val (.ref x)] [])) rfl (hb hbytes d0)
  have hh2 := q2.trans hh0
  have c3 : Steps p.tables e below (s₁.setTop (entryFrame m #[.ref x] 1)) (T2.setTop (mkF m 7 #[.val (.ref x)] [.ref x])) := (c1.trans (st2 _ (Steps.refl _))).trans (by
    refine XS.ifNo X2.here hexec rfl (hb hbytes d3) rfl (i0_eq_f hz) ?_
    refine XS.aloadN X2.here hexec rfl (hb hbytes d6) rfl rfl ?_
    exact Steps.refl _)
  obtain ⟨T4, X4, q4, st4⟩ := X2.hget hexec hown (wk W (.fieldLink "java/lang/String" 15 "java/lang/String" "coder" "B")) (hx.mv X2.warmed.alike hh2) (g := (mkF m 7 #[.val (.ref x)] [.ref x])) rfl (rest := []) rfl (hb hbytes d7)
  have c5 : Steps p.tables e below (s₁.setTop (entryFrame m #[.ref x] 1)) (T4.setTop (mkF m 10 #[.val (.ref x)] [.int cd])) := c3.trans (st4 _ (Steps.refl _))
  have c6 : Steps p.tables e below (s₁.setTop (entryFrame m #[.ref x] 1)) (T4.setTop (mkF m 18 #[.val (.ref x)] [.int (1 - cd)])) := by
    rcases hc with rfl | rfl
    · exact c5.trans (by
        refine XS.ifNo X4.here hexec rfl (hb hbytes d10) rfl (i0_ne_f rfl) ?_
        refine iconstV X4.here hexec rfl 1 (hb hbytes d13) (by decide) ?_
        refine XS.goto X4.here hexec rfl (pc0 := 14) rfl (hb hbytes d14) (by decide) rfl ?_
        exact Steps.refl _)
    · exact c5.trans (by
        refine XS.ifYes X4.here hexec rfl (pc0 := 10) rfl (hb hbytes d10) rfl (i0_ne_t (by decide)) (by decide) rfl ?_
        refine iconstV X4.here hexec rfl 0 (hb hbytes d17) (by decide) ?_
        exact Steps.refl _)
  exact ⟨T4, some (.int (1 - cd)), _, _, _, X4, rfl, rfl, rfl, (fun h => by cases h), ⟨rfl, q4.trans hh2⟩, fun fs hl => c6.trans (X4.ireturnOut hexec hret (by rcases hc with rfl | rfl <;> rfl) (Or.inr (Or.inl rfl)) (hb hbytes d18) hl)⟩
end IsL
namespace LChA
def yN : MethodName := ⟨"java/lang/StringLatin1", "charAt", "([BI)C"⟩
abbrev yB : ByteArray := jdk_43_method_2_code
theorem d0 : decode yB 0 = .ok (.iload_n 1, 1) := by decide +kernel
theorem d1 : decode yB 1 = .ok (.aload_n 0, 1) := by decide +kernel
theorem d2 : decode yB 2 = .ok (.arraylength, 1) := by decide +kernel
theorem d3 : decode yB 3 = .ok (.invokestatic 9, 3) := by decide +kernel
theorem d6 : decode yB 6 = .ok (.aload_n 0, 1) := by decide +kernel
theorem d7 : decode yB 7 = .ok (.iload_n 1, 1) := by decide +kernel
theorem d8 : decode yB 8 = .ok (.baload, 1) := by decide +kernel
theorem d9 : decode yB 9 = .ok (.sipush 255, 3) := by decide +kernel
theorem d12 : decode yB 12 = .ok (.iand, 1) := by decide +kernel
theorem d13 : decode yB 13 = .ok (.i2c, 1) := by decide +kernel
theorem d14 : decode yB 14 = .ok (.ireturn, 1) := by decide +kernel
def site : List Cond := [JO.Str_checkIndex.tab] ++ staticW "java/lang/StringLatin1" 9 JO.Str_checkIndex.yN
def tab : Cond := tabOf yN yB 2 (some .char) site
def P (t : Addr) (V : Cell) (i : Nat) (u : Int32) (fm : Value) (args : Array Value) (s : State) : Prop := args = #[.ref t, .int (Int32.ofNat i)] ∧ XT.Arr .byte t V s ∧ V.slots[i]? = some (.int u) ∧ (StaticIs s "jdk/internal/util/Preconditions" "SIOOBE_FORMATTER" "Ljava/util/function/BiFunction;" fm ∧ fm.isRef = true)
def E (u : Int32) (r : Option Value) (s w : State) : Prop := XT.PureE (some (.int (chr8 u))) r s w
theorem law (l : Launch) (t : Addr) (V : Cell) (i : Nat) (u : Int32) (fm : Value) : Law l yN 2 2 2 27 yB 2 (some .char) site (P t V i u fm) (E u) [] 0 0 := by
  refine Law.of_walk (plainFor_of_name (by decide +kernel)) (by decide +kernel) (by decide +kernel) (by decide) (fun _ _ h => by rw [h.1]; rfl) (fun _ U U' hal hh h => ⟨h.1, h.2.1.mv hal hh, h.2.2.1, h.2.2.2.1.there hal hh, h.2.2.2.2⟩) (fun r U U' V V' h1 hal h2 h => XT.PureE.mv r U U' V V' h1 hal h2 h) ?_
  intro p e s m args below meth c s₁ X0 hexec hbytes hml hret hlk hnm hown hh0 W hP
  obtain ⟨rfl, hV, hu, s1, rf⟩ := hP
  have v31 := hV.2.2.2
  have hi : i < V.slots.size := (Array.getElem?_eq_some_iff.mp hu).1
  have c1 : Steps p.tables e below (s₁.setTop (entryFrame m #[.ref t, .int (Int32.ofNat i)] 2)) (s₁.setTop (mkF m 0 #[.val (.ref t), .val (.int (Int32.ofNat i))] [])) := entry rfl
  have c2 : Steps p.tables e below (s₁.setTop (entryFrame m #[.ref t, .int (Int32.ofNat i)] 2)) (s₁.setTop (mkF m 3 #[.val (.ref t), .val (.int (Int32.ofNat i))] [.int (Int32.ofNat V.slots.size), .int (Int32.ofNat i)])) := c1.trans (by
    refine XS.iloadN X0.here hexec rfl (hb hbytes d0) rfl ?_
    refine XS.aloadN X0.here hexec rfl (hb hbytes d1) rfl rfl ?_
    refine X0.alen hexec (hV.mv X0.warmed.alike hh0) rfl rfl (hb hbytes d2) ?_
    exact Steps.refl _)
  obtain ⟨v3, T3, X3, E3, g3⟩ := X0.callS hexec (JO.Str_checkIndex.law l (Int32.ofNat i) (Int32.ofNat V.slots.size) fm) hown (wks W (staticW "java/lang/StringLatin1" 9 JO.Str_checkIndex.yN)) (wk W JO.Str_checkIndex.tab) (W := 0) (Nat.le_of_ble_eq_true rfl) (Nat.le_of_ble_eq_true rfl) (Nat.le_refl _) (Nat.le_refl _) (g := (mkF m 3 #[.val (.ref t), .val (.int (Int32.ofNat i))] [.int (Int32.ofNat V.slots.size), .int (Int32.ofNat i)])) rfl (by rw [hml]; rfl) c2 (argsL := [.int (Int32.ofNat i), .int (Int32.ofNat V.slots.size)]) (rest := []) rfl rfl (by show 2 * 0 + 0 ≤ _; decide) (hb hbytes d3) (⟨rfl, rf, s1.there X0.warmed.alike hh0, Int32.ofNat_not_neg (by omega), lt32 v31 hi⟩)
  obtain ⟨rfl, q3⟩ := E3
  have hh3 := q3.trans hh0
  have c4 : Steps p.tables e below (s₁.setTop (entryFrame m #[.ref t, .int (Int32.ofNat i)] 2)) (T3.setTop (mkF m 14 #[.val (.ref t), .val (.int (Int32.ofNat i))] [.int (chr8 u)])) := Steps.trans g3 (by
    refine XS.aloadN X3.here hexec rfl (hb hbytes d6) rfl rfl ?_
    refine XS.iloadN X3.here hexec rfl (hb hbytes d7) rfl ?_
    refine X3.aget hexec (hV.mv X3.warmed.alike hh3) rfl hu rfl rfl (hb hbytes d8) ?_
    refine sipushV X3.here hexec rfl 255 (hb hbytes d9) (by decide) ?_
    refine XS.iand X3.here hexec rfl (hb hbytes d12) rfl ?_
    refine i2c X3.here hexec rfl (hb hbytes d13) rfl ?_
    exact Steps.refl _)
  exact ⟨T3, some (.int (chr8 u)), _, _, _, X3, rfl, rfl, rfl, (fun h => by cases h), ⟨rfl, hh3⟩, fun fs hl => c4.trans (X3.ireturnOut hexec hret (narrow_c _) (Or.inr (Or.inr (Or.inr (Or.inl rfl)))) (hb hbytes d14) hl)⟩
end LChA
end StrChars
namespace StrChars.Road
open Jvm Sem ClassFile Op Lib Jvm.Stand Jvm.Free Jvm.Free.XT
open Jvm.Lib.Cold (StaticIs)
theorem consq {a : Array Value} {s : State} {c : Jvm.Cond} {L : List Jvm.Cond} (h0 : c.before a s = true) (h : ∀ w ∈ L, w.before a s = true) : ∀ w ∈ c :: L, w.before a s = true := fun w hw => (List.mem_cons.mp hw).elim (fun e => e ▸ h0) (h w)
/-- the words of String.length(), either coding -/
abbrev wordsLen : List Jvm.Cond := [.code Len.yN Len.yB 1 (some .int), .initialized ST, .fieldLink ST 9 ST "value" "[B", .fieldLink ST 38 ST "COMPACT_STRINGS" "Z", .fieldLink ST 15 ST "coder" "B", .code Cdr.yN Cdr.yB 1 (some .byte), .methodLink ST 335 Cdr.yN, .declares Cdr.yN, .selects ST Cdr.yN Cdr.yN, .instanceMethod Cdr.yN]
theorem tabLen_of {a : Array Value} {s : State} (h : ∀ w ∈ wordsLen, w.before a s = true) : Len.tab.before a s = true := by
  have hc : Cdr.tab.before a s = true := unparts (wk h (.code Cdr.yN Cdr.yB 1 (some .byte))) (wks h (.initialized Cdr.yN.cls :: Cdr.site))
  have q := consq hc h
  exact unparts (wk q (.code Len.yN Len.yB 1 (some .int))) (wks q (.initialized Len.yN.cls :: Len.site))
theorem movedLen {Z s : State} {a0 args : Array Value} (hZ : Z.Warmed39 s.vm) (hw : ∀ d ∈ wordsLen, d.before a0 Z = true) : ∀ d ∈ wordsLen, d.before args s = true := fun d hd => by
  have q := hw d hd
  have t : ∀ d ∈ wordsLen, d = .arrayClass .byte ∨ (d.onTables && d.keepsFace) = true := by decide +kernel
  rcases t d hd with rfl | t
  · exact RoadKit.mvA hZ q
  · exact RoadKit.mv hZ q t
/-- the bytes of the chars cs, low before high -/
def wideBytes : List Int32 → List Value
  | [] => []
  | c :: cs => .int (lo8 c) :: .int (hi8 c) :: wideBytes cs
theorem wide_lo (d : Value) : ∀ (cs : List Int32) (j : Nat), j < cs.length → (wideBytes cs).getD (2 * j) d = .int (lo8 (cs.getD j 0))
  | [], j, h => absurd h (Nat.not_lt_zero j)
  | c :: cs, 0, _ => rfl
  | c :: cs, j + 1, h => by
    have q := wide_lo d cs j (by simpa using h)
    rw [show 2 * (j + 1) = 2 * j + 1 + 1 from by omega]
    simpa [wideBytes] using q
theorem wide_hi (d : Value) : ∀ (cs : List Int32) (j : Nat), j < cs.length → (wideBytes cs).getD (2 * j + 1) d = .int (hi8 (cs.getD j 0))
  | [], j, h => absurd h (Nat.not_lt_zero j)
  | c :: cs, 0, _ => rfl
  | c :: cs, j + 1, h => by
    have q := wide_hi d cs j (by simpa using h)
    rw [show 2 * (j + 1) + 1 = 2 * j + 1 + 1 + 1 from by omega]
    simpa [wideBytes] using q
theorem low_at (d : Value) (cs : List Int32) (j : Nat) (h : j < cs.length) : (cs.map fun c => Value.int (lo8 c)).getD j d = .int (lo8 (cs.getD j 0)) := by
  simp [List.getD_eq_getElem?_getD, h]
/-- an array of N2 bytes vs codes the chars cs by the coder cd -/
def CodA (cs : List Int32) (cd N2 : Int32) (vs : List Value) : Prop := (cd = 0 ∧ N2 = Int32.ofNat cs.length ∧ vs = (cs.map fun c => Value.int (lo8 c)) ∧ ∀ c ∈ cs, ¬ 255 < c) ∨ (cd = 1 ∧ N2 = Int32.ofNat (2 * cs.length) ∧ vs = wideBytes cs ∧ ∃ c ∈ cs, 255 < c)
theorem CodA.cod {cs : List Int32} {cd N2 : Int32} {vs : List Value} {V : Cell} (h : CodA cs cd N2 vs) (hn : 2 * cs.length < 2 ^ 31) (hs : V.slots.size = N2.toNatClampNeg) (hv : RoadKit.Has V vs (.int 0)) : Cod cd cs.length (fun j => cs.getD j 0) V := by
  rcases h with ⟨rfl, rfl, rfl, h⟩ | ⟨rfl, rfl, rfl, c, hc, hw⟩
  · rw [n32 (by omega)] at hs
    exact Or.inl ⟨rfl, hs, fun j hj => ⟨by rw [hv j (by omega), low_at _ _ _ hj], by
      have e : cs.getD j 0 = cs[j] := by simp [List.getD_eq_getElem?_getD, hj]
      show ¬ 255 < cs.getD j 0
      rw [e]; exact h _ (List.getElem_mem _)⟩⟩
  · rw [n32 (by omega)] at hs
    obtain ⟨j, hj, rfl⟩ := List.getElem_of_mem hc
    exact Or.inr ⟨rfl, hs, fun j hj => ⟨by rw [hv _ (by omega), wide_lo _ _ _ hj], by rw [hv _ (by omega), wide_hi _ _ _ hj]⟩, j, hj, by
      have e : cs.getD j 0 = cs[j] := by simp [List.getD_eq_getElem?_getD, hj]
      show 255 < cs.getD j 0
      rw [e]; exact hw⟩
/-- an object of exactly java/lang/String, its two fields found: as the laws ask it -/
theorem strObj {Z U : State} {a0 : Array Value} {kI : Nat} (wi : (Jvm.Cond.instantiable ST kI).before a0 Z = true) (al : Z.vm.Alike U.vm) {x : Addr} {v0 c0 : Value} (E : RoadKit.Exa Z U.heap x ST) (V : RoadKit.Fld Z U.heap x ST "value" "[B" v0) (C : RoadKit.Fld Z U.heap x ST "coder" "B" c0) :
    ∃ (D : Cell) (fV fC : Field), Blank ST x D U ∧ Found ST "value" "[B" fV U ∧ Found ST "coder" "B" fC U ∧ D.slots[fV.slot]? = some v0 ∧ D.slots[fC.slot]? = some c0 ∧ RoadKit.slotOf Z ST "value" "[B" = fV.slot ∧ RoadKit.slotOf Z ST "coder" "B" = fC.slot := by
  obtain ⟨D, cfV, kV, iV, fV, hD, gV, stV, knV, obV, asV, slV⟩ := V
  obtain ⟨D', cfC, kC, iC, fC, hD', gC, stC, -, -, asC, slC⟩ := C
  cases hD.symm.trans hD'
  obtain ⟨D2, kD, e1, e2, e3, e4, e5⟩ := E
  cases hD.symm.trans e1
  obtain ⟨c2, k2, i1, i2, i3, -⟩ := Cond.instantiable_spec wi
  cases e2.symm.trans i1
  cases e3.symm.trans i2
  obtain ⟨kU, u1, u2⟩ := al.2.2 _ _ e3
  exact ⟨D, fV, fC, ⟨hD, ⟨knV, fun q hq => by rw [hq] at obV; cases obV⟩, by rw [al.findClass]; exact e2, kU, u1, by rw [u2]; exact i3, by rw [u2]; exact e5 i3⟩, ⟨SBG.found_only al ⟨cfV, kV, iV, gV⟩, stV⟩, ⟨SBG.found_only al ⟨cfC, kC, iC, gC⟩, stC⟩, slV, slC, by simp [RoadKit.slotOf, gV], by simp [RoadKit.slotOf, gC]⟩
theorem sta_is {Z U : State} (al : Z.vm.Alike U.vm) {C n d : String} {v : Value} (S : RoadKit.Sta Z U.heap C n d v) : StaticIs U C n d v := by
  obtain ⟨cfS, iS, kS, fS, st, cS, t1, t2, t3, t4, t5, t6, t7⟩ := S
  exact StaticIs.there (s := { Z with heap := U.heap }) ⟨cfS, iS, kS, fS, st, cS, t1, t2, t3, t4, t5, (fun q => by rw [q] at t6; cases t6), t7⟩ al rfl
/-- **length() OF SUCH A STRING** -/
theorem lenW {p : Program} {l : Launch} {e : Env} {R : Room} {s : State} {args : Array Value} {below : List Frame} {len W : Nat} {Z : State} {a0 : Array Value} {h : Heap} (hZ : Z.Warmed39 s.vm) (hw : ∀ d ∈ wordsLen, d.before a0 Z = true) {kI : Nat} (wi : (Jvm.Cond.instantiable ST kI).before a0 Z = true)
    {x t : Addr} {kb : ClassId} {cs : List Int32} {cd N2 z : Int32} {vs : List Value} (E : RoadKit.Exa Z h x ST) (V : RoadKit.Fld Z h x ST "value" "[B" (.ref t)) (C : RoadKit.Fld Z h x ST "coder" "B" (.int cd)) (K : RoadKit.Arv Z h t kb .byte N2 vs (.int 0)) (hc : CodA cs cd N2 vs) (hb : ∀ c ∈ cs, ¬ c < 0 ∧ ¬ (65535 : Int32) < c)
    (S : RoadKit.Sta Z h ST "COMPACT_STRINGS" "Z" (.int z)) (hz : ¬ z = 0) (l2 : cs.length ≤ 4000) (hfr : 2 ≤ R.frames) (hlo : W + 25 ≤ R.locals) :
    Back l R p e below s args (⟨"java/lang/String", "length", "()I"⟩ : MethodName) len W (fun P a => a = #[.ref x] ∧ P.U.heap = h ∧ P.cells + 0 ≤ R.cells ∧ P.slots + 0 ≤ R.slots)
      (fun P _ v B => ∃ L, (v = some (.int (Int32.ofNat cs.length)) ∧ L = [] ∧ B.U.heap = h) ∧ B.locs = P.locs ++ L ∧ B.cells = P.cells + 0 ∧ B.slots = P.slots + 0) := by
  obtain ⟨A, K1, K2, K3, K4, K5, K6⟩ := K
  have hcod := hc.cod (by omega) K3 K5
  intro m meth c P g ig mk a X hg hsize hdg hW hn hp'
  obtain ⟨rfl, rfl, r1, r2⟩ := hp'
  have al : Z.vm.Alike P.U.vm := hZ.alike.trans X.warmed.alike
  obtain ⟨D, fV, fC, hB, F1, F2, g1, g2, -, -⟩ := strObj wi al E V C
  have hx : Txt x t A cd cs.length (fun j => cs.getD j 0) P.U := ⟨⟨_, hB.2.2.1, D, hB.1, rfl, by cases q : D.vm <;> first | rfl | exact absurd q (hB.2.1.2 _)⟩, Has.of hB F1 g1, Has.of hB F2 g2, ⟨K1.1, State.isArrayOf_alike al K1.2.1, K1.2.2, by rcases hcod with ⟨-, q, -⟩ | ⟨-, q, -⟩ <;> omega⟩, hcod, fun j hj => by
    have e : cs.getD j 0 = cs[j] := by simp [List.getD_eq_getElem?_getD, hj]
    show ¬ cs.getD j 0 < 0 ∧ ¬ 65535 < cs.getD j 0
    rw [e]; exact hb _ (List.getElem_mem _)⟩
  obtain ⟨v, B, X', ⟨⟨hv, hh⟩, hl, hk, hs⟩, st⟩ := Len.pays x t A cd cs.length (fun j => cs.getD j 0) z (tabLen_of (movedLen hZ hw)) hfr hlo m meth c P g ig mk _ X hg hsize hdg hW hn ⟨r1, r2, rfl, hx, sta_is al S, hz⟩
  exact ⟨v, B, X', ⟨[], ⟨hv, rfl, hh⟩, hl, hk, hs⟩, st⟩
end StrChars.Road
namespace StrChars
open Jvm Sem ClassFile Op Lib Jvm.Stand Jvm.Free.XT Jvm.Free.ALB Jvm.Free.JM Jvm.Free
open Jvm.Lib.Cold (StaticIs)
/-- what place i of a byte[]'s cell holds -/
def yv (A : Cell) (i : Nat) : Int32 := match A.slots[i]? with | some (.int x) => x | _ => 0
theorem yv_get {a : Addr} {A : Cell} {U : State} (h : XT.Arr .byte a A U) (ht : Typed .byte A) {i : Nat} (hi : i < A.slots.size) : A.slots[i]? = some (.int (yv A i)) := by
  have e := Array.getElem?_eq_getElem hi
  have f := ht i _ e
  unfold yv; rw [e]
  generalize A.slots[i] = v at f
  cases v <;> simp [fits] at f ⊢
/-- the two arrays are equal, place for place -/
def EqC (A B : Cell) : Prop := A.slots.size = B.slots.size ∧ ∀ i, i < A.slots.size → yv A i = yv B i
/-- a boolean that says whether p -/
def Says01 (q : Prop) (r : Option Value) (s u : State) : Prop := ∃ v : Int32, r = some (.int v) ∧ u.heap = s.heap ∧ ((v = 1 ∧ q) ∨ (v = 0 ∧ ¬ q))
theorem Says01.mv {q : Prop} : ∀ r (U U' V V' : State), U'.heap = U.heap → V.vm.Alike V'.vm → V'.heap = V.heap → Says01 q r U V → Says01 q r U' V' :=
  fun r U U' V V' h1 _ h2 ⟨v, a, b, c⟩ => ⟨v, a, by rw [h1, h2]; exact b, c⟩
namespace LEq
def yN : MethodName := ⟨"java/lang/StringLatin1", "equals", "([B[B)Z"⟩
abbrev yB : ByteArray := jdk_43_method_13_code
theorem d0 : decode yB 0 = .ok (.aload_n 0, 1) := by decide +kernel
theorem d1 : decode yB 1 = .ok (.arraylength, 1) := by decide +kernel
theorem d2 : decode yB 2 = .ok (.aload_n 1, 1) := by decide +kernel
theorem d3 : decode yB 3 = .ok (.arraylength, 1) := by decide +kernel
theorem d4 : decode yB 4 = .ok (.if_icmp (.ne) 30, 3) := by decide +kernel
theorem d7 : decode yB 7 = .ok (.iconst 0, 1) := by decide +kernel
theorem d8 : decode yB 8 = .ok (.istore_n 2, 1) := by decide +kernel
theorem d9 : decode yB 9 = .ok (.iload_n 2, 1) := by decide +kernel
theorem d10 : decode yB 10 = .ok (.aload_n 0, 1) := by decide +kernel
theorem d11 : decode yB 11 = .ok (.arraylength, 1) := by decide +kernel
theorem d12 : decode yB 12 = .ok (.if_icmp (.ge) 20, 3) := by decide +kernel
theorem d15 : decode yB 15 = .ok (.aload_n 0, 1) := by decide +kernel
theorem d16 : decode yB 16 = .ok (.iload_n 2, 1) := by decide +kernel
theorem d17 : decode yB 17 = .ok (.baload, 1) := by decide +kernel
theorem d18 : decode yB 18 = .ok (.aload_n 1, 1) := by decide +kernel
theorem d19 : decode yB 19 = .ok (.iload_n 2, 1) := by decide +kernel
theorem d20 : decode yB 20 = .ok (.baload, 1) := by decide +kernel
theorem d21 : decode yB 21 = .ok (.if_icmp (.eq) 5, 3) := by decide +kernel
theorem d24 : decode yB 24 = .ok (.iconst 0, 1) := by decide +kernel
theorem d25 : decode yB 25 = .ok (.ireturn, 1) := by decide +kernel
theorem d26 : decode yB 26 = .ok (.iinc 2 1, 3) := by decide +kernel
theorem d29 : decode yB 29 = .ok (.goto (-20), 3) := by decide +kernel
theorem d32 : decode yB 32 = .ok (.iconst 1, 1) := by decide +kernel
theorem d33 : decode yB 33 = .ok (.ireturn, 1) := by decide +kernel
theorem d34 : decode yB 34 = .ok (.iconst 0, 1) := by decide +kernel
theorem d35 : decode yB 35 = .ok (.ireturn, 1) := by decide +kernel
def site : List Cond := []
def tab : Cond := tabOf yN yB 3 (some .boolean) site
def P (a : Addr) (A : Cell) (b : Addr) (B : Cell) (args : Array Value) (s : State) : Prop := args = #[.ref a, .ref b] ∧ XT.Arr .byte a A s ∧ Typed .byte A ∧ XT.Arr .byte b B s ∧ Typed .byte B
/-- whether two byte[] are equal, place for place -/
theorem law (l : Launch) (a : Addr) (A : Cell) (b : Addr) (B : Cell) : Law l yN 2 2 0 0 yB 3 (some .boolean) site (P a A b B) (Says01 (EqC A B)) [] 0 0 := by
  refine Law.of_walk (plainFor_of_name (by decide +kernel)) (by decide +kernel) (by decide +kernel) (by decide) (fun _ _ h => by rw [h.1]; rfl) (fun _ U U' hal hh h => ⟨h.1, h.2.1.mv hal hh, h.2.2.1, h.2.2.2.1.mv hal hh, h.2.2.2.2⟩) (fun r U U' V V' h1 hal h2 h => Says01.mv r U U' V V' h1 hal h2 h) ?_
  intro p e s m args below meth c s₁ X0 hexec hbytes hml hret hlk hnm hown hh0 W hP
  obtain ⟨rfl, hA, tA, hB, tB⟩ := hP
  have a31 := hA.2.2.2
  have b31 := hB.2.2.2
  have hA0 := hA.mv X0.warmed.alike hh0
  have hB0 := hB.mv X0.warmed.alike hh0
  have c1 : Steps p.tables e below (s₁.setTop (entryFrame m #[.ref a, .ref b] 3)) (s₁.setTop (mkF m 0 #[.val (.ref a), .val (.ref b), .unset] [])) := entry rfl
  have c2 : Steps p.tables e below (s₁.setTop (entryFrame m #[.ref a, .ref b] 3)) (s₁.setTop (mkF m 4 #[.val (.ref a), .val (.ref b), .unset] [.int (Int32.ofNat B.slots.size), .int (Int32.ofNat A.slots.size)])) := c1.trans (by
    refine XS.aloadN X0.here hexec rfl (hb hbytes d0) rfl rfl ?_
    refine X0.alen hexec hA0 rfl rfl (hb hbytes d1) ?_
    refine XS.aloadN X0.here hexec rfl (hb hbytes d2) rfl rfl ?_
    refine X0.alen hexec hB0 rfl rfl (hb hbytes d3) ?_
    exact Steps.refl _)
  by_cases hs : A.slots.size = B.slots.size
  · have c3 : Steps p.tables e below (s₁.setTop (entryFrame m #[.ref a, .ref b] 3)) (s₁.setTop (mkF m 9 #[.val (.ref a), .val (.ref b), .val (.int 0)] [])) := c2.trans (by
      refine XS.icmpNo X0.here hexec rfl (hb hbytes d4) rfl (ii_ne_f (by rw [hs])) ?_
      refine iconstV X0.here hexec rfl 0 (hb hbytes d7) (by decide) ?_
      refine XS.istoreN X0.here hexec rfl (hb hbytes d8) rfl rfl ?_
      exact Steps.refl _)
    have loop : ∀ (r i : Nat), i + r = A.slots.size → (∀ j, j < i → yv A j = yv B j) → Steps p.tables e below (s₁.setTop (entryFrame m #[.ref a, .ref b] 3)) (s₁.setTop (mkF m 9 #[.val (.ref a), .val (.ref b), .val (.int (Int32.ofNat i))] [])) → ∃ (pc : Nat) (Ls : Array Slot) (v : Int32), (pc = 25 ∨ pc = 33) ∧ ((v = 1 ∧ EqC A B) ∨ (v = 0 ∧ ¬ EqC A B)) ∧ Steps p.tables e below (s₁.setTop (entryFrame m #[.ref a, .ref b] 3)) (s₁.setTop (mkF m pc Ls [.int v])) := by
      intro r
      induction r with
      | zero =>
        intro i hi he cl
        exact ⟨33, _, 1, Or.inr rfl, Or.inl ⟨rfl, hs, fun j hj => he j (by omega)⟩, cl.trans (by
          refine XS.iloadN X0.here hexec rfl (hb hbytes d9) rfl ?_
          refine XS.aloadN X0.here hexec rfl (hb hbytes d10) rfl rfl ?_
          refine X0.alen hexec hA0 rfl rfl (hb hbytes d11) ?_
          refine XS.icmpYes X0.here hexec rfl (pc0 := 12) rfl (hb hbytes d12) rfl (ii_ge_t (nlt32 (by omega) (by omega))) (by decide) rfl ?_
          refine iconstV X0.here hexec rfl 1 (hb hbytes d32) (by decide) ?_
          exact Steps.refl _)⟩
      | succ r ih =>
        intro i hi he cl
        have c4 : Steps p.tables e below (s₁.setTop (entryFrame m #[.ref a, .ref b] 3)) (s₁.setTop (mkF m 21 #[.val (.ref a), .val (.ref b), .val (.int (Int32.ofNat i))] [.int (yv B i), .int (yv A i)])) := cl.trans (by
          refine XS.iloadN X0.here hexec rfl (hb hbytes d9) rfl ?_
          refine XS.aloadN X0.here hexec rfl (hb hbytes d10) rfl rfl ?_
          refine X0.alen hexec hA0 rfl rfl (hb hbytes d11) ?_
          refine XS.icmpNo X0.here hexec rfl (hb hbytes d12) rfl (ii_ge_f (lt32 (by omega) (by omega))) ?_
          refine XS.aloadN X0.here hexec rfl (hb hbytes d15) rfl rfl ?_
          refine XS.iloadN X0.here hexec rfl (hb hbytes d16) rfl ?_
          refine X0.aget hexec hA0 rfl (yv_get hA tA (i := i) (by omega)) rfl rfl (hb hbytes d17) ?_
          refine XS.aloadN X0.here hexec rfl (hb hbytes d18) rfl rfl ?_
          refine XS.iloadN X0.here hexec rfl (hb hbytes d19) rfl ?_
          refine X0.aget hexec hB0 rfl (yv_get hB tB (i := i) (by omega)) rfl rfl (hb hbytes d20) ?_
          exact Steps.refl _)
        by_cases hv : yv A i = yv B i
        · have c5 : Steps p.tables e below (s₁.setTop (entryFrame m #[.ref a, .ref b] 3)) (s₁.setTop (mkF m 9 #[.val (.ref a), .val (.ref b), .val (.int (Int32.ofNat i + 1))] [])) := c4.trans (by
            refine XS.icmpYes X0.here hexec rfl (pc0 := 21) rfl (hb hbytes d21) rfl (ii_eq_t hv) (by decide) rfl ?_
            refine iincV X0.here hexec rfl 1 (hb hbytes d26) (by decide) rfl rfl ?_
            refine XS.goto X0.here hexec rfl (pc0 := 29) rfl (hb hbytes d29) (by decide) rfl ?_
            exact Steps.refl _)
          rw [succ32] at c5
          exact ih (i + 1) (by omega) (fun j hj => by
            by_cases e : j = i
            · rw [e]; exact hv
            · exact he j (by omega)) c5
        · exact ⟨25, _, 0, Or.inl rfl, Or.inr ⟨rfl, fun q => hv (q.2 i (by omega))⟩, c4.trans (by
            refine XS.icmpNo X0.here hexec rfl (hb hbytes d21) rfl (ii_eq_f hv) ?_
            refine iconstV X0.here hexec rfl 0 (hb hbytes d24) (by decide) ?_
            exact Steps.refl _)⟩
    obtain ⟨pc, Ls, v, hpc, hv, cz⟩ := loop A.slots.size 0 (by omega) (fun j hj => absurd hj (Nat.not_lt_zero j)) c3
    have nv : narrow .boolean (.int v) = .int v := by rcases hv with ⟨rfl, -⟩ | ⟨rfl, -⟩ <;> rfl
    rcases hpc with rfl | rfl
    · exact ⟨s₁, some (.int v), _, _, _, X0, rfl, rfl, rfl, (fun h => by cases h), ⟨v, rfl, hh0, hv⟩, fun fs hl => cz.trans (X0.ireturnOut hexec hret nv (Or.inr (Or.inl rfl)) (hb hbytes d25) hl)⟩
    · exact ⟨s₁, some (.int v), _, _, _, X0, rfl, rfl, rfl, (fun h => by cases h), ⟨v, rfl, hh0, hv⟩, fun fs hl => cz.trans (X0.ireturnOut hexec hret nv (Or.inr (Or.inl rfl)) (hb hbytes d33) hl)⟩
  · have c3 : Steps p.tables e below (s₁.setTop (entryFrame m #[.ref a, .ref b] 3)) (s₁.setTop (mkF m 35 #[.val (.ref a), .val (.ref b), .unset] [.int 0])) := c2.trans (by
      refine XS.icmpYes X0.here hexec rfl (pc0 := 4) rfl (hb hbytes d4) rfl (ii_ne_t (ne32 a31 b31 hs)) (by decide) rfl ?_
      refine iconstV X0.here hexec rfl 0 (hb hbytes d34) (by decide) ?_
      exact Steps.refl _)
    exact ⟨s₁, some (.int 0), _, _, _, X0, rfl, rfl, rfl, (fun h => by cases h), ⟨0, rfl, hh0, Or.inr ⟨rfl, fun q => hs q.1⟩⟩, fun fs hl => c3.trans (X0.ireturnOut hexec hret rfl (Or.inr (Or.inl rfl)) (hb hbytes d35) hl)⟩
end LEq
theorem Cod.ty {cd : Int32} {n : Nat} {f : Nat → Int32} {V : Cell} (h : Cod cd n f V) : Typed .byte V := fun i v hv => by
  have hi : i < V.slots.size := (Array.getElem?_eq_some_iff.mp hv).1
  rcases h with ⟨-, k1, k2⟩ | ⟨-, k1, k2, -⟩
  · rw [(k2 i (by omega)).1] at hv; cases hv; exact fits_lo8 _
  · rcases Nat.mod_two_eq_zero_or_one i with e | e
    · obtain ⟨j, rfl⟩ : ∃ j, i = 2 * j := ⟨i / 2, by omega⟩
      rw [(k2 j (by omega)).1] at hv; cases hv; exact fits_lo8 _
    · obtain ⟨j, rfl⟩ : ∃ j, i = 2 * j + 1 := ⟨i / 2, by omega⟩
      rw [(k2 j (by omega)).2] at hv; cases hv; exact fits_lo8 _
/-- the same text -/
def SameT (n : Nat) (f : Nat → Int32) (k : Nat) (g : Nat → Int32) : Prop := n = k ∧ ∀ j, j < n → f j = g j
theorem lo8_inj {x y : Int32} (h0 : ¬ x < 0) (h1 : ¬ 255 < x) (k0 : ¬ y < 0) (k1 : ¬ 255 < y) (h : lo8 x = lo8 y) : x = y := by
  rw [← lo8_mask h0 h1, ← lo8_mask k0 k1, h]
/-- arrays coded by one coder are equal just where the texts are -/
theorem Cod.eqv {cd : Int32} {n k : Nat} {f g : Nat → Int32} {V V' : Cell} (h : Cod cd n f V) (h' : Cod cd k g V') (hf : ∀ j, j < n → ¬ f j < 0 ∧ ¬ 65535 < f j) (hg : ∀ j, j < k → ¬ g j < 0 ∧ ¬ 65535 < g j) : EqC V V' ↔ SameT n f k g := by
  have yvv : ∀ {W : Cell} {i : Nat} {x : Int32}, W.slots[i]? = some (.int x) → yv W i = x := fun q => by unfold yv; rw [q]
  rcases h with ⟨rfl, k1, k2⟩ | ⟨rfl, k1, k2, -⟩
  · rcases h' with ⟨-, m1, m2⟩ | ⟨e, -⟩
    · constructor
      · rintro ⟨e1, e2⟩
        refine ⟨by omega, fun j hj => ?_⟩
        have q := e2 j (by omega)
        rw [yvv (k2 j hj).1, yvv (m2 j (by omega)).1] at q
        exact lo8_inj (hf j hj).1 (k2 j hj).2 (hg j (by omega)).1 (m2 j (by omega)).2 q
      · rintro ⟨rfl, e2⟩
        refine ⟨by omega, fun j hj => ?_⟩
        rw [yvv (k2 j (by omega)).1, yvv (m2 j (by omega)).1, e2 j (by omega)]
    · exact absurd e (by decide)
  · rcases h' with ⟨e, -⟩ | ⟨-, m1, m2, -⟩
    · exact absurd e (by decide)
    · constructor
      · rintro ⟨e1, e2⟩
        refine ⟨by omega, fun j hj => ?_⟩
        have q1 := e2 (2 * j) (by omega)
        have q2 := e2 (2 * j + 1) (by omega)
        rw [yvv (k2 j hj).1, yvv (m2 j (by omega)).1] at q1
        rw [yvv (k2 j hj).2, yvv (m2 j (by omega)).2] at q2
        rw [← pair_says (hf j hj).1 (hf j hj).2, ← pair_says (hg j (by omega)).1 (hg j (by omega)).2, q1, q2]
      · rintro ⟨rfl, e2⟩
        refine ⟨by omega, fun i hi => ?_⟩
        rcases Nat.mod_two_eq_zero_or_one i with e | e
        · obtain ⟨j, rfl⟩ : ∃ j, i = 2 * j := ⟨i / 2, by omega⟩
          rw [yvv (k2 j (by omega)).1, yvv (m2 j (by omega)).1, e2 j (by omega)]
        · obtain ⟨j, rfl⟩ : ∃ j, i = 2 * j + 1 := ⟨i / 2, by omega⟩
          rw [yvv (k2 j (by omega)).2, yvv (m2 j (by omega)).2, e2 j (by omega)]
/-- two codings differ: so do the texts -/
theorem Cod.dif {cd cd' : Int32} {n k : Nat} {f g : Nat → Int32} {V V' : Cell} (h : Cod cd n f V) (h' : Cod cd' k g V') (hne : ¬ cd = cd') : ¬ SameT n f k g := by
  rintro ⟨rfl, e⟩
  rcases h with ⟨rfl, -, k2⟩ | ⟨rfl, -, -, j, hj, hw⟩
  · rcases h' with ⟨rfl, -⟩ | ⟨-, -, -, j, hj, hw⟩
    · exact hne rfl
    · exact (k2 j hj).2 (by rw [e j hj]; exact hw)
  · rcases h' with ⟨-, -, m2⟩ | ⟨rfl, -⟩
    · exact (m2 j hj).2 (by rw [← e j hj]; exact hw)
    · exact hne rfl
/-- an object of exactly C is an instance of C -/
theorem cinst {p : Program} {l : Launch} {e : Env} {R : Room} {s : State} {m : MethodId} {args : Array Value} {below : List Frame} {meth : Method} {c : Code} {T : State} {locs : List Loc} {cells slots : Nat} (X : Stand p l e R s m args below meth c T locs cells slots) (hexec : p.tables.exec = Jvm.exec) {own C : String} {index : Nat} (hown : s.vm.findClass own = some m.cls) (hlink : (Cond.classLink own index C).before args s = true) {a : Addr} (hE : Exact C a T)
    {g : JFrame} (hg : g.method = m) {rest : List Value} (hstack : g.stack = .ref a :: rest) (hdg : decode c.code g.pc = .ok (.instanceof index, 3)) :
    ∃ T', Stand p l e R s m args below meth c T' locs cells slots ∧ T'.heap = T.heap ∧ ∀ target, Steps p.tables e below (T'.setTop { g with pc := g.pc + 3, stack := .int 1 :: rest }) target → Steps p.tables e below (T.setTop g) target := by
  obtain ⟨cB, h1, D, h2, h3, h4⟩ := hE
  have h1' : s.vm.findClass C = some cB := by rw [← X.warmed.alike.findClass]; exact h1
  obtain ⟨vm', X', st⟩ := X.instanceofYes hexec hown hlink h2 h4 h1' (by rw [h3]; exact Jvm.Free.SB.assignable_self _ _) hg hstack hdg
  exact ⟨_, X', rfl, st⟩
theorem cself {p : Program} {l : Launch} {e : Env} {R : Room} {s : State} {m : MethodId} {args : Array Value} {below : List Frame} {meth : Method} {c : Code} {T : State} {locs : List Loc} {cells slots : Nat} (X : Stand p l e R s m args below meth c T locs cells slots) (hexec : p.tables.exec = Jvm.exec) {own C : String} {index : Nat} (hown : s.vm.findClass own = some m.cls) (hlink : (Cond.classLink own index C).before args s = true) {a : Addr} (hE : Exact C a T)
    {g : JFrame} (hg : g.method = m) {rest : List Value} (hstack : g.stack = .ref a :: rest) (hdg : decode c.code g.pc = .ok (.checkcast index, 3)) :
    ∃ T', Stand p l e R s m args below meth c T' locs cells slots ∧ T'.heap = T.heap ∧ ∀ target, Steps p.tables e below (T'.setTop { g with pc := g.pc + 3, stack := .ref a :: rest }) target → Steps p.tables e below (T.setTop g) target := by
  obtain ⟨cB, h1, D, h2, h3, h4⟩ := hE
  have h1' : s.vm.findClass C = some cB := by rw [← X.warmed.alike.findClass]; exact h1
  obtain ⟨vm', X', st⟩ := X.checkcastYes hexec hown hlink h2 h4 h1' (by rw [h3]; exact Jvm.Free.SB.assignable_self _ _) hg hstack hdg
  exact ⟨_, X', rfl, fun t h => st t (by rw [← hstack] at h; exact h)⟩
namespace SEq
def yN : MethodName := ⟨"java/lang/String", "equals", "(Ljava/lang/Object;)Z"⟩
abbrev yB : ByteArray := jdk_42_method_66_code
theorem d0 : decode yB 0 = .ok (.aload_n 0, 1) := by decide +kernel
theorem d1 : decode yB 1 = .ok (.aload_n 1, 1) := by decide +kernel
theorem d2 : decode yB 2 = .ok (.if_acmp (.ne) 5, 3) := by decide +kernel
theorem d5 : decode yB 5 = .ok (.iconst 1, 1) := by decide +kernel
theorem d6 : decode yB 6 = .ok (.ireturn, 1) := by decide +kernel
theorem d7 : decode yB 7 = .ok (.aload_n 1, 1) := by decide +kernel
theorem d8 : decode yB 8 = .ok (.instanceof 10, 3) := by decide +kernel
theorem d11 : decode yB 11 = .ok (.ifCond (.eq) 43, 3) := by decide +kernel
theorem d14 : decode yB 14 = .ok (.aload_n 1, 1) := by decide +kernel
theorem d15 : decode yB 15 = .ok (.checkcast 10, 3) := by decide +kernel
theorem d18 : decode yB 18 = .ok (.astore_n 2, 1) := by decide +kernel
theorem d19 : decode yB 19 = .ok (.getstatic 38, 3) := by decide +kernel
theorem d22 : decode yB 22 = .ok (.ifCond (.eq) 14, 3) := by decide +kernel
theorem d25 : decode yB 25 = .ok (.aload_n 0, 1) := by decide +kernel
theorem d26 : decode yB 26 = .ok (.getfield 15, 3) := by decide +kernel
theorem d29 : decode yB 29 = .ok (.aload_n 2, 1) := by decide +kernel
theorem d30 : decode yB 30 = .ok (.getfield 15, 3) := by decide +kernel
theorem d33 : decode yB 33 = .ok (.if_icmp (.ne) 21, 3) := by decide +kernel
theorem d36 : decode yB 36 = .ok (.aload_n 0, 1) := by decide +kernel
theorem d37 : decode yB 37 = .ok (.getfield 9, 3) := by decide +kernel
theorem d40 : decode yB 40 = .ok (.aload_n 2, 1) := by decide +kernel
theorem d41 : decode yB 41 = .ok (.getfield 9, 3) := by decide +kernel
theorem d44 : decode yB 44 = .ok (.invokestatic 541, 3) := by decide +kernel
theorem d47 : decode yB 47 = .ok (.ifCond (.eq) 7, 3) := by decide +kernel
theorem d50 : decode yB 50 = .ok (.iconst 1, 1) := by decide +kernel
theorem d51 : decode yB 51 = .ok (.goto 4, 3) := by decide +kernel
theorem d54 : decode yB 54 = .ok (.iconst 0, 1) := by decide +kernel
theorem d55 : decode yB 55 = .ok (.ireturn, 1) := by decide +kernel
def site : List Cond := [.classLink "java/lang/String" 10 "java/lang/String", .fieldLink "java/lang/String" 38 "java/lang/String" "COMPACT_STRINGS" "Z", .fieldLink "java/lang/String" 15 "java/lang/String" "coder" "B", .fieldLink "java/lang/String" 9 "java/lang/String" "value" "[B", LEq.tab] ++ staticW "java/lang/String" 541 LEq.yN
def tab : Cond := tabOf yN yB 3 (some .boolean) site
def P (x t : Addr) (V : Cell) (cd : Int32) (n : Nat) (f : Nat → Int32) (y t' : Addr) (V' : Cell) (cd' : Int32) (k : Nat) (g : Nat → Int32) (z : Int32) (args : Array Value) (s : State) : Prop := args = #[.ref x, .ref y] ∧ Txt x t V cd n f s ∧ Txt y t' V' cd' k g s ∧ StaticIs s "java/lang/String" "COMPACT_STRINGS" "Z" (.int z) ∧ ¬ z = 0
/-- equals(Object) of two Strings: whether the texts are the same -/
theorem law (l : Launch) (x t : Addr) (V : Cell) (cd : Int32) (n : Nat) (f : Nat → Int32) (y t' : Addr) (V' : Cell) (cd' : Int32) (k : Nat) (g : Nat → Int32) (z : Int32) : Law l yN 2 1 1 14 yB 3 (some .boolean) site (P x t V cd n f y t' V' cd' k g z) (Says01 (SameT n f k g)) [] 0 0 := by
  refine Law.of_walk (plainFor_of_name (by decide +kernel)) (by decide +kernel) (by decide +kernel) (by decide) (fun _ _ h => by rw [h.1]; rfl) (fun _ U U' hal hh h => ⟨h.1, h.2.1.mv hal hh, h.2.2.1.mv hal hh, h.2.2.2.1.there hal hh, h.2.2.2.2⟩) (fun r U U' V V' h1 hal h2 h => Says01.mv r U U' V V' h1 hal h2 h) ?_
  intro p e s m args below meth c s₁ X0 hexec hbytes hml hret hlk hnm hown hh0 W hP
  obtain ⟨rfl, hx, hy, s1, hz⟩ := hP
  have c1 : Steps p.tables e below (s₁.setTop (entryFrame m #[.ref x, .ref y] 3)) (s₁.setTop (mkF m 2 #[.val (.ref x), .val (.ref y), .unset] [.ref y, .ref x])) := Steps.trans (entry rfl) (by
    show Steps p.tables e below (s₁.setTop (mkF m 0 #[.val (.ref x), .val (.ref y), .unset] [])) _
    refine XS.aloadN X0.here hexec rfl (hb hbytes d0) rfl rfl ?_
    refine XS.aloadN X0.here hexec rfl (hb hbytes d1) rfl rfl ?_
    exact Steps.refl _)
  by_cases hxy : x = y
  · have c2 : Steps p.tables e below (s₁.setTop (entryFrame m #[.ref x, .ref y] 3)) (s₁.setTop (mkF m 6 #[.val (.ref x), .val (.ref y), .unset] [.int 1])) := c1.trans (by
      refine acmpNo X0.here hexec rfl (hb hbytes d2) rfl rfl rfl (by simp [acmp, hxy]) ?_
      refine iconstV X0.here hexec rfl 1 (hb hbytes d5) (by decide) ?_
      exact Steps.refl _)
    subst hxy
    have ec : cd = cd' := by
      obtain ⟨D, fd, a1, a2, a3⟩ := hx.2.2.1
      obtain ⟨D', fd', b1, b2, b3⟩ := hy.2.2.1
      cases a1.symm.trans b1
      obtain ⟨q1, q2, q3, q4⟩ := a2.1
      obtain ⟨r1, r2, r3, r4⟩ := b2.1
      cases q4.symm.trans r4
      cases a3.symm.trans b3; rfl
    have et : t = t' := by
      obtain ⟨D, fd, a1, a2, a3⟩ := hx.2.1
      obtain ⟨D', fd', b1, b2, b3⟩ := hy.2.1
      cases a1.symm.trans b1
      obtain ⟨q1, q2, q3, q4⟩ := a2.1
      obtain ⟨r1, r2, r3, r4⟩ := b2.1
      cases q4.symm.trans r4
      cases a3.symm.trans b3; rfl
    subst ec et
    have ev : V = V' := by cases hx.2.2.2.1.1.symm.trans hy.2.2.2.1.1; rfl
    subst ev
    have hs : SameT n f k g := (Cod.eqv hx.2.2.2.2.1 hy.2.2.2.2.1 hx.2.2.2.2.2 hy.2.2.2.2.2).mp ⟨rfl, fun _ _ => rfl⟩
    exact ⟨s₁, some (.int 1), _, _, _, X0, rfl, rfl, rfl, (fun h => by cases h), ⟨1, rfl, hh0, Or.inl ⟨rfl, hs⟩⟩, fun fs hl => c2.trans (X0.ireturnOut hexec hret rfl (Or.inr (Or.inl rfl)) (hb hbytes d6) hl)⟩
  · have c2 : Steps p.tables e below (s₁.setTop (entryFrame m #[.ref x, .ref y] 3)) (s₁.setTop (mkF m 8 #[.val (.ref x), .val (.ref y), .unset] [.ref y])) := c1.trans (by
      refine acmpYes X0.here hexec rfl (pc0 := 2) rfl (hb hbytes d2) rfl rfl rfl (by simp [acmp, hxy]) (by decide) rfl ?_
      refine XS.aloadN X0.here hexec rfl (hb hbytes d7) rfl rfl ?_
      exact Steps.refl _)
    obtain ⟨T3, X3, q3, st3⟩ := cinst X0 hexec hown (wk W (.classLink "java/lang/String" 10 "java/lang/String")) (hy.mv X0.warmed.alike hh0).1 (g := (mkF m 8 #[.val (.ref x), .val (.ref y), .unset] [.ref y])) rfl (rest := []) rfl (hb hbytes d8)
    have hh3 := q3.trans hh0
    have c4 : Steps p.tables e below (s₁.setTop (entryFrame m #[.ref x, .ref y] 3)) (T3.setTop (mkF m 15 #[.val (.ref x), .val (.ref y), .unset] [.ref y])) := (c2.trans (st3 _ (Steps.refl _))).trans (by
      refine XS.ifNo X3.here hexec rfl (hb hbytes d11) rfl (i0_eq_f (by decide)) ?_
      refine XS.aloadN X3.here hexec rfl (hb hbytes d14) rfl rfl ?_
      exact Steps.refl _)
    obtain ⟨T5, X5, q5, st5⟩ := cself X3 hexec hown (wk W (.classLink "java/lang/String" 10 "java/lang/String")) (hy.mv X3.warmed.alike hh3).1 (g := (mkF m 15 #[.val (.ref x), .val (.ref y), .unset] [.ref y])) rfl (rest := []) rfl (hb hbytes d15)
    have hh5 := q5.trans hh3
    have c6 : Steps p.tables e below (s₁.setTop (entryFrame m #[.ref x, .ref y] 3)) (T5.setTop (mkF m 19 #[.val (.ref x), .val (.ref y), .val (.ref y)] [])) := (c4.trans (st5 _ (Steps.refl _))).trans (by
      refine XS.astoreN X5.here hexec rfl (hb hbytes d18) rfl rfl rfl ?_
      exact Steps.refl _)
    obtain ⟨T7, X7, q7, st7⟩ := X5.sget hexec hown (wk W (.fieldLink "java/lang/String" 38 "java/lang/String" "COMPACT_STRINGS" "Z")) s1 (fun _ _ h => by rw [hh5]; exact h) (g := (mkF m 19 #[.val (.ref x), .val (.ref y), .val (.ref y)] [])) rfl (hb hbytes d19)
    have hh7 := q7.trans hh5
    have c8 : Steps p.tables e below (s₁.setTop (entryFrame m #[.ref x, .ref y] 3)) (T7.setTop (mkF m 26 #[.val (.ref x), .val (.ref y), .val (.ref y)] [.ref x])) := (c6.trans (st7 _ (Steps.refl _))).trans (by
      refine XS.ifNo X7.here hexec rfl (hb hbytes d22) rfl (i0_eq_f hz) ?_
      refine XS.aloadN X7.here hexec rfl (hb hbytes d25) rfl rfl ?_
      exact Steps.refl _)
    obtain ⟨T9, X9, q9, st9⟩ := X7.hget hexec hown (wk W (.fieldLink "java/lang/String" 15 "java/lang/String" "coder" "B")) (hx.mv X7.warmed.alike hh7).2.2.1 (g := (mkF m 26 #[.val (.ref x), .val (.ref y), .val (.ref y)] [.ref x])) rfl (rest := []) rfl (hb hbytes d26)
    have hh9 := q9.trans hh7
    have c10 : Steps p.tables e below (s₁.setTop (entryFrame m #[.ref x, .ref y] 3)) (T9.setTop (mkF m 30 #[.val (.ref x), .val (.ref y), .val (.ref y)] [.ref y, .int cd])) := (c8.trans (st9 _ (Steps.refl _))).trans (by
      refine XS.aloadN X9.here hexec rfl (hb hbytes d29) rfl rfl ?_
      exact Steps.refl _)
    obtain ⟨T11, X11, q11, st11⟩ := X9.hget hexec hown (wk W (.fieldLink "java/lang/String" 15 "java/lang/String" "coder" "B")) (hy.mv X9.warmed.alike hh9).2.2.1 (g := (mkF m 30 #[.val (.ref x), .val (.ref y), .val (.ref y)] [.ref y, .int cd])) rfl (rest := [.int cd]) rfl (hb hbytes d30)
    have hh11 := q11.trans hh9
    have c12 : Steps p.tables e below (s₁.setTop (entryFrame m #[.ref x, .ref y] 3)) (T11.setTop (mkF m 33 #[.val (.ref x), .val (.ref y), .val (.ref y)] [.int cd', .int cd])) := c10.trans (st11 _ (Steps.refl _))
    by_cases hcd : cd = cd'
    · subst hcd
      have c13 : Steps p.tables e below (s₁.setTop (entryFrame m #[.ref x, .ref y] 3)) (T11.setTop (mkF m 37 #[.val (.ref x), .val (.ref y), .val (.ref y)] [.ref x])) := c12.trans (by
        refine XS.icmpNo X11.here hexec rfl (hb hbytes d33) rfl (ii_ne_f rfl) ?_
        refine XS.aloadN X11.here hexec rfl (hb hbytes d36) rfl rfl ?_
        exact Steps.refl _)
      obtain ⟨T14, X14, q14, st14⟩ := X11.hget hexec hown (wk W (.fieldLink "java/lang/String" 9 "java/lang/String" "value" "[B")) (hx.mv X11.warmed.alike hh11).2.1 (g := (mkF m 37 #[.val (.ref x), .val (.ref y), .val (.ref y)] [.ref x])) rfl (rest := []) rfl (hb hbytes d37)
      have hh14 := q14.trans hh11
      have c15 : Steps p.tables e below (s₁.setTop (entryFrame m #[.ref x, .ref y] 3)) (T14.setTop (mkF m 41 #[.val (.ref x), .val (.ref y), .val (.ref y)] [.ref y, .ref t])) := (c13.trans (st14 _ (Steps.refl _))).trans (by
        refine XS.aloadN X14.here hexec rfl (hb hbytes d40) rfl rfl ?_
        exact Steps.refl _)
      obtain ⟨T16, X16, q16, st16⟩ := X14.hget hexec hown (wk W (.fieldLink "java/lang/String" 9 "java/lang/String" "value" "[B")) (hy.mv X14.warmed.alike hh14).2.1 (g := (mkF m 41 #[.val (.ref x), .val (.ref y), .val (.ref y)] [.ref y, .ref t])) rfl (rest := [.ref t]) rfl (hb hbytes d41)
      have hh16 := q16.trans hh14
      have c17 : Steps p.tables e below (s₁.setTop (entryFrame m #[.ref x, .ref y] 3)) (T16.setTop (mkF m 44 #[.val (.ref x), .val (.ref y), .val (.ref y)] [.ref t', .ref t])) := c15.trans (st16 _ (Steps.refl _))
      obtain ⟨v18, T18, X18, E18, g18⟩ := X16.callS hexec (LEq.law l t V t' V') hown (wks W (staticW "java/lang/String" 541 LEq.yN)) (wk W LEq.tab) (W := 0) (Nat.le_of_ble_eq_true rfl) (Nat.le_of_ble_eq_true rfl) (Nat.le_refl _) (Nat.le_refl _) (g := (mkF m 44 #[.val (.ref x), .val (.ref y), .val (.ref y)] [.ref t', .ref t])) rfl (by rw [hml]; rfl) c17 (argsL := [.ref t, .ref t']) (rest := []) rfl rfl (by show 2 * 0 + 0 ≤ _; decide) (hb hbytes d44) (⟨rfl, hx.2.2.2.1.mv X16.warmed.alike hh16, hx.2.2.2.2.1.ty, hy.2.2.2.1.mv X16.warmed.alike hh16, hy.2.2.2.2.1.ty⟩)
      obtain ⟨v, rfl, q18, hv⟩ := E18
      have iff := Cod.eqv hx.2.2.2.2.1 hy.2.2.2.2.1 hx.2.2.2.2.2 hy.2.2.2.2.2
      rcases hv with ⟨rfl, he⟩ | ⟨rfl, he⟩
      · have c19 : Steps p.tables e below (s₁.setTop (entryFrame m #[.ref x, .ref y] 3)) (T18.setTop (mkF m 55 #[.val (.ref x), .val (.ref y), .val (.ref y)] [.int 1])) := Steps.trans g18 (by
          refine XS.ifNo X18.here hexec rfl (hb hbytes d47) rfl (i0_eq_f (by decide)) ?_
          refine iconstV X18.here hexec rfl 1 (hb hbytes d50) (by decide) ?_
          refine XS.goto X18.here hexec rfl (pc0 := 51) rfl (hb hbytes d51) (by decide) rfl ?_
          exact Steps.refl _)
        exact ⟨T18, some (.int 1), _, _, _, X18, rfl, rfl, rfl, (fun h => by cases h), ⟨1, rfl, q18.trans hh16, Or.inl ⟨rfl, iff.mp he⟩⟩, fun fs hl => c19.trans (X18.ireturnOut hexec hret rfl (Or.inr (Or.inl rfl)) (hb hbytes d55) hl)⟩
      · have c19 : Steps p.tables e below (s₁.setTop (entryFrame m #[.ref x, .ref y] 3)) (T18.setTop (mkF m 55 #[.val (.ref x), .val (.ref y), .val (.ref y)] [.int 0])) := Steps.trans g18 (by
          refine XS.ifYes X18.here hexec rfl (pc0 := 47) rfl (hb hbytes d47) rfl (i0_eq_t rfl) (by decide) rfl ?_
          refine iconstV X18.here hexec rfl 0 (hb hbytes d54) (by decide) ?_
          exact Steps.refl _)
        exact ⟨T18, some (.int 0), _, _, _, X18, rfl, rfl, rfl, (fun h => by cases h), ⟨0, rfl, q18.trans hh16, Or.inr ⟨rfl, fun q => he (iff.mpr q)⟩⟩, fun fs hl => c19.trans (X18.ireturnOut hexec hret rfl (Or.inr (Or.inl rfl)) (hb hbytes d55) hl)⟩
    · have c13 : Steps p.tables e below (s₁.setTop (entryFrame m #[.ref x, .ref y] 3)) (T11.setTop (mkF m 55 #[.val (.ref x), .val (.ref y), .val (.ref y)] [.int 0])) := c12.trans (by
        refine XS.icmpYes X11.here hexec rfl (pc0 := 33) rfl (hb hbytes d33) rfl (ii_ne_t hcd) (by decide) rfl ?_
        refine iconstV X11.here hexec rfl 0 (hb hbytes d54) (by decide) ?_
        exact Steps.refl _)
      exact ⟨T11, some (.int 0), _, _, _, X11, rfl, rfl, rfl, (fun h => by cases h), ⟨0, rfl, hh11, Or.inr ⟨rfl, Cod.dif hx.2.2.2.2.1 hy.2.2.2.2.1 hcd⟩⟩, fun fs hl => c13.trans (X11.ireturnOut hexec hret rfl (Or.inr (Or.inl rfl)) (hb hbytes d55) hl)⟩
theorem pays {l : Launch} {R : Room} {p : Program} {e : Env} {below : List Frame} {s : State} {sargs : Array Value} {len W : Nat} (x t : Addr) (V : Cell) (cd : Int32) (n : Nat) (f : Nat → Int32) (y t' : Addr) (V' : Cell) (cd' : Int32) (k : Nat) (g : Nat → Int32) (z : Int32) (htab : tab.before sargs s = true) (hfr : 2 ≤ R.frames) (hlo : W + 28 ≤ R.locals) :
    Back l R p e below s sargs yN len W (fun A₁ a₁ => A₁.cells + 0 ≤ R.cells ∧ A₁.slots + 0 ≤ R.slots ∧ P x t V cd n f y t' V' cd' k g z a₁ A₁.U) (fun A₁ _ v₁ B₁ => Says01 (SameT n f k g) v₁ A₁.U B₁.U ∧ B₁.locs = A₁.locs ++ [] ∧ B₁.cells = A₁.cells + 0 ∧ B₁.slots = A₁.slots + 0) :=
  (law l x t V cd n f y t' V' cd' k g z).pays htab hfr (by omega)
end SEq
end StrChars
namespace StrChars.Road
open Jvm Sem ClassFile Op Lib Jvm.Stand Jvm.Free Jvm.Free.XT
open Jvm.Lib.Cold (StaticIs)
/-- the words of String.equals(Object) -/
abbrev wordsEq : List Jvm.Cond := [.code SEq.yN SEq.yB 3 (some .boolean), .initialized ST, .classLink ST 10 ST, .fieldLink ST 38 ST "COMPACT_STRINGS" "Z", .fieldLink ST 15 ST "coder" "B", .fieldLink ST 9 ST "value" "[B", .methodLink ST 541 LEq.yN, .static LEq.yN, .code LEq.yN LEq.yB 3 (some .boolean), .initialized "java/lang/StringLatin1"]
theorem tabEq_of {a : Array Value} {s : State} (h : ∀ w ∈ wordsEq, w.before a s = true) : SEq.tab.before a s = true := by
  have hl : LEq.tab.before a s = true := unparts (wk h (.code LEq.yN LEq.yB 3 (some .boolean))) (wks h (.initialized LEq.yN.cls :: LEq.site))
  have q := consq hl h
  exact unparts (wk q (.code SEq.yN SEq.yB 3 (some .boolean))) (wks q (.initialized SEq.yN.cls :: SEq.site))
theorem movedEq {Z s : State} {a0 args : Array Value} (hZ : Z.Warmed39 s.vm) (hw : ∀ d ∈ wordsEq, d.before a0 Z = true) : ∀ d ∈ wordsEq, d.before args s = true := fun d hd => by
  have t : ∀ d ∈ wordsEq, (d.onTables && d.keepsFace) = true := by decide +kernel
  exact RoadKit.mv hZ (hw d hd) (t d hd)
/-- the road's facts of a String, as the laws ask it -/
theorem txt_of {Z U : State} {a0 : Array Value} {kI : Nat} (wi : (Jvm.Cond.instantiable ST kI).before a0 Z = true) (al : Z.vm.Alike U.vm) {x t : Addr} {kb : ClassId} {cs : List Int32} {cd N2 : Int32} {vs : List Value} (E : RoadKit.Exa Z U.heap x ST) (V : RoadKit.Fld Z U.heap x ST "value" "[B" (.ref t)) (C : RoadKit.Fld Z U.heap x ST "coder" "B" (.int cd)) (K : RoadKit.Arv Z U.heap t kb .byte N2 vs (.int 0)) (hc : CodA cs cd N2 vs) (hb : ∀ c ∈ cs, ¬ c < 0 ∧ ¬ (65535 : Int32) < c) (l2 : cs.length ≤ 4000) :
    ∃ A, Txt x t A cd cs.length (fun j => cs.getD j 0) U := by
  obtain ⟨A, K1, K2, K3, K4, K5, K6⟩ := K
  have hcod := hc.cod (by omega) K3 K5
  obtain ⟨D, fV, fC, hB, F1, F2, g1, g2, -, -⟩ := strObj wi al E V C
  exact ⟨A, ⟨_, hB.2.2.1, D, hB.1, rfl, by cases q : D.vm <;> first | rfl | exact absurd q (hB.2.1.2 _)⟩, Has.of hB F1 g1, Has.of hB F2 g2, ⟨K1.1, State.isArrayOf_alike al K1.2.1, K1.2.2, by rcases hcod with ⟨-, q, -⟩ | ⟨-, q, -⟩ <;> omega⟩, hcod, fun j hj => by
    have e : cs.getD j 0 = cs[j] := by simp [List.getD_eq_getElem?_getD, hj]
    show ¬ cs.getD j 0 < 0 ∧ ¬ 65535 < cs.getD j 0
    rw [e]; exact hb _ (List.getElem_mem _)⟩
theorem same_list (cs ds : List Int32) : SameT cs.length (fun j => cs.getD j 0) ds.length (fun j => ds.getD j 0) ↔ cs = ds := by
  constructor
  · rintro ⟨e, q⟩
    refine List.ext_getElem e fun j h1 h2 => ?_
    have := q j h1
    simpa [List.getD_eq_getElem?_getD, h1, h2] using this
  · rintro rfl
    exact ⟨rfl, fun _ _ => rfl⟩
/-- **equals(Object) OF TWO SUCH STRINGS**: 1 just where the chars are the same -/
theorem eqW {p : Program} {l : Launch} {e : Env} {R : Room} {s : State} {args : Array Value} {below : List Frame} {len W : Nat} {Z : State} {a0 : Array Value} {h : Heap} (hZ : Z.Warmed39 s.vm) (hw : ∀ d ∈ wordsEq, d.before a0 Z = true) {kI : Nat} (wi : (Jvm.Cond.instantiable ST kI).before a0 Z = true)
    {x t : Addr} {kb : ClassId} {cs : List Int32} {cd N2 : Int32} {vs : List Value} (E : RoadKit.Exa Z h x ST) (V : RoadKit.Fld Z h x ST "value" "[B" (.ref t)) (C : RoadKit.Fld Z h x ST "coder" "B" (.int cd)) (K : RoadKit.Arv Z h t kb .byte N2 vs (.int 0)) (hc : CodA cs cd N2 vs) (hb : ∀ c ∈ cs, ¬ c < 0 ∧ ¬ (65535 : Int32) < c) (l2 : cs.length ≤ 4000)
    {y t' : Addr} {kb' : ClassId} {ds : List Int32} {cd' N2' : Int32} {vs' : List Value} (E' : RoadKit.Exa Z h y ST) (V' : RoadKit.Fld Z h y ST "value" "[B" (.ref t')) (C' : RoadKit.Fld Z h y ST "coder" "B" (.int cd')) (K' : RoadKit.Arv Z h t' kb' .byte N2' vs' (.int 0)) (hc' : CodA ds cd' N2' vs') (hb' : ∀ c ∈ ds, ¬ c < 0 ∧ ¬ (65535 : Int32) < c) (l2' : ds.length ≤ 4000)
    {z : Int32} (S : RoadKit.Sta Z h ST "COMPACT_STRINGS" "Z" (.int z)) (hz : ¬ z = 0) (hfr : 2 ≤ R.frames) (hlo : W + 28 ≤ R.locals) :
    Back l R p e below s args (⟨"java/lang/String", "equals", "(Ljava/lang/Object;)Z"⟩ : MethodName) len W (fun P a => a = #[.ref x, .ref y] ∧ P.U.heap = h ∧ P.cells + 0 ≤ R.cells ∧ P.slots + 0 ≤ R.slots)
      (fun P _ v B => ∃ L, (((v = some (.int 1) ∧ cs = ds) ∨ (v = some (.int 0) ∧ ¬ cs = ds)) ∧ L = [] ∧ B.U.heap = h) ∧ B.locs = P.locs ++ L ∧ B.cells = P.cells + 0 ∧ B.slots = P.slots + 0) := by
  intro m meth c P g ig mk a X hg hsize hdg hW hn hp'
  obtain ⟨rfl, rfl, r1, r2⟩ := hp'
  have al : Z.vm.Alike P.U.vm := hZ.alike.trans X.warmed.alike
  obtain ⟨A, hx⟩ := txt_of wi al E V C K hc hb l2
  obtain ⟨A', hy⟩ := txt_of wi al E' V' C' K' hc' hb' l2'
  obtain ⟨v, B, X', ⟨⟨w, hv, hh, hq⟩, hl, hk, hs⟩, st⟩ := SEq.pays x t A cd cs.length (fun j => cs.getD j 0) y t' A' cd' ds.length (fun j => ds.getD j 0) z (tabEq_of (movedEq hZ hw)) hfr hlo m meth c P g ig mk _ X hg hsize hdg hW hn ⟨r1, r2, rfl, hx, hy, sta_is al S, hz⟩
  refine ⟨v, B, X', ⟨[], ⟨?_, rfl, hh⟩, hl, hk, hs⟩, st⟩
  rcases hq with ⟨rfl, q⟩ | ⟨rfl, q⟩
  · exact Or.inl ⟨hv, (same_list cs ds).mp q⟩
  · exact Or.inr ⟨hv, fun e => q ((same_list cs ds).mpr e)⟩
end StrChars.Road
namespace StrChars
open Jvm Sem ClassFile Op Lib Jvm.Stand Jvm.Free.XT Jvm.Free.ALB Jvm.Free.JM Jvm.Free
open Jvm.Lib.Cold (StaticIs)
namespace ChN
def yN : MethodName := ⟨"java/lang/String", "charAt", "(I)C"⟩
abbrev yB : ByteArray := jdk_42_method_56_code
theorem d0 : decode yB 0 = .ok (.aload_n 0, 1) := by decide +kernel
theorem d1 : decode yB 1 = .ok (.invokevirtual 492, 3) := by decide +kernel
theorem d4 : decode yB 4 = .ok (.ifCond (.eq) 12, 3) := by decide +kernel
theorem d7 : decode yB 7 = .ok (.aload_n 0, 1) := by decide +kernel
theorem d8 : decode yB 8 = .ok (.getfield 9, 3) := by decide +kernel
theorem d11 : decode yB 11 = .ok (.iload_n 1, 1) := by decide +kernel
theorem d12 : decode yB 12 = .ok (.invokestatic 495, 3) := by decide +kernel
theorem d15 : decode yB 15 = .ok (.ireturn, 1) := by decide +kernel
def site : List Cond := [.fieldLink "java/lang/String" 9 "java/lang/String" "value" "[B", IsL.tab, LChA.tab] ++ virtW "java/lang/String" 492 "java/lang/String" IsL.yN IsL.yN ++ staticW "java/lang/String" 495 LChA.yN
def tab : Cond := tabOf yN yB 2 (some .char) site
def P (x t : Addr) (V : Cell) (n : Nat) (f : Nat → Int32) (z : Int32) (fm : Value) (i : Nat) (args : Array Value) (s : State) : Prop := args = #[.ref x, .int (Int32.ofNat i)] ∧ Txt x t V 0 n f s ∧ i < n ∧ StaticIs s "java/lang/String" "COMPACT_STRINGS" "Z" (.int z) ∧ ¬ z = 0 ∧ StaticIs s "jdk/internal/util/Preconditions" "SIOOBE_FORMATTER" "Ljava/util/function/BiFunction;" fm ∧ fm.isRef = true
def E (f : Nat → Int32) (i : Nat) (r : Option Value) (s u : State) : Prop := XT.PureE (some (.int (f i))) r s u
/-- charAt(i) of a Latin-1 String of n chars, i < n: f i -/
theorem law (l : Launch) (x t : Addr) (V : Cell) (n : Nat) (f : Nat → Int32) (z : Int32) (fm : Value) (i : Nat) : Law l yN 2 1 3 40 yB 2 (some .char) site (P x t V n f z fm i) (E f i) [] 0 0 := by
  refine Law.of_walk (plainFor_of_name (by decide +kernel)) (by decide +kernel) (by decide +kernel) (by decide) (fun _ _ h => by rw [h.1]; rfl) (fun _ U U' hal hh h => ⟨h.1, h.2.1.mv hal hh, h.2.2.1, h.2.2.2.1.there hal hh, h.2.2.2.2.1, h.2.2.2.2.2.1.there hal hh, h.2.2.2.2.2.2⟩) (fun r U U' V V' h1 hal h2 h => XT.PureE.mv r U U' V V' h1 hal h2 h) ?_
  intro p e s m args below meth c s₁ X0 hexec hbytes hml hret hlk hnm hown hh0 W hP
  obtain ⟨rfl, hx, hi, s1, hz, s3, rf⟩ := hP
  have v31 := hx.2.2.2.1.2.2.2
  have hr := hx.2.2.2.2.2 i hi
  have hx0 := hx.mv X0.warmed.alike hh0
  have c1 : Steps p.tables e below (s₁.setTop (entryFrame m #[.ref x, .int (Int32.ofNat i)] 2)) (s₁.setTop (mkF m 1 #[.val (.ref x), .val (.int (Int32.ofNat i))] [.ref x])) := Steps.trans (entry rfl) (by
    show Steps p.tables e below (s₁.setTop (mkF m 0 #[.val (.ref x), .val (.int (Int32.ofNat i))] [])) _
    refine XS.aloadN X0.here hexec rfl (hb hbytes d0) rfl rfl ?_
    exact Steps.refl _)
  obtain ⟨v2, T2, X2, E2, g2⟩ := X0.callV hexec (IsL.law l x 0 z) hown (wks W (virtW "java/lang/String" 492 "java/lang/String" IsL.yN IsL.yN)) rfl (by decide) (wk W IsL.tab) (W := 0) (Nat.le_of_ble_eq_true rfl) (Nat.le_of_ble_eq_true rfl) (Nat.le_refl _) (Nat.le_refl _) (hx0.1.fc X0.warmed.alike) hx0.1.is (g := (mkF m 1 #[.val (.ref x), .val (.int (Int32.ofNat i))] [.ref x])) rfl (by rw [hml]; rfl) c1 (argsL := []) (rest := []) rfl rfl (by show 2 * 0 + 0 ≤ _; decide) (hb hbytes d1) (⟨rfl, hx0.2.2.1, hx.2.2.2.2.1.cd, s1.there X0.warmed.alike hh0, hz⟩)
  obtain ⟨rfl, q2⟩ := E2
  have hh2 := q2.trans hh0
  have hx2 := hx.mv X2.warmed.alike hh2
  obtain ⟨-, k1, k2⟩ | ⟨k0, -⟩ := hx.2.2.2.2.1
  · have c3 : Steps p.tables e below (s₁.setTop (entryFrame m #[.ref x, .int (Int32.ofNat i)] 2)) (T2.setTop (mkF m 8 #[.val (.ref x), .val (.int (Int32.ofNat i))] [.ref x])) := Steps.trans g2 (by
      refine XS.ifNo X2.here hexec rfl (hb hbytes d4) rfl (i0_eq_f (by decide)) ?_
      refine XS.aloadN X2.here hexec rfl (hb hbytes d7) rfl rfl ?_
      exact Steps.refl _)
    obtain ⟨T4, X4, q4, st4⟩ := X2.hget hexec hown (wk W (.fieldLink "java/lang/String" 9 "java/lang/String" "value" "[B")) hx2.2.1 (g := (mkF m 8 #[.val (.ref x), .val (.int (Int32.ofNat i))] [.ref x])) rfl (rest := []) rfl (hb hbytes d8)
    have hh4 := q4.trans hh2
    have c5 : Steps p.tables e below (s₁.setTop (entryFrame m #[.ref x, .int (Int32.ofNat i)] 2)) (T4.setTop (mkF m 12 #[.val (.ref x), .val (.int (Int32.ofNat i))] [.int (Int32.ofNat i), .ref t])) := (c3.trans (st4 _ (Steps.refl _))).trans (by
      refine XS.iloadN X4.here hexec rfl (hb hbytes d11) rfl ?_
      exact Steps.refl _)
    obtain ⟨v6, T6, X6, E6, g6⟩ := X4.callS hexec (LChA.law l t V i (lo8 (f i)) fm) hown (wks W (staticW "java/lang/String" 495 LChA.yN)) (wk W LChA.tab) (W := 0) (Nat.le_of_ble_eq_true rfl) (Nat.le_of_ble_eq_true rfl) (Nat.le_refl _) (Nat.le_refl _) (g := (mkF m 12 #[.val (.ref x), .val (.int (Int32.ofNat i))] [.int (Int32.ofNat i), .ref t])) rfl (by rw [hml]; rfl) c5 (argsL := [.ref t, .int (Int32.ofNat i)]) (rest := []) rfl rfl (by show 2 * 0 + 0 ≤ _; decide) (hb hbytes d12) (⟨rfl, hx.2.2.2.1.mv X4.warmed.alike hh4, (k2 i hi).1, s3.there X4.warmed.alike hh4, rf⟩)
    obtain ⟨rfl, q6⟩ := E6
    rw [chr8_lo8 hr.1 (k2 i hi).2] at g6
    exact ⟨T6, some (.int (f i)), _, _, _, X6, rfl, rfl, rfl, (fun h => by cases h), ⟨rfl, q6.trans hh4⟩, fun fs hl => Steps.trans g6 (X6.ireturnOut hexec hret (narrow_ch hr.1 hr.2) (Or.inr (Or.inr (Or.inr (Or.inl rfl)))) (hb hbytes d15) hl)⟩
  · exact absurd k0 (by decide)
theorem pays {l : Launch} {R : Room} {p : Program} {e : Env} {below : List Frame} {s : State} {sargs : Array Value} {len W : Nat} (x t : Addr) (V : Cell) (n : Nat) (f : Nat → Int32) (z : Int32) (fm : Value) (i : Nat) (htab : tab.before sargs s = true) (hfr : 4 ≤ R.frames) (hlo : W + 53 ≤ R.locals) :
    Back l R p e below s sargs yN len W (fun A₁ a₁ => A₁.cells + 0 ≤ R.cells ∧ A₁.slots + 0 ≤ R.slots ∧ P x t V n f z fm i a₁ A₁.U) (fun A₁ _ v₁ B₁ => E f i v₁ A₁.U B₁.U ∧ B₁.locs = A₁.locs ++ [] ∧ B₁.cells = A₁.cells + 0 ∧ B₁.slots = A₁.slots + 0) :=
  (law l x t V n f z fm i).pays htab hfr (by omega)
end ChN
end StrChars
namespace StrChars.Road
open Jvm Sem ClassFile Op Lib Jvm.Stand Jvm.Free Jvm.Free.XT
open Jvm.Lib.Cold (StaticIs)
/-- the words of String.charAt(int), the Latin-1 road alone -/
abbrev wordsChN : List Jvm.Cond := [.code ChN.yN ChN.yB 2 (some .char), .initialized ST, .fieldLink ST 9 ST "value" "[B", .fieldLink ST 38 ST "COMPACT_STRINGS" "Z", .fieldLink ST 15 ST "coder" "B", .code IsL.yN IsL.yB 1 (some .boolean), .methodLink ST 492 IsL.yN, .declares IsL.yN, .selects ST IsL.yN IsL.yN, .instanceMethod IsL.yN,
  .methodLink ST 495 LChA.yN, .static LChA.yN, .code LChA.yN LChA.yB 2 (some .char), .initialized "java/lang/StringLatin1", .methodLink "java/lang/StringLatin1" 9 JO.Str_checkIndex.yN, .static JO.Str_checkIndex.yN, .code JO.Str_checkIndex.yN JO.Str_checkIndex.yB 2 none,
  .fieldLink ST 1053 "jdk/internal/util/Preconditions" "SIOOBE_FORMATTER" "Ljava/util/function/BiFunction;", .methodLink ST 1059 JC.PreCheck.yN, .static JC.PreCheck.yN, .code JC.PreCheck.yN JC.PreCheck.yB 3 (some .int), .initialized "jdk/internal/util/Preconditions"]
theorem tabChN_of {a : Array Value} {s : State} (h : ∀ w ∈ wordsChN, w.before a s = true) : ChN.tab.before a s = true := by
  have hp : JC.PreCheck.tab.before a s = true := unparts (wk h (.code JC.PreCheck.yN JC.PreCheck.yB 3 (some .int))) (wks h (.initialized JC.PreCheck.yN.cls :: JC.PreCheck.site))
  have qk := consq hp h
  have hk : JO.Str_checkIndex.tab.before a s = true := unparts (wk qk (.code JO.Str_checkIndex.yN JO.Str_checkIndex.yB 2 none)) (wks qk (.initialized JO.Str_checkIndex.yN.cls :: JO.Str_checkIndex.site))
  have ql := consq hk h
  have hl : LChA.tab.before a s = true := unparts (wk ql (.code LChA.yN LChA.yB 2 (some .char))) (wks ql (.initialized LChA.yN.cls :: LChA.site))
  have hi : IsL.tab.before a s = true := unparts (wk h (.code IsL.yN IsL.yB 1 (some .boolean))) (wks h (.initialized IsL.yN.cls :: IsL.site))
  have q := consq hi (consq hl h)
  exact unparts (wk q (.code ChN.yN ChN.yB 2 (some .char))) (wks q (.initialized ChN.yN.cls :: ChN.site))
theorem movedChN {Z s : State} {a0 args : Array Value} (hZ : Z.Warmed39 s.vm) (hw : ∀ d ∈ wordsChN, d.before a0 Z = true) : ∀ d ∈ wordsChN, d.before args s = true := fun d hd => by
  have t : ∀ d ∈ wordsChN, (d.onTables && d.keepsFace) = true := by decide +kernel
  exact RoadKit.mv hZ (hw d hd) (t d hd)
/-- **charAt(i) OF A LATIN-1 STRING**, i < n: the char -/
theorem chN {p : Program} {l : Launch} {e : Env} {R : Room} {s : State} {args : Array Value} {below : List Frame} {len W : Nat} {Z : State} {a0 : Array Value} {h : Heap} (hZ : Z.Warmed39 s.vm) (hw : ∀ d ∈ wordsChN, d.before a0 Z = true) {kI : Nat} (wi : (Jvm.Cond.instantiable ST kI).before a0 Z = true)
    {x t : Addr} {kb : ClassId} {cs : List Int32} {N2 z : Int32} {vs : List Value} {fm : Value} {i : Nat} {j : Int32} (E : RoadKit.Exa Z h x ST) (V : RoadKit.Fld Z h x ST "value" "[B" (.ref t)) (C : RoadKit.Fld Z h x ST "coder" "B" (.int 0)) (K : RoadKit.Arv Z h t kb .byte N2 vs (.int 0)) (hc : CodA cs 0 N2 vs) (hb : ∀ c ∈ cs, ¬ c < 0 ∧ ¬ (65535 : Int32) < c)
    (S : RoadKit.Sta Z h ST "COMPACT_STRINGS" "Z" (.int z)) (hz : ¬ z = 0) (F : RoadKit.Sta Z h "jdk/internal/util/Preconditions" "SIOOBE_FORMATTER" "Ljava/util/function/BiFunction;" fm) (rf : fm.isRef = true) (l2 : cs.length ≤ 4000) (hi : i < cs.length) (hj : j = Int32.ofNat i) (hfr : 4 ≤ R.frames) (hlo : W + 53 ≤ R.locals) :
    Back l R p e below s args (⟨"java/lang/String", "charAt", "(I)C"⟩ : MethodName) len W (fun P a => a = #[.ref x, .int j] ∧ P.U.heap = h ∧ P.cells + 0 ≤ R.cells ∧ P.slots + 0 ≤ R.slots)
      (fun P _ v B => ∃ L, (v = some (.int (cs.getD i 0)) ∧ L = [] ∧ B.U.heap = h) ∧ B.locs = P.locs ++ L ∧ B.cells = P.cells + 0 ∧ B.slots = P.slots + 0) := by
  subst hj
  intro m meth c P g ig mk a X hg hsize hdg hW hn hp'
  obtain ⟨rfl, rfl, r1, r2⟩ := hp'
  have al : Z.vm.Alike P.U.vm := hZ.alike.trans X.warmed.alike
  obtain ⟨A, hx⟩ := txt_of wi al E V C K hc hb l2
  obtain ⟨v, B, X', ⟨⟨hv, hh⟩, hl, hk, hs⟩, st⟩ := ChN.pays x t A cs.length (fun j => cs.getD j 0) z fm i (tabChN_of (movedChN hZ hw)) hfr hlo m meth c P g ig mk _ X hg hsize hdg hW hn ⟨r1, r2, rfl, hx, hi, sta_is al S, hz, sta_is al F, rf⟩
  exact ⟨v, B, X', ⟨[], ⟨hv, rfl, hh⟩, hl, hk, hs⟩, st⟩
/-- what backV says of its String, as the contracts of this text ask it: cs's low bytes, coder 0 -/
theorem codOf {cs : List Int32} {n : Nat} (hn : cs.length = n) (hb : ∀ c ∈ cs, ¬ 255 < c) : CodA cs 0 (Int32.ofNat n) ((cs.map lo8).map Value.int) := Or.inl ⟨rfl, by rw [hn], by simp [List.map_map, Function.comp_def], hb⟩
end StrChars.Road
end Jvm.Pilot.@@N@@
namespace Jvm.Pilot.@@N@@
open Jvm Jvm.ClassFile Sem Op Lib Jvm.Free Jvm.Stand Jvm.LawKit Jvm.RoadKit Bundle Jvm.Pilot.@@N@@.Jvm.D
section Own
variable {p : Program} {l : Launch} {e : Env} {R : Room} {s : State} {m : MethodId} {args : Array Value} {below : List Frame} {meth : Method} {c : Code} {T : State} {locs : List Loc} {cells slots : Nat} {Z : State} {a0 : Array Value} {h : Heap}
/-- from U the run comes to the method's end, and P holds there -/
def OGo (p : Program) (e : Env) (below : List Frame) (U : State) (P : State → Outcome → Prop) : Prop :=
  ∃ t o, Steps p.tables e below U t ∧ t.status = .running ∧ Ended t below o ∧ P t o
theorem OGo.step {U U' : State} {P : State → Outcome → Prop} (k : ∀ t, Steps p.tables e below U' t → Steps p.tables e below U t) (g : OGo p e below U' P) : OGo p e below U P := by
  obtain ⟨t, o, h1, h2⟩ := g
  exact ⟨t, o, k t h1, h2⟩
def OEnd (s : State) (Q : Option Value → Heap → List Loc → Prop) (kc ks : Nat) (t : State) (o : Outcome) : Prop :=
  ∃ v L, o = .returned v ∧ Q v t.heap L ∧ FrameEnd s o t L kc ks
/-- the contract of one body, at one array of arguments and one heap -/
abbrev OMet (l : Launch) (Z : State) (y : MethodName) (bytes : ByteArray) (maxL : Nat) (ret : Option FieldType) (ws : List Jvm.Cond) (rm : Room) (as' : Array Value) (h0 : Heap) (Q : Option Value → Heap → List Loc → Prop) : Prop :=
  MetFree l y (head1 (Jvm.Cond.code y bytes maxL ret :: ws) rm) (fun a U => a = as' ∧ Z.Warmed39 U.vm ∧ U.heap = h0) (fun _ _ _ _ _ => True) (fun _ U o U' => ∃ v L, o = .returned v ∧ Q v U'.heap L ∧ FrameEnd U o U' L rm.cells rm.slots)
theorem OMet.body {y : MethodName} {bytes : ByteArray} {maxL : Nat} {ret : Option FieldType} {ws : List Jvm.Cond} {rm : Room} {as' : Array Value} {h0 : Heap} {Q : Option Value → Heap → List Loc → Prop} (hpn : plainFor y = true)
    (b : ∀ (p : Program) (e : Env) (s : State) (m : MethodId) (below : List Frame) (meth : Method) (c : Code) (s₁ : State), p.tables.exec = Jvm.exec → c.code = bytes → c.maxLocals = maxL → s.vm.findClass y.cls = some m.cls → meth.name = y.name → meth.sig.returnType = ret → meth.locks = false → Z.Warmed39 s.vm →
      Stand p l e rm s m as' below meth c s₁ [] 0 0 → s₁.heap = h0 → OGo p e below (s₁.setTop (entryFrame m as' maxL)) (OEnd s Q rm.cells rm.slots)) : OMet l Z y bytes maxL ret ws rm as' h0 Q := by
  refine MetFree.of_bodySF hpn hisR ?_
  intro p e s m args below meth c s₁ Bd hml0 hP hK
  obtain ⟨rfl, hZ, hh⟩ := hP
  exact b p e s m below meth c s₁ Bd.exec Bd.bytes hml0 (findClass_of_methodNamed Bd.named) (name_of_methodNamed Bd.named Bd.method).1 Bd.returns Bd.notSynchronized hZ (Stand.of_body Bd) (by rw [← hh, Bd.state]; rfl)
theorem own_ret (X : Stand p l e R s m args below meth c T locs cells slots) (hx : p.tables.exec = Jvm.exec) (hlk : meth.locks = false) {pc : Nat} {Ls : Array Slot} {w : Value} {t : FieldType} {i : Instr} {rest : List Value} (hret : meth.sig.returnType = some t) (hn : narrow t w = w)
    (hi : (i = .ireturn ∧ (t = .int ∨ t = .boolean ∨ t = .byte ∨ t = .char ∨ t = .short) ∧ ∃ z, w = .int z) ∨ (i = .lreturn ∧ t = .long ∧ ∃ z, w = .long z) ∨ (i = .dreturn ∧ t = .double ∧ ∃ z, w = .double z) ∨ (i = .freturn ∧ t = .float ∧ ∃ z, w = .float z) ∨ (i = .areturn ∧ t.isReference = true ∧ w.isRef = true))
    (hd : decode c.code pc = .ok (i, 1)) {Q : Option Value → Heap → List Loc → Prop} {kc ks : Nat} (hQ : Q (some w) T.heap locs) (h1 : cells ≤ kc) (h2 : slots ≤ ks) : OGo p e below (T.setTop (mkF m pc Ls (w :: rest))) (OEnd s Q kc ks) := by
  obtain ⟨fs, hr, hrun, hended, hW, hsame⟩ := X.leave (v := some w) (fun h => by rw [hret] at h; cases h) hlk
  exact ⟨_, _, retOut X hx hret hn hi hd hr, hrun, hended, _, _, rfl, hQ, ⟨_, rfl⟩, hW, hsame.mono h1 h2⟩
theorem own_retN (X : Stand p l e R s m args below meth c T locs cells slots) (hx : p.tables.exec = Jvm.exec) (hlk : meth.locks = false) {pc : Nat} {Ls : Array Slot} {z : Int32} {t : FieldType} {rest : List Value} (hret : meth.sig.returnType = some t) (ht : t = .boolean ∨ t = .byte ∨ t = .char ∨ t = .short)
    (hd : decode c.code pc = .ok (.ireturn, 1)) {Q : Option Value → Heap → List Loc → Prop} {kc ks : Nat} (hQ : Q (some (.int (nar t z))) T.heap locs) (h1 : cells ≤ kc) (h2 : slots ≤ ks) : OGo p e below (T.setTop (mkF m pc Ls (.int z :: rest))) (OEnd s Q kc ks) := by
  obtain ⟨fs, hr, hrun, hended, hW, hsame⟩ := X.leave (v := some (.int (nar t z))) (fun h => by rw [hret] at h; cases h) hlk
  exact ⟨_, _, retN X hx hret ht hd hr, hrun, hended, _, _, rfl, hQ, ⟨_, rfl⟩, hW, hsame.mono h1 h2⟩
theorem own_ret0 (X : Stand p l e R s m args below meth c T locs cells slots) (hx : p.tables.exec = Jvm.exec) (hlk : meth.locks = false) {pc : Nat} {Ls : Array Slot} (hret : meth.sig.returnType = none)
    (hd : decode c.code pc = .ok (.return_, 1)) {Q : Option Value → Heap → List Loc → Prop} {kc ks : Nat} (hQ : Q none T.heap locs) (h1 : cells ≤ kc) (h2 : slots ≤ ks) : OGo p e below (T.setTop (mkF m pc Ls [])) (OEnd s Q kc ks) := by
  obtain ⟨fs, hr, hrun, hended, hW, hsame⟩ := X.leave (v := none) (fun _ => rfl) hlk
  exact ⟨_, _, X.returnOut hx hret hd hr, hrun, hended, _, _, rfl, hQ, ⟨_, rfl⟩, hW, hsame.mono h1 h2⟩
/-- who pays a call: at these arguments and this heap -/
abbrev OBack (l : Launch) (R : Room) (p : Program) (e : Env) (below : List Frame) (s : State) (args : Array Value) (y : MethodName) (len W : Nat) (as' : Array Value) (h : Heap) (kc ks : Nat) (Q : Option Value → Heap → List Loc → Prop) : Prop :=
  Back l R p e below s args y len W (fun P a => a = as' ∧ P.U.heap = h ∧ P.cells + kc ≤ R.cells ∧ P.slots + ks ≤ R.slots) (fun P _ v B => ∃ L, Q v B.U.heap L ∧ B.locs = P.locs ++ L ∧ B.cells = P.cells + kc ∧ B.slots = P.slots + ks)
/-- a static call by the callee's contract -/
theorem own_callSK (X : Stand p l e R s m args below meth c T locs cells slots) (hx : p.tables.exec = Jvm.exec) (hZ : Z.Warmed39 s.vm) {own : String} {index : Nat} {y : MethodName} {bytes : ByteArray} {maxL : Nat} {ret : Option FieldType}
    (hown : s.vm.findClass own = some m.cls) (w1 : (Jvm.Cond.methodLink own index y).before a0 Z = true) (w2 : (Jvm.Cond.static y).before a0 Z = true) (w3 : (Jvm.Cond.initialized y.cls).before a0 Z = true)
    (w4 : (Jvm.Cond.code y bytes maxL ret).before a0 Z = true) (hy : y.cls ≠ "java/lang/invoke/MethodHandle" ∧ y.cls ≠ "java/lang/invoke/VarHandle")
    {W : Nat} {kc ks : Nat} {argsL rest : List Value} {Q : Option Value → Heap → List Loc → Prop} (hK : OBack l R p e below s args y 3 W argsL.toArray h kc ks Q) (eT : T.heap = h)
    {pc : Nat} {Ls : Array Slot} (hsize : Ls.size = c.maxLocals) (hlen : ∀ sig, parseMethodDescriptor y.desc = some sig → argsL.length = sig.parameters.length) (hW : (rest.map fun v => v.category).sum = W)
    (hd : decode c.code pc = .ok (.invokestatic index, 3)) (hc : cells + kc ≤ R.cells) (hs : slots + ks ≤ R.slots) {P : State → Outcome → Prop}
    (k : ∀ (v : Option Value) (T' : State) (L : List Loc), Stand p l e R s m args below meth c T' (locs ++ L) (cells + kc) (slots + ks) → Q v T'.heap L → OGo p e below (T'.setTop (mkF m (pc + 3) Ls (v.toList ++ rest))) P) :
    OGo p e below (T.setTop (mkF m pc Ls (argsL.reverse ++ rest))) P := by
  obtain ⟨v, vm, ⟨T', L', k', n'⟩, -, X', ⟨L, hQ, l1, y1, z1⟩, st⟩ := Jvm.LawKit.callS X hx (y := y) hown (mvT hZ w1) (mvT hZ w2) (mvT hZ w3) (mvT hZ w4) hy hK (g := mkF m pc Ls (argsL.reverse ++ rest)) rfl hsize (argsL := argsL) (rest := rest) hlen rfl
    (by show 2 * 0 + _ ≤ _; rw [hW]; omega) hd (fun _ _ => ⟨rfl, eT, hc, hs⟩)
  dsimp only [Pt.U, Pt.locs, Pt.cells, Pt.slots] at X' l1 y1 z1 st hQ
  subst l1 y1 z1
  exact OGo.step st (k v T' L X' hQ)
theorem own_callS (X : Stand p l e R s m args below meth c T locs cells slots) (hx : p.tables.exec = Jvm.exec) (hZ : Z.Warmed39 s.vm) {own : String} {index : Nat} {y : MethodName} {bytes : ByteArray} {maxL : Nat} {ret : Option FieldType}
    (hown : s.vm.findClass own = some m.cls) (w1 : (Jvm.Cond.methodLink own index y).before a0 Z = true) (w2 : (Jvm.Cond.static y).before a0 Z = true) (w3 : (Jvm.Cond.initialized y.cls).before a0 Z = true)
    (w4 : (Jvm.Cond.code y bytes maxL ret).before a0 Z = true) (hy : y.cls ≠ "java/lang/invoke/MethodHandle" ∧ y.cls ≠ "java/lang/invoke/VarHandle")
    {W : Nat} {rm : Room} {argsL rest : List Value} {Q : Option Value → Heap → List Loc → Prop} (hM : OMet l Z y bytes maxL ret [] rm argsL.toArray h Q) (eT : T.heap = h)
    {pc : Nat} {Ls : Array Slot} (hsize : Ls.size = c.maxLocals) (hlen : ∀ sig, parseMethodDescriptor y.desc = some sig → argsL.length = sig.parameters.length) (hW : (rest.map fun v => v.category).sum = W)
    (hd : decode c.code pc = .ok (.invokestatic index, 3)) (hf : rm.frames + 1 ≤ R.frames) (hl : W + (maxL + 11) + rm.locals ≤ R.locals) (hc : cells + rm.cells ≤ R.cells) (hs : slots + rm.slots ≤ R.slots) {P : State → Outcome → Prop}
    (k : ∀ (v : Option Value) (T' : State) (L : List Loc), Stand p l e R s m args below meth c T' (locs ++ L) (cells + rm.cells) (slots + rm.slots) → Q v T'.heap L → OGo p e below (T'.setTop (mkF m (pc + 3) Ls (v.toList ++ rest))) P) :
    OGo p e below (T.setTop (mkF m pc Ls (argsL.reverse ++ rest))) P := 
  own_callSK X hx hZ hown w1 w2 w3 w4 hy (backOf (W := W) hM hZ w4 w3 hf hl) eT hsize hlen hW hd hc hs k
/-- a constructor by its contract -/
theorem own_specialK (X : Stand p l e R s m args below meth c T locs cells slots) (hx : p.tables.exec = Jvm.exec) (hZ : Z.Warmed39 s.vm) {own : String} {index : Nat} {y : MethodName} {bytes : ByteArray} {maxL : Nat} (hy1 : y.name = "<init>")
    (hown : s.vm.findClass own = some m.cls) (w1 : (Jvm.Cond.methodLink own index y).before a0 Z = true) (w2 : (Jvm.Cond.instanceMethod y).before a0 Z = true)
    (w4 : (Jvm.Cond.code y bytes maxL none).before a0 Z = true) (hy : y.cls ≠ "java/lang/invoke/MethodHandle" ∧ y.cls ≠ "java/lang/invoke/VarHandle") {a : Addr}
    {W : Nat} {kc ks : Nat} {argsL rest : List Value} {Q : Option Value → Heap → List Loc → Prop} (hK : OBack l R p e below s args y 3 W (.ref a :: argsL).toArray h kc ks Q) (eT : T.heap = h)
    {pc : Nat} {Ls : Array Slot} (hsize : Ls.size = c.maxLocals) (hlen : ∀ sig, parseMethodDescriptor y.desc = some sig → argsL.length = sig.parameters.length) (hW : (rest.map fun v => v.category).sum = W)
    (hd : decode c.code pc = .ok (.invokespecial index, 3)) (hc : cells + kc ≤ R.cells) (hs : slots + ks ≤ R.slots) {P : State → Outcome → Prop}
    (k : ∀ (v : Option Value) (T' : State) (L : List Loc), Stand p l e R s m args below meth c T' (locs ++ L) (cells + kc) (slots + ks) → Q v T'.heap L → OGo p e below (T'.setTop (mkF m (pc + 3) Ls (v.toList ++ rest))) P) :
    OGo p e below (T.setTop (mkF m pc Ls (argsL.reverse ++ .ref a :: rest))) P := by
  obtain ⟨v, vm, ⟨T', L', k', n'⟩, -, X', ⟨L, hQ, l1, y1, z1⟩, st⟩ := X.specialBack hx (y := y) hy1 hown (mvT hZ w1) (mvT hZ w2) (mvT hZ w4) hy hK (g := mkF m pc Ls (argsL.reverse ++ .ref a :: rest)) rfl hsize (Steps.refl _) (a := a) (argsL := argsL) (rest := rest) hlen rfl
    (by show 2 * 0 + _ ≤ _; rw [hW]; omega) hd (fun _ _ => ⟨rfl, eT, hc, hs⟩)
  dsimp only [Pt.U, Pt.locs, Pt.cells, Pt.slots] at X' l1 y1 z1 st hQ
  subst l1 y1 z1
  exact OGo.step (fun _ kk => st.trans kk) (k v T' L X' hQ)
theorem own_special (X : Stand p l e R s m args below meth c T locs cells slots) (hx : p.tables.exec = Jvm.exec) (hZ : Z.Warmed39 s.vm) {own : String} {index : Nat} {y : MethodName} {bytes : ByteArray} {maxL : Nat} (hy1 : y.name = "<init>")
    (hown : s.vm.findClass own = some m.cls) (w1 : (Jvm.Cond.methodLink own index y).before a0 Z = true) (w2 : (Jvm.Cond.instanceMethod y).before a0 Z = true)
    (w4 : (Jvm.Cond.code y bytes maxL none).before a0 Z = true) (w3 : (Jvm.Cond.initialized y.cls).before a0 Z = true) (hy : y.cls ≠ "java/lang/invoke/MethodHandle" ∧ y.cls ≠ "java/lang/invoke/VarHandle") {a : Addr}
    {W : Nat} {rm : Room} {argsL rest : List Value} {Q : Option Value → Heap → List Loc → Prop} (hM : OMet l Z y bytes maxL none [] rm (.ref a :: argsL).toArray h Q) (eT : T.heap = h)
    {pc : Nat} {Ls : Array Slot} (hsize : Ls.size = c.maxLocals) (hlen : ∀ sig, parseMethodDescriptor y.desc = some sig → argsL.length = sig.parameters.length) (hW : (rest.map fun v => v.category).sum = W)
    (hd : decode c.code pc = .ok (.invokespecial index, 3)) (hf : rm.frames + 1 ≤ R.frames) (hl : W + (maxL + 11) + rm.locals ≤ R.locals) (hc : cells + rm.cells ≤ R.cells) (hs : slots + rm.slots ≤ R.slots) {P : State → Outcome → Prop}
    (k : ∀ (v : Option Value) (T' : State) (L : List Loc), Stand p l e R s m args below meth c T' (locs ++ L) (cells + rm.cells) (slots + rm.slots) → Q v T'.heap L → OGo p e below (T'.setTop (mkF m (pc + 3) Ls (v.toList ++ rest))) P) :
    OGo p e below (T.setTop (mkF m pc Ls (argsL.reverse ++ .ref a :: rest))) P := 
  own_specialK X hx hZ hy1 hown w1 w2 w4 hy (backOf (W := W) hM hZ w4 w3 hf hl) eT hsize hlen hW hd hc hs k
/-- an instance method by its contract -/
theorem own_virtualK (X : Stand p l e R s m args below meth c T locs cells slots) (hx : p.tables.exec = Jvm.exec) (hZ : Z.Warmed39 s.vm) {own C : String} {index : Nat} {y z : MethodName}
    (hown : s.vm.findClass own = some m.cls) (w1 : (Jvm.Cond.methodLink own index y).before a0 Z = true) (w2 : (Jvm.Cond.declares y).before a0 Z = true) (hnf : NotFace s y) (w5 : (Jvm.Cond.selects C y z).before a0 Z = true) (w6 : (Jvm.Cond.instanceMethod z).before a0 Z = true)
    (hy : y.cls ≠ "java/lang/invoke/MethodHandle" ∧ y.cls ≠ "java/lang/invoke/VarHandle") {b : Addr} (hb : Exa Z h b C)
    {W : Nat} {kc ks : Nat} {argsL rest : List Value} {Q : Option Value → Heap → List Loc → Prop} (hK : OBack l R p e below s args z 3 W (.ref b :: argsL).toArray h kc ks Q) (eT : T.heap = h)
    {pc : Nat} {Ls : Array Slot} (hsize : Ls.size = c.maxLocals) (hlen : ∀ sig, parseMethodDescriptor y.desc = some sig → argsL.length = sig.parameters.length) (hW : (rest.map fun v => v.category).sum = W)
    (hd : decode c.code pc = .ok (.invokevirtual index, 3)) (hc : cells + kc ≤ R.cells) (hs : slots + ks ≤ R.slots) {P : State → Outcome → Prop}
    (k : ∀ (v : Option Value) (T' : State) (L : List Loc), Stand p l e R s m args below meth c T' (locs ++ L) (cells + kc) (slots + ks) → Q v T'.heap L → OGo p e below (T'.setTop (mkF m (pc + 3) Ls (v.toList ++ rest))) P) :
    OGo p e below (T.setTop (mkF m pc Ls (argsL.reverse ++ .ref b :: rest))) P := by
  obtain ⟨cq, kq, qa, qb, qc⟩ := isOf hZ eT hb
  obtain ⟨v, vm, ⟨T', L', k', n'⟩, -, X', ⟨L, hQ, l1, y1, z1⟩, st⟩ := X.virtualBack hx (y := y) (z := z) hown (mvT hZ w1) (mvT hZ w2) hnf (mvT hZ w5) (mvT hZ w6) hy hK qa qc (g := mkF m pc Ls (argsL.reverse ++ .ref b :: rest)) rfl hsize (Steps.refl _) (argsL := argsL) (rest := rest) hlen rfl
    (by show 2 * 0 + _ ≤ _; rw [hW]; omega) hd (fun _ _ => ⟨rfl, eT, hc, hs⟩)
  dsimp only [Pt.U, Pt.locs, Pt.cells, Pt.slots] at X' l1 y1 z1 st hQ
  subst l1 y1 z1
  exact OGo.step (fun _ kk => st.trans kk) (k v T' L X' hQ)
theorem own_virtual (X : Stand p l e R s m args below meth c T locs cells slots) (hx : p.tables.exec = Jvm.exec) (hZ : Z.Warmed39 s.vm) {own C : String} {index : Nat} {y z : MethodName} {bytes : ByteArray} {maxL : Nat} {ret : Option FieldType}
    (hown : s.vm.findClass own = some m.cls) (w1 : (Jvm.Cond.methodLink own index y).before a0 Z = true) (w2 : (Jvm.Cond.declares y).before a0 Z = true) (hnf : NotFace s y) (w5 : (Jvm.Cond.selects C y z).before a0 Z = true) (w6 : (Jvm.Cond.instanceMethod z).before a0 Z = true)
    (hy : y.cls ≠ "java/lang/invoke/MethodHandle" ∧ y.cls ≠ "java/lang/invoke/VarHandle") (w4 : (Jvm.Cond.code z bytes maxL ret).before a0 Z = true) (w3 : (Jvm.Cond.initialized z.cls).before a0 Z = true) {b : Addr} (hb : Exa Z h b C)
    {W : Nat} {rm : Room} {argsL rest : List Value} {Q : Option Value → Heap → List Loc → Prop} (hM : OMet l Z z bytes maxL ret [] rm (.ref b :: argsL).toArray h Q) (eT : T.heap = h)
    {pc : Nat} {Ls : Array Slot} (hsize : Ls.size = c.maxLocals) (hlen : ∀ sig, parseMethodDescriptor y.desc = some sig → argsL.length = sig.parameters.length) (hW : (rest.map fun v => v.category).sum = W)
    (hd : decode c.code pc = .ok (.invokevirtual index, 3)) (hf : rm.frames + 1 ≤ R.frames) (hl : W + (maxL + 11) + rm.locals ≤ R.locals) (hc : cells + rm.cells ≤ R.cells) (hs : slots + rm.slots ≤ R.slots) {P : State → Outcome → Prop}
    (k : ∀ (v : Option Value) (T' : State) (L : List Loc), Stand p l e R s m args below meth c T' (locs ++ L) (cells + rm.cells) (slots + rm.slots) → Q v T'.heap L → OGo p e below (T'.setTop (mkF m (pc + 3) Ls (v.toList ++ rest))) P) :
    OGo p e below (T.setTop (mkF m pc Ls (argsL.reverse ++ .ref b :: rest))) P := 
  own_virtualK X hx hZ hown w1 w2 hnf w5 w6 hy hb (backOf (W := W) hM hZ w4 w3 hf hl) eT hsize hlen hW hd hc hs k
/-- an instance method that an ancestor declares, by its contract -/
theorem own_virtualUpK (X : Stand p l e R s m args below meth c T locs cells slots) (hx : p.tables.exec = Jvm.exec) (hZ : Z.Warmed39 s.vm) {own C owner : String} {index : Nat} {y z : MethodName}
    (hown : s.vm.findClass own = some m.cls) (w1 : (Jvm.Cond.methodLink own index y).before a0 Z = true) (w7 : (Jvm.Cond.sameMethod y.cls owner y.name y.desc).before a0 Z = true) (w2 : (Jvm.Cond.declares ⟨owner, y.name, y.desc⟩).before a0 Z = true) (w5 : (Jvm.Cond.selects C y z).before a0 Z = true) (w6 : (Jvm.Cond.instanceMethod z).before a0 Z = true)
    (hy : owner ≠ "java/lang/invoke/MethodHandle" ∧ owner ≠ "java/lang/invoke/VarHandle") {b : Addr} (hb : Exa Z h b C)
    {W : Nat} {kc ks : Nat} {argsL rest : List Value} {Q : Option Value → Heap → List Loc → Prop} (hK : OBack l R p e below s args z 3 W (.ref b :: argsL).toArray h kc ks Q) (eT : T.heap = h)
    {pc : Nat} {Ls : Array Slot} (hsize : Ls.size = c.maxLocals) (hlen : ∀ sig, parseMethodDescriptor y.desc = some sig → argsL.length = sig.parameters.length) (hW : (rest.map fun v => v.category).sum = W)
    (hd : decode c.code pc = .ok (.invokevirtual index, 3)) (hc : cells + kc ≤ R.cells) (hs : slots + ks ≤ R.slots) {P : State → Outcome → Prop}
    (k : ∀ (v : Option Value) (T' : State) (L : List Loc), Stand p l e R s m args below meth c T' (locs ++ L) (cells + kc) (slots + ks) → Q v T'.heap L → OGo p e below (T'.setTop (mkF m (pc + 3) Ls (v.toList ++ rest))) P) :
    OGo p e below (T.setTop (mkF m pc Ls (argsL.reverse ++ .ref b :: rest))) P := by
  obtain ⟨cq, kq, qa, qb, qc⟩ := isOf hZ eT hb
  obtain ⟨v, vm, ⟨T', L', k', n'⟩, -, X', ⟨L, hQ, l1, y1, z1⟩, st⟩ := X.virtualBackUp hx (x := y) (y := z) hown (mvT hZ w1) (mvT hZ w7) (mvT hZ w2) hy (mvT hZ w5) (mvT hZ w6) hK qa qc (g := mkF m pc Ls (argsL.reverse ++ .ref b :: rest)) rfl hsize (Steps.refl _) (argsL := argsL) (rest := rest) hlen rfl
    (by show 2 * 0 + _ ≤ _; rw [hW]; omega) hd (fun _ _ => ⟨rfl, eT, hc, hs⟩)
  dsimp only [Pt.U, Pt.locs, Pt.cells, Pt.slots] at X' l1 y1 z1 st hQ
  subst l1 y1 z1
  exact OGo.step (fun _ kk => st.trans kk) (k v T' L X' hQ)
theorem own_virtualUp (X : Stand p l e R s m args below meth c T locs cells slots) (hx : p.tables.exec = Jvm.exec) (hZ : Z.Warmed39 s.vm) {own C owner : String} {index : Nat} {y z : MethodName} {bytes : ByteArray} {maxL : Nat} {ret : Option FieldType}
    (hown : s.vm.findClass own = some m.cls) (w1 : (Jvm.Cond.methodLink own index y).before a0 Z = true) (w7 : (Jvm.Cond.sameMethod y.cls owner y.name y.desc).before a0 Z = true) (w2 : (Jvm.Cond.declares ⟨owner, y.name, y.desc⟩).before a0 Z = true) (w5 : (Jvm.Cond.selects C y z).before a0 Z = true) (w6 : (Jvm.Cond.instanceMethod z).before a0 Z = true)
    (hy : owner ≠ "java/lang/invoke/MethodHandle" ∧ owner ≠ "java/lang/invoke/VarHandle") (w4 : (Jvm.Cond.code z bytes maxL ret).before a0 Z = true) (w3 : (Jvm.Cond.initialized z.cls).before a0 Z = true) {b : Addr} (hb : Exa Z h b C)
    {W : Nat} {rm : Room} {argsL rest : List Value} {Q : Option Value → Heap → List Loc → Prop} (hM : OMet l Z z bytes maxL ret [] rm (.ref b :: argsL).toArray h Q) (eT : T.heap = h)
    {pc : Nat} {Ls : Array Slot} (hsize : Ls.size = c.maxLocals) (hlen : ∀ sig, parseMethodDescriptor y.desc = some sig → argsL.length = sig.parameters.length) (hW : (rest.map fun v => v.category).sum = W)
    (hd : decode c.code pc = .ok (.invokevirtual index, 3)) (hf : rm.frames + 1 ≤ R.frames) (hl : W + (maxL + 11) + rm.locals ≤ R.locals) (hc : cells + rm.cells ≤ R.cells) (hs : slots + rm.slots ≤ R.slots) {P : State → Outcome → Prop}
    (k : ∀ (v : Option Value) (T' : State) (L : List Loc), Stand p l e R s m args below meth c T' (locs ++ L) (cells + rm.cells) (slots + rm.slots) → Q v T'.heap L → OGo p e below (T'.setTop (mkF m (pc + 3) Ls (v.toList ++ rest))) P) :
    OGo p e below (T.setTop (mkF m pc Ls (argsL.reverse ++ .ref b :: rest))) P := 
  own_virtualUpK X hx hZ hown w1 w7 w2 w5 w6 hy hb (backOf (W := W) hM hZ w4 w3 hf hl) eT hsize hlen hW hd hc hs k
theorem own_cat {v : Value} (q : v.isRef = true) : v.category = 1 := by cases v <;> first | rfl | (simp [Value.isRef] at q)
theorem own_narR {v : Value} {t : FieldType} (q : v.isRef = true) (ht : t.isReference = true := by rfl) : narrow t v = v := by cases v <;> first | (simp [Value.isRef] at q; done) | (cases t <;> first | rfl | (cases ht))
theorem own_fitR {v : Value} {t : FieldType} (q : v.isRef = true) (ht : t.isReference = true := by rfl) : fits t v = true := by cases v <;> first | (simp [Value.isRef] at q; done) | (cases t <;> first | rfl | (cases ht))
theorem own_store1 {l l' : Array Slot} {i : Nat} {v : Value} {o : Slot} (hold : l[i]? = some o) (ho : o = .unset ∨ ∃ w, o = .val w ∧ w.category = 1) (hv : v.category = 1) (hl' : l.setIfInBounds i (.val v) = l' := by rfl) : storeLocals l i v = some l' := by
  rw [XS.store1 hold ho hv, hl']
end Own
theorem own_eqv {args : Array Value} {s : State} {a b : Term} {y : Value} (h : (Jvm.Cond.eq a b).value args s none s [] = some true) (hb : b.eval args s none [] s = some y) : a.eval args s none [] s = some y := by
  cases ha : a.eval args s none [] s with
  | none => simp [Cond.value, ha] at h
  | some x => cases x <;> cases y <;> simp_all [Cond.value]
theorem own_len {args : Array Value} {s : State} {t : Term} {a : Addr} {cl : Cell} {ty : FieldType} {n : Int32} (ev : t.eval args s none [] s = some (.ref a)) (A : Arr s s.heap a cl ty) (h : (Term.length t).eval args s none [] s = some (.int n)) : cl.slots.size < 2 ^ 31 ∧ cl.slots.size.toInt32 = n := by
  have ha : s.arrayAt? a = some cl := Arr.fin (State.WarmedH.refl s).alike A
  by_cases q : cl.slots.size < 2 ^ 31
  · rw [len_f ev ha q] at h
    exact ⟨q, Value.int.inj (Option.some.inj h)⟩
  · simp [Term.eval, ev, ha] at h
    omega
theorem own_elem {args : Array Value} {s : State} {t : Term} {a : Addr} {cl : Cell} {ty : FieldType} {j : Int32} {v : Value} (ev : t.eval args s none [] s = some (.ref a)) (A : Arr s s.heap a cl ty) (h : (Term.elem t (Term.int j)).eval args s none [] s = some v) (hn : ¬ j < 0 := by decide) : cl.slots[j.toNatClampNeg]? = some v := by
  have ha : s.arrayAt? a = some cl := Arr.fin (State.WarmedH.refl s).alike A
  rw [← elem_f ev (Term.int_eval j) ha hn]; exact h
section OwnW
variable {p : Program} {l : Launch} {e : Env} {R : Room} {s : State} {m : MethodId} {args : Array Value} {below : List Frame} {meth : Method} {c : Code} {T : State} {locs : List Loc} {cells slots : Nat} {Z : State} {a0 : Array Value} {h h' : Heap} {EL : List (String × Nat)} {vm0 : Vm}
/-- the contract of one body that may load String constants -/
abbrev OMetW (l : Launch) (Z : State) (EL : List (String × Nat)) (y : MethodName) (bytes : ByteArray) (maxL : Nat) (ret : Option FieldType) (ws : List Jvm.Cond) (rm : Room) (as' : Array Value) (h0 : Heap) (Q : Option Value → Heap → List Loc → Prop) : Prop :=
  MetFree l y (head1 (Jvm.Cond.code y bytes maxL ret :: ws) rm) (fun a U => a = as' ∧ Z.Warmed39 U.vm ∧ U.heap = h0 ∧ CHv Z EL U.vm h0) (fun _ _ _ _ _ => True) (fun _ U o U' => ∃ v L, o = .returned v ∧ Q v U'.heap L ∧ CHr Z EL U.vm U.heap U'.vm U'.heap ∧ ReturnedEndW U o U' L rm.cells rm.slots)
def OEndW (s Z : State) (EL : List (String × Nat)) (Q : Option Value → Heap → List Loc → Prop) (kc ks : Nat) (t : State) (o : Outcome) : Prop :=
  ∃ v L, o = .returned v ∧ Q v t.heap L ∧ CHr Z EL s.vm s.heap t.vm t.heap ∧ ReturnedEndW s o t L kc ks
/-- what a walk that may have interned keeps: the tables at hand, and that what they book stands in the heap at hand -/
def OW (Z s : State) (EL : List (String × Nat)) (vm0 : Vm) (h : Heap) : Prop := (∃ k, s.Since vm0 k ∧ k ≤ h.size) ∧ Z.Warmed39 vm0 ∧ CHr Z EL s.vm s.heap vm0 h
theorem OW.chv (O : OW Z s EL vm0 h) : CHv Z EL vm0 h := O.2.2.1
theorem OW.trans {vm1 : Vm} (O : OW Z s EL vm0 h) (hZ : Z.Warmed39 vm1) {k : Nat} (hS : s.Since vm1 k) (hk : k ≤ h'.size) (C : CHr Z EL vm0 h vm1 h') : OW Z s EL vm1 h' := ⟨⟨k, hS, hk⟩, hZ, O.2.2.trans C⟩
theorem OW.ext (O : OW Z s EL vm0 h) (E : Ext h h') : OW Z s EL vm0 h' := by
  obtain ⟨⟨k, a, b⟩, c, d⟩ := O
  exact ⟨⟨k, a, Nat.le_trans b E.1⟩, c, d.trans (CHr.ext E d.1)⟩
theorem OW.wr {a : Addr} {sl : Nat} {v : Value} (O : OW Z s EL vm0 h) (W : Wr h h' a sl v) (S : Safe Z EL vm0 h a) : OW Z s EL vm0 h' := by
  obtain ⟨⟨k, x, b⟩, c, d⟩ := O
  exact ⟨⟨k, x, by rw [W.size]; exact b⟩, c, d.trans (CHr.wr W S d.1)⟩
theorem OW.keep {ws : List Addr} (O : OW Z s EL vm0 h) (K : Keep h h' ws) (hs : ∀ x ∈ ws, Safe Z EL vm0 h x) : OW Z s EL vm0 h' := by
  obtain ⟨⟨k, x, b⟩, c, d⟩ := O
  exact ⟨⟨k, x, Nat.le_trans b K.1⟩, c, d.trans (CHr.keep K hs d.1)⟩
theorem OW.eq (O : OW Z s EL vm0 h) (q : h' = h) : OW Z s EL vm0 h' := q ▸ O
theorem OMetW.body {y : MethodName} {bytes : ByteArray} {maxL : Nat} {ret : Option FieldType} {ws : List Jvm.Cond} {rm : Room} {as' : Array Value} {h0 : Heap} {Q : Option Value → Heap → List Loc → Prop} (hpn : plainFor y = true)
    (b : ∀ (p : Program) (e : Env) (s : State) (m : MethodId) (below : List Frame) (meth : Method) (c : Code) (s₁ : State), p.tables.exec = Jvm.exec → c.code = bytes → c.maxLocals = maxL → (s.setVm s.vm).vm.findClass y.cls = some m.cls → meth.name = y.name → meth.sig.returnType = ret → meth.locks = false → Z.Warmed39 (s.setVm s.vm).vm →
      Stand p l e rm (s.setVm s.vm) m as' below meth c s₁ [] 0 0 → s₁.heap = h0 → OW Z s EL s.vm h0 → OGo p e below (s₁.setTop (entryFrame m as' maxL)) (OEndW s Z EL Q rm.cells rm.slots)) : OMetW l Z EL y bytes maxL ret ws rm as' h0 Q := by
  refine MetFree.of_bodySF hpn hisR ?_
  intro p e s m args below meth c s₁ Bd hml0 hP hK
  obtain ⟨rfl, hZ, hh, hC⟩ := hP
  exact b p e s m below meth c s₁ Bd.exec Bd.bytes hml0 (findClass_of_methodNamed Bd.named) (name_of_methodNamed Bd.named Bd.method).1 Bd.returns Bd.notSynchronized hZ (Stand.of_body Bd) (by rw [← hh, Bd.state]; rfl)
    ⟨⟨0, (State.WarmedH.refl s).since 0, Nat.zero_le _⟩, hZ, by rw [hh]; exact CHr.refl hC⟩
theorem own_endW (X : Stand p l e R (s.setVm vm0) m args below meth c T locs cells slots) (hlk : meth.locks = false) (hEL : EW Z a0 EL) (O : OW Z s EL vm0 h) (eT : T.heap = h) {v : Option Value} (hv : meth.sig.returnType = none → v = none) {Q : Option Value → Heap → List Loc → Prop} {kc ks : Nat} (hQ : Q v T.heap locs) (h1 : cells ≤ kc) (h2 : slots ≤ ks) :
    ∃ fs, (∀ (f : JFrame) (acts : List Action), f.method = m → f.locked = none → f.entered = [] → (doReturn e (T.setTop f) acts v).1 = T.setFrames fs) ∧ (T.setFrames fs).status = .running ∧ Ended (T.setFrames fs) below (.returned v) ∧ OEndW s Z EL Q kc ks (T.setFrames fs) (.returned v) := by
  obtain ⟨⟨k, hS, hk⟩, hZ, hC⟩ := O
  obtain ⟨fs, q1, q2, q3, q4, q5, q6, q7⟩ := X.leaveW hS (by rw [eT]; exact hk) (v := v) hv hlk
  refine ⟨fs, q1, q2, q3, v, locs, rfl, hQ, ?_, q4, q5, q6, q7.mono h1 h2⟩
  have C := hC.trans (CHv.at X hZ hEL hC.1)
  rw [← eT] at C
  exact C
theorem own_retW (X : Stand p l e R (s.setVm vm0) m args below meth c T locs cells slots) (hx : p.tables.exec = Jvm.exec) (hlk : meth.locks = false) (hEL : EW Z a0 EL) (O : OW Z s EL vm0 h) (eT : T.heap = h) {pc : Nat} {Ls : Array Slot} {w : Value} {t : FieldType} {i : Instr} {rest : List Value} (hret : meth.sig.returnType = some t) (hn : narrow t w = w)
    (hi : (i = .ireturn ∧ (t = .int ∨ t = .boolean ∨ t = .byte ∨ t = .char ∨ t = .short) ∧ ∃ z, w = .int z) ∨ (i = .lreturn ∧ t = .long ∧ ∃ z, w = .long z) ∨ (i = .dreturn ∧ t = .double ∧ ∃ z, w = .double z) ∨ (i = .freturn ∧ t = .float ∧ ∃ z, w = .float z) ∨ (i = .areturn ∧ t.isReference = true ∧ w.isRef = true))
    (hd : decode c.code pc = .ok (i, 1)) {Q : Option Value → Heap → List Loc → Prop} {kc ks : Nat} (hQ : Q (some w) T.heap locs) (h1 : cells ≤ kc) (h2 : slots ≤ ks) : OGo p e below (T.setTop (mkF m pc Ls (w :: rest))) (OEndW s Z EL Q kc ks) := by
  obtain ⟨fs, hr, q2, q3, q4⟩ := own_endW X hlk hEL O eT (v := some w) (fun h => by rw [hret] at h; cases h) hQ h1 h2
  exact ⟨_, _, retOut X hx hret hn hi hd hr, q2, q3, q4⟩
theorem own_retNW (X : Stand p l e R (s.setVm vm0) m args below meth c T locs cells slots) (hx : p.tables.exec = Jvm.exec) (hlk : meth.locks = false) (hEL : EW Z a0 EL) (O : OW Z s EL vm0 h) (eT : T.heap = h) {pc : Nat} {Ls : Array Slot} {z : Int32} {t : FieldType} {rest : List Value} (hret : meth.sig.returnType = some t) (ht : t = .boolean ∨ t = .byte ∨ t = .char ∨ t = .short)
    (hd : decode c.code pc = .ok (.ireturn, 1)) {Q : Option Value → Heap → List Loc → Prop} {kc ks : Nat} (hQ : Q (some (.int (nar t z))) T.heap locs) (h1 : cells ≤ kc) (h2 : slots ≤ ks) : OGo p e below (T.setTop (mkF m pc Ls (.int z :: rest))) (OEndW s Z EL Q kc ks) := by
  obtain ⟨fs, hr, q2, q3, q4⟩ := own_endW X hlk hEL O eT (v := some (.int (nar t z))) (fun h => by rw [hret] at h; cases h) hQ h1 h2
  exact ⟨_, _, retN X hx hret ht hd hr, q2, q3, q4⟩
theorem own_ret0W (X : Stand p l e R (s.setVm vm0) m args below meth c T locs cells slots) (hx : p.tables.exec = Jvm.exec) (hlk : meth.locks = false) (hEL : EW Z a0 EL) (O : OW Z s EL vm0 h) (eT : T.heap = h) {pc : Nat} {Ls : Array Slot} (hret : meth.sig.returnType = none)
    (hd : decode c.code pc = .ok (.return_, 1)) {Q : Option Value → Heap → List Loc → Prop} {kc ks : Nat} (hQ : Q none T.heap locs) (h1 : cells ≤ kc) (h2 : slots ≤ ks) : OGo p e below (T.setTop (mkF m pc Ls [])) (OEndW s Z EL Q kc ks) := by
  obtain ⟨fs, hr, q2, q3, q4⟩ := own_endW X hlk hEL O eT (v := none) (fun _ => rfl) hQ h1 h2
  exact ⟨_, _, X.returnOut hx hret hd hr, q2, q3, q4⟩
/-- behind a callee that may have interned -/
theorem own_behind {T' : State} {own : String} {L : List Loc} {kc ks : Nat} {Q : Option Value → Heap → List Loc → Prop} {v : Option Value} (O : OW Z s EL vm0 h) (eT : T.heap = h) (hown : (s.setVm vm0).vm.findClass own = some m.cls)
    (hS2 : (s.setVm vm0).Since T'.vm T'.heap.size) (hg : T.heap.size ≤ T'.heap.size) (C : CHr Z EL vm0 h T'.vm T'.heap) : OW Z s EL T'.vm T'.heap ∧ Z.Warmed39 (s.setVm T'.vm).vm ∧ (s.setVm T'.vm).vm.findClass own = some m.cls := by
  obtain ⟨⟨k, hS, hk⟩, hZ, hC⟩ := O
  have hW : Z.Warmed39 T'.vm := State.Warmed39.trans (t := s.setVm vm0) hZ hS2.1
  exact ⟨⟨⟨_, hS.trans hS2 (Nat.le_trans hk (by rw [← eT]; exact hg)), Nat.le_refl _⟩, hW, hC.trans C⟩, hW, (hS2.1.alike.findClass _ _).trans hown⟩
theorem own_callSW (X : Stand p l e R (s.setVm vm0) m args below meth c T locs cells slots) (hx : p.tables.exec = Jvm.exec) (hZ : Z.Warmed39 (s.setVm vm0).vm) {own : String} {index : Nat} {y : MethodName} {bytes : ByteArray} {maxL : Nat} {ret : Option FieldType}
    (hown : (s.setVm vm0).vm.findClass own = some m.cls) (w1 : (Jvm.Cond.methodLink own index y).before a0 Z = true) (w2 : (Jvm.Cond.static y).before a0 Z = true) (w3 : (Jvm.Cond.initialized y.cls).before a0 Z = true)
    (w4 : (Jvm.Cond.code y bytes maxL ret).before a0 Z = true) (hy : y.cls ≠ "java/lang/invoke/MethodHandle" ∧ y.cls ≠ "java/lang/invoke/VarHandle") (hEL : EW Z a0 EL) (O : OW Z s EL vm0 h)
    {W : Nat} {rm : Room} {argsL rest : List Value} {Q : Option Value → Heap → List Loc → Prop} (hM : OMetW l Z EL y bytes maxL ret [] rm argsL.toArray h Q) (eT : T.heap = h)
    {pc : Nat} {Ls : Array Slot} (hsize : Ls.size = c.maxLocals) (hlen : ∀ sig, parseMethodDescriptor y.desc = some sig → argsL.length = sig.parameters.length) (hW : (rest.map fun v => v.category).sum = W)
    (hd : decode c.code pc = .ok (.invokestatic index, 3)) (hf : rm.frames + 1 ≤ R.frames) (hl : W + (maxL + 11) + rm.locals ≤ R.locals) (hc : cells + rm.cells ≤ R.cells) (hs : slots + rm.slots ≤ R.slots) {P : State → Outcome → Prop}
    (k : ∀ (v : Option Value) (T' : State) (L : List Loc), Stand p l e R (s.setVm T'.vm) m args below meth c T' (locs ++ L) (cells + rm.cells) (slots + rm.slots) → Q v T'.heap L → OW Z s EL T'.vm T'.heap → Z.Warmed39 (s.setVm T'.vm).vm → (s.setVm T'.vm).vm.findClass own = some m.cls → CHr Z EL vm0 h T'.vm T'.heap → OGo p e below (T'.setTop (mkF m (pc + 3) Ls (v.toList ++ rest))) P) :
    OGo p e below (T.setTop (mkF m pc Ls (argsL.reverse ++ rest))) P := by
  obtain ⟨v, vm, ⟨T', L', k', n'⟩, -, X', hS2, hg, ⟨L, hQ, l1, y1, z1, C⟩, st⟩ := callSS X hx (y := y) hown (mvT hZ w1) (mvT hZ w2) (mvT hZ w3) (mvT hZ w4) hy (backOfSH (W := W) hM hZ w4 w3 hf hl hEL O.chv) (g := mkF m pc Ls (argsL.reverse ++ rest)) rfl hsize (argsL := argsL) (rest := rest) hlen rfl
    (by show 2 * 0 + _ ≤ _; rw [hW]; omega) hd (fun _ _ => ⟨rfl, eT, hc, hs⟩)
  dsimp only [Pt.U, Pt.locs, Pt.cells, Pt.slots] at X' l1 y1 z1 st hQ hS2 hg C
  subst l1 y1 z1
  obtain ⟨r1, r2, r3⟩ := own_behind (L := L) (kc := 0) (ks := 0) (Q := Q) (v := v) O eT hown hS2 hg C
  exact OGo.step (fun _ kk => st.trans kk) (k v T' L X' hQ r1 r2 r3 C)
theorem own_specialW (X : Stand p l e R (s.setVm vm0) m args below meth c T locs cells slots) (hx : p.tables.exec = Jvm.exec) (hZ : Z.Warmed39 (s.setVm vm0).vm) {own : String} {index : Nat} {y : MethodName} {bytes : ByteArray} {maxL : Nat} (hy1 : y.name = "<init>")
    (hown : (s.setVm vm0).vm.findClass own = some m.cls) (w1 : (Jvm.Cond.methodLink own index y).before a0 Z = true) (w2 : (Jvm.Cond.instanceMethod y).before a0 Z = true)
    (w4 : (Jvm.Cond.code y bytes maxL none).before a0 Z = true) (w3 : (Jvm.Cond.initialized y.cls).before a0 Z = true) (hy : y.cls ≠ "java/lang/invoke/MethodHandle" ∧ y.cls ≠ "java/lang/invoke/VarHandle") (hEL : EW Z a0 EL) (O : OW Z s EL vm0 h) {a : Addr}
    {W : Nat} {rm : Room} {argsL rest : List Value} {Q : Option Value → Heap → List Loc → Prop} (hM : OMetW l Z EL y bytes maxL none [] rm (.ref a :: argsL).toArray h Q) (eT : T.heap = h)
    {pc : Nat} {Ls : Array Slot} (hsize : Ls.size = c.maxLocals) (hlen : ∀ sig, parseMethodDescriptor y.desc = some sig → argsL.length = sig.parameters.length) (hW : (rest.map fun v => v.category).sum = W)
    (hd : decode c.code pc = .ok (.invokespecial index, 3)) (hf : rm.frames + 1 ≤ R.frames) (hl : W + (maxL + 11) + rm.locals ≤ R.locals) (hc : cells + rm.cells ≤ R.cells) (hs : slots + rm.slots ≤ R.slots) {P : State → Outcome → Prop}
    (k : ∀ (v : Option Value) (T' : State) (L : List Loc), Stand p l e R (s.setVm T'.vm) m args below meth c T' (locs ++ L) (cells + rm.cells) (slots + rm.slots) → Q v T'.heap L → OW Z s EL T'.vm T'.heap → Z.Warmed39 (s.setVm T'.vm).vm → (s.setVm T'.vm).vm.findClass own = some m.cls → CHr Z EL vm0 h T'.vm T'.heap → OGo p e below (T'.setTop (mkF m (pc + 3) Ls (v.toList ++ rest))) P) :
    OGo p e below (T.setTop (mkF m pc Ls (argsL.reverse ++ .ref a :: rest))) P := by
  obtain ⟨v, vm, ⟨T', L', k', n'⟩, -, X', hS2, hg, ⟨L, hQ, l1, y1, z1, C⟩, st⟩ := X.specialBackS hx (y := y) hy1 hown (mvT hZ w1) (mvT hZ w2) (mvT hZ w4) hy (backOfSH (W := W) hM hZ w4 w3 hf hl hEL O.chv) (g := mkF m pc Ls (argsL.reverse ++ .ref a :: rest)) rfl hsize (Steps.refl _) (a := a) (argsL := argsL) (rest := rest) hlen rfl
    (by show 2 * 0 + _ ≤ _; rw [hW]; omega) hd (fun _ _ => ⟨rfl, eT, hc, hs⟩)
  dsimp only [Pt.U, Pt.locs, Pt.cells, Pt.slots] at X' l1 y1 z1 st hQ hS2 hg C
  subst l1 y1 z1
  obtain ⟨r1, r2, r3⟩ := own_behind (L := L) (kc := 0) (ks := 0) (Q := Q) (v := v) O eT hown hS2 hg C
  exact OGo.step (fun _ kk => st.trans kk) (k v T' L X' hQ r1 r2 r3 C)
theorem own_virtualW (X : Stand p l e R (s.setVm vm0) m args below meth c T locs cells slots) (hx : p.tables.exec = Jvm.exec) (hZ : Z.Warmed39 (s.setVm vm0).vm) {own C : String} {index : Nat} {y z : MethodName} {bytes : ByteArray} {maxL : Nat} {ret : Option FieldType}
    (hown : (s.setVm vm0).vm.findClass own = some m.cls) (w1 : (Jvm.Cond.methodLink own index y).before a0 Z = true) (w2 : (Jvm.Cond.declares y).before a0 Z = true) (hnf : NotFace (s.setVm vm0) y) (w5 : (Jvm.Cond.selects C y z).before a0 Z = true) (w6 : (Jvm.Cond.instanceMethod z).before a0 Z = true)
    (hy : y.cls ≠ "java/lang/invoke/MethodHandle" ∧ y.cls ≠ "java/lang/invoke/VarHandle") (w4 : (Jvm.Cond.code z bytes maxL ret).before a0 Z = true) (w3 : (Jvm.Cond.initialized z.cls).before a0 Z = true) (hEL : EW Z a0 EL) (O : OW Z s EL vm0 h) {b : Addr} (hb : Exa Z h b C)
    {W : Nat} {rm : Room} {argsL rest : List Value} {Q : Option Value → Heap → List Loc → Prop} (hM : OMetW l Z EL z bytes maxL ret [] rm (.ref b :: argsL).toArray h Q) (eT : T.heap = h)
    {pc : Nat} {Ls : Array Slot} (hsize : Ls.size = c.maxLocals) (hlen : ∀ sig, parseMethodDescriptor y.desc = some sig → argsL.length = sig.parameters.length) (hW : (rest.map fun v => v.category).sum = W)
    (hd : decode c.code pc = .ok (.invokevirtual index, 3)) (hf : rm.frames + 1 ≤ R.frames) (hl : W + (maxL + 11) + rm.locals ≤ R.locals) (hc : cells + rm.cells ≤ R.cells) (hs : slots + rm.slots ≤ R.slots) {P : State → Outcome → Prop}
    (k : ∀ (v : Option Value) (T' : State) (L : List Loc), Stand p l e R (s.setVm T'.vm) m args below meth c T' (locs ++ L) (cells + rm.cells) (slots + rm.slots) → Q v T'.heap L → OW Z s EL T'.vm T'.heap → Z.Warmed39 (s.setVm T'.vm).vm → (s.setVm T'.vm).vm.findClass own = some m.cls → CHr Z EL vm0 h T'.vm T'.heap → OGo p e below (T'.setTop (mkF m (pc + 3) Ls (v.toList ++ rest))) P) :
    OGo p e below (T.setTop (mkF m pc Ls (argsL.reverse ++ .ref b :: rest))) P := by
  obtain ⟨cq, kq, qa, qb, qc⟩ := isOf hZ eT hb
  obtain ⟨v, vm, ⟨T', L', k', n'⟩, -, X', hS2, hg, ⟨L, hQ, l1, y1, z1, C⟩, st⟩ := X.virtualBackS hx (y := y) (z := z) hown (mvT hZ w1) (mvT hZ w2) hnf (mvT hZ w5) (mvT hZ w6) hy (backOfSH (W := W) hM hZ w4 w3 hf hl hEL O.chv) qa qc (g := mkF m pc Ls (argsL.reverse ++ .ref b :: rest)) rfl hsize (Steps.refl _) (argsL := argsL) (rest := rest) hlen rfl
    (by show 2 * 0 + _ ≤ _; rw [hW]; omega) hd (fun _ _ => ⟨rfl, eT, hc, hs⟩)
  dsimp only [Pt.U, Pt.locs, Pt.cells, Pt.slots] at X' l1 y1 z1 st hQ hS2 hg C
  subst l1 y1 z1
  obtain ⟨r1, r2, r3⟩ := own_behind (L := L) (kc := 0) (ks := 0) (Q := Q) (v := v) O eT hown hS2 hg C
  exact OGo.step (fun _ kk => st.trans kk) (k v T' L X' hQ r1 r2 r3 C)
/-- 'ldc' of a String constant of EL -/
theorem own_ldcW (X : Stand p l e R (s.setVm vm0) m args below meth c T locs cells slots) (hx : p.tables.exec = Jvm.exec) {own text : String} {index : Nat} (hown : (s.setVm vm0).vm.findClass own = some m.cls) (w : (Jvm.Cond.stringLink own index text).before a0 Z = true) (wS : ∀ a ∈ Bundle.stringAtoms, a.before a0 Z = true)
    (hEL : EW Z a0 EL) (O : OW Z s EL vm0 h) (eT : T.heap = h) (hmem : (own, index) ∈ EL) {vs : List Value} {z : Int32} (ht : (∀ c ∈ text.toList, c.toNat < 256) ∧ text.toList.map (fun c => Value.int (Jvm.Lit.byteI c.toNat.toUInt16)) = vs) (hz : ¬ z < 0) (hl : z.toNatClampNeg = vs.length)
    {pc : Nat} {Ls : Array Slot} {st : List Value} (hd : decode c.code pc = .ok (.ldc index, 2)) {n : Nat} (hn : 4 * text.toList.length ≤ n) (hbig : n ≤ 536870912) (hc : cells + 2 ≤ R.cells) (hl' : slots + (n + 4) ≤ R.slots) {P : State → Outcome → Prop}
    (k : ∀ (a b : Addr) (kb : ClassId) (T' : State), Stand p l e R (s.setVm T'.vm) m args below meth c T' locs (cells + 2) (slots + (n + 4)) → Ext h T'.heap → OW Z s EL T'.vm T'.heap → Z.Warmed39 (s.setVm T'.vm).vm → (s.setVm T'.vm).vm.findClass own = some m.cls → CHr Z EL vm0 h T'.vm T'.heap →
      Exa Z T'.heap a "java/lang/String" → Fld Z T'.heap a "java/lang/String" "coder" "B" (.int 0) → Fld Z T'.heap a "java/lang/String" "value" "[B" (.ref b) → Arv Z T'.heap b kb .byte z vs (.int 0) → (∀ x, Safe Z EL T'.vm T'.heap x → x ≠ a ∧ x ≠ b) → OGo p e below (T'.setTop (mkF m (pc + 2) Ls (.ref a :: st))) P) :
    OGo p e below (T.setTop (mkF m pc Ls st)) P := by
  obtain ⟨⟨k0, hS, hk⟩, hZ, hC⟩ := O
  obtain ⟨a, T', h', k1, b, kb, X', rfl, E, hS2, hk2, hW, hf, hE, hF1, hF2, hA, -, -, C, -, hsf, stp⟩ := ldcCH X hx hZ hown w wS eT hS hk hEL hmem hC.1 ht hz hl (g := mkF m pc Ls st) rfl hd hn hbig hc hl'
  exact OGo.step stp (k a b kb T' X' E ⟨⟨k1, hS2, hk2⟩, hW, hC.trans C⟩ hW hf C hE hF1 hF2 hA hsf)
end OwnW
theorem own_pd0 : parseMethodDescriptor "([C)V" = some ⟨[(.array .char)], none⟩ := by decide +kernel
theorem own_pd1 : parseMethodDescriptor "(C)Ljava/lang/String;" = some ⟨[.char], some (.object "java/lang/String")⟩ := by decide +kernel
theorem own_pd2 : parseMethodDescriptor "()I" = some ⟨[], some .int⟩ := by decide +kernel
theorem own_pd3 : parseMethodDescriptor "(I)C" = some ⟨[.int], some .char⟩ := by decide +kernel
theorem own_pd4 : parseMethodDescriptor "()V" = some ⟨[], none⟩ := by decide +kernel
theorem own_pd5 : parseMethodDescriptor "(II)I" = some ⟨[.int, .int], some .int⟩ := by decide +kernel
theorem own_pd6 : parseMethodDescriptor "(I)[Ljava/lang/Object;" = some ⟨[.int], some (.array (.object "java/lang/Object"))⟩ := by decide +kernel
theorem own_pd7 : parseMethodDescriptor "()[Ljava/lang/Object;" = some ⟨[], some (.array (.object "java/lang/Object"))⟩ := by decide +kernel
theorem own_pd8 : parseMethodDescriptor "(Ljava/lang/Object;[Ljava/lang/Object;I)V" = some ⟨[(.object "java/lang/Object"), (.array (.object "java/lang/Object")), .int], none⟩ := by decide +kernel
theorem own_pd9 : parseMethodDescriptor "(IILjava/util/function/BiFunction;)I" = some ⟨[.int, .int, (.object "java/util/function/BiFunction")], some .int⟩ := by decide +kernel
theorem own_pd10 : parseMethodDescriptor "(I)Ljava/lang/Object;" = some ⟨[.int], some (.object "java/lang/Object")⟩ := by decide +kernel
theorem own_pd11 : parseMethodDescriptor "(Ljava/lang/Object;)Z" = some ⟨[(.object "java/lang/Object")], some .boolean⟩ := by decide +kernel
theorem own_pd12 : parseMethodDescriptor "(IIII)Ljava/lang/String;" = some ⟨[.int, .int, .int, .int], some (.object "java/lang/String")⟩ := by decide +kernel
theorem own_pd13 : parseMethodDescriptor "(Ljava/util/List;)Z" = some ⟨[(.object "java/util/List")], some .boolean⟩ := by decide +kernel
theorem own_pd14 : parseMethodDescriptor "(Ljava/lang/String;)Z" = some ⟨[(.object "java/lang/String")], some .boolean⟩ := by decide +kernel
theorem own_pd15 : parseMethodDescriptor "(C)Z" = some ⟨[.char], some .boolean⟩ := by decide +kernel
theorem own_pd16 : parseMethodDescriptor "(C)[B" = some ⟨[.char], some (.array .byte)⟩ := by decide +kernel
theorem own_pd17 : parseMethodDescriptor "([BB)V" = some ⟨[(.array .byte), .byte], none⟩ := by decide +kernel
theorem own_pn0 : plainName "com/example/tags_to_grants/tagstogrants/cli/TagsToGrantsIsOneRequestPinLaw" = true := by first | (simp [plainName, overriddenIn]; done) | decide +kernel
theorem own_pn1 : plainName "java/util/AbstractCollection" = true := by first | (simp [plainName, overriddenIn]; done) | decide +kernel
theorem own_pn2 : plainName "java/util/AbstractList" = true := by first | (simp [plainName, overriddenIn]; done) | decide +kernel
theorem own_pn3 : plainName "java/util/ArrayList" = true := by first | (simp [plainName, overriddenIn]; done) | decide +kernel
theorem own_pn4 : plainName "jdk/internal/util/Preconditions" = true := by first | (simp [plainName, overriddenIn]; done) | decide +kernel
theorem own_pn5 : plainName "java/util/Objects" = true := by first | (simp [plainName, overriddenIn]; done) | decide +kernel
theorem own_pn6 : plainName "com/example/tags_to_grants/tagstogrants/cli/TagsToGrants" = true := by first | (simp [plainName, overriddenIn]; done) | decide +kernel
theorem own_pn7 : plainName "java/lang/StringLatin1" = true := by first | (simp [plainName, overriddenIn]; done) | decide +kernel
theorem own_pn8 : plainName "java/lang/String" = true := by first | (simp [plainName, overriddenIn]; done) | decide +kernel
theorem own_d_method_3_code_0 : decode method_3_code 0 = .ok (.iload_n 2, 1) := by decide +kernel
theorem own_d_method_3_code_1 : decode method_3_code 1 = .ok (.sipush 255, 3) := by decide +kernel
theorem own_d_method_3_code_4 : decode method_3_code 4 = .ok (.iand, 1) := by decide +kernel
theorem own_d_method_3_code_5 : decode method_3_code 5 = .ok (.i2c, 1) := by decide +kernel
theorem own_d_method_3_code_6 : decode method_3_code 6 = .ok (.istore 4, 2) := by decide +kernel
theorem own_d_method_3_code_8 : decode method_3_code 8 = .ok (.iload_n 2, 1) := by decide +kernel
theorem own_d_method_3_code_9 : decode method_3_code 9 = .ok (.bipush 8, 2) := by decide +kernel
theorem own_d_method_3_code_11 : decode method_3_code 11 = .ok (.iushr, 1) := by decide +kernel
theorem own_d_method_3_code_12 : decode method_3_code 12 = .ok (.sipush 255, 3) := by decide +kernel
theorem own_d_method_3_code_15 : decode method_3_code 15 = .ok (.iand, 1) := by decide +kernel
theorem own_d_method_3_code_16 : decode method_3_code 16 = .ok (.i2c, 1) := by decide +kernel
theorem own_d_method_3_code_17 : decode method_3_code 17 = .ok (.istore 5, 2) := by decide +kernel
theorem own_d_method_3_code_19 : decode method_3_code 19 = .ok (.iload_n 2, 1) := by decide +kernel
theorem own_d_method_3_code_20 : decode method_3_code 20 = .ok (.bipush 16, 2) := by decide +kernel
theorem own_d_method_3_code_22 : decode method_3_code 22 = .ok (.iushr, 1) := by decide +kernel
theorem own_d_method_3_code_23 : decode method_3_code 23 = .ok (.sipush 255, 3) := by decide +kernel
theorem own_d_method_3_code_26 : decode method_3_code 26 = .ok (.iand, 1) := by decide +kernel
theorem own_d_method_3_code_27 : decode method_3_code 27 = .ok (.i2c, 1) := by decide +kernel
theorem own_d_method_3_code_28 : decode method_3_code 28 = .ok (.istore 6, 2) := by decide +kernel
theorem own_d_method_3_code_30 : decode method_3_code 30 = .ok (.iload_n 2, 1) := by decide +kernel
theorem own_d_method_3_code_31 : decode method_3_code 31 = .ok (.bipush 24, 2) := by decide +kernel
theorem own_d_method_3_code_33 : decode method_3_code 33 = .ok (.iushr, 1) := by decide +kernel
theorem own_d_method_3_code_34 : decode method_3_code 34 = .ok (.sipush 255, 3) := by decide +kernel
theorem own_d_method_3_code_37 : decode method_3_code 37 = .ok (.iand, 1) := by decide +kernel
theorem own_d_method_3_code_38 : decode method_3_code 38 = .ok (.i2c, 1) := by decide +kernel
theorem own_d_method_3_code_39 : decode method_3_code 39 = .ok (.istore 7, 2) := by decide +kernel
theorem own_d_method_3_code_41 : decode method_3_code 41 = .ok (.iload_n 3, 1) := by decide +kernel
theorem own_d_method_3_code_42 : decode method_3_code 42 = .ok (.sipush 255, 3) := by decide +kernel
theorem own_d_method_3_code_45 : decode method_3_code 45 = .ok (.iand, 1) := by decide +kernel
theorem own_d_method_3_code_46 : decode method_3_code 46 = .ok (.i2c, 1) := by decide +kernel
theorem own_d_method_3_code_47 : decode method_3_code 47 = .ok (.istore 8, 2) := by decide +kernel
theorem own_d_method_3_code_49 : decode method_3_code 49 = .ok (.iload_n 0, 1) := by decide +kernel
theorem own_d_method_3_code_50 : decode method_3_code 50 = .ok (.ifCond .ne 6, 3) := by decide +kernel
theorem own_d_method_3_code_53 : decode method_3_code 53 = .ok (.ldc 13, 2) := by decide +kernel
theorem own_d_method_3_code_55 : decode method_3_code 55 = .ok (.areturn, 1) := by decide +kernel
theorem own_d_method_3_code_56 : decode method_3_code 56 = .ok (.iload_n 0, 1) := by decide +kernel
theorem own_d_method_3_code_57 : decode method_3_code 57 = .ok (.iconst 2, 1) := by decide +kernel
theorem own_d_method_3_code_58 : decode method_3_code 58 = .ok (.if_icmp .ne 39, 3) := by decide +kernel
theorem own_d_method_3_code_61 : decode method_3_code 61 = .ok (.new 16, 3) := by decide +kernel
theorem own_d_method_3_code_64 : decode method_3_code 64 = .ok (.dup, 1) := by decide +kernel
theorem own_d_method_3_code_65 : decode method_3_code 65 = .ok (.iconst 5, 1) := by decide +kernel
theorem own_d_method_3_code_66 : decode method_3_code 66 = .ok (.newarray .char, 2) := by decide +kernel
theorem own_d_method_3_code_68 : decode method_3_code 68 = .ok (.dup, 1) := by decide +kernel
theorem own_d_method_3_code_69 : decode method_3_code 69 = .ok (.iconst 0, 1) := by decide +kernel
theorem own_d_method_3_code_70 : decode method_3_code 70 = .ok (.bipush 45, 2) := by decide +kernel
theorem own_d_method_3_code_72 : decode method_3_code 72 = .ok (.castore, 1) := by decide +kernel
theorem own_d_method_3_code_73 : decode method_3_code 73 = .ok (.dup, 1) := by decide +kernel
theorem own_d_method_3_code_74 : decode method_3_code 74 = .ok (.iconst 1, 1) := by decide +kernel
theorem own_d_method_3_code_75 : decode method_3_code 75 = .ok (.bipush 45, 2) := by decide +kernel
theorem own_d_method_3_code_77 : decode method_3_code 77 = .ok (.castore, 1) := by decide +kernel
theorem own_d_method_3_code_78 : decode method_3_code 78 = .ok (.dup, 1) := by decide +kernel
theorem own_d_method_3_code_79 : decode method_3_code 79 = .ok (.iconst 2, 1) := by decide +kernel
theorem own_d_method_3_code_80 : decode method_3_code 80 = .ok (.bipush 97, 2) := by decide +kernel
theorem own_d_method_3_code_82 : decode method_3_code 82 = .ok (.castore, 1) := by decide +kernel
theorem own_d_method_3_code_83 : decode method_3_code 83 = .ok (.dup, 1) := by decide +kernel
theorem own_d_method_3_code_84 : decode method_3_code 84 = .ok (.iconst 3, 1) := by decide +kernel
theorem own_d_method_3_code_85 : decode method_3_code 85 = .ok (.bipush 115, 2) := by decide +kernel
theorem own_d_method_3_code_87 : decode method_3_code 87 = .ok (.castore, 1) := by decide +kernel
theorem own_d_method_3_code_88 : decode method_3_code 88 = .ok (.dup, 1) := by decide +kernel
theorem own_d_method_3_code_89 : decode method_3_code 89 = .ok (.iconst 4, 1) := by decide +kernel
theorem own_d_method_3_code_90 : decode method_3_code 90 = .ok (.iload 8, 2) := by decide +kernel
theorem own_d_method_3_code_92 : decode method_3_code 92 = .ok (.castore, 1) := by decide +kernel
theorem own_d_method_3_code_93 : decode method_3_code 93 = .ok (.invokespecial 40, 3) := by decide +kernel
theorem own_d_method_3_code_96 : decode method_3_code 96 = .ok (.areturn, 1) := by decide +kernel
theorem own_d_method_3_code_97 : decode method_3_code 97 = .ok (.iload_n 0, 1) := by decide +kernel
theorem own_d_method_3_code_98 : decode method_3_code 98 = .ok (.iconst 3, 1) := by decide +kernel
theorem own_d_method_3_code_99 : decode method_3_code 99 = .ok (.if_icmp .ne 29, 3) := by decide +kernel
theorem own_d_method_3_code_102 : decode method_3_code 102 = .ok (.new 16, 3) := by decide +kernel
theorem own_d_method_3_code_105 : decode method_3_code 105 = .ok (.dup, 1) := by decide +kernel
theorem own_d_method_3_code_106 : decode method_3_code 106 = .ok (.iconst 3, 1) := by decide +kernel
theorem own_d_method_3_code_107 : decode method_3_code 107 = .ok (.newarray .char, 2) := by decide +kernel
theorem own_d_method_3_code_109 : decode method_3_code 109 = .ok (.dup, 1) := by decide +kernel
theorem own_d_method_3_code_110 : decode method_3_code 110 = .ok (.iconst 0, 1) := by decide +kernel
theorem own_d_method_3_code_111 : decode method_3_code 111 = .ok (.bipush 45, 2) := by decide +kernel
theorem own_d_method_3_code_113 : decode method_3_code 113 = .ok (.castore, 1) := by decide +kernel
theorem own_d_method_3_code_114 : decode method_3_code 114 = .ok (.dup, 1) := by decide +kernel
theorem own_d_method_3_code_115 : decode method_3_code 115 = .ok (.iconst 1, 1) := by decide +kernel
theorem own_d_method_3_code_116 : decode method_3_code 116 = .ok (.bipush 45, 2) := by decide +kernel
theorem own_d_method_3_code_118 : decode method_3_code 118 = .ok (.castore, 1) := by decide +kernel
theorem own_d_method_3_code_119 : decode method_3_code 119 = .ok (.dup, 1) := by decide +kernel
theorem own_d_method_3_code_120 : decode method_3_code 120 = .ok (.iconst 2, 1) := by decide +kernel
theorem own_d_method_3_code_121 : decode method_3_code 121 = .ok (.iload 6, 2) := by decide +kernel
theorem own_d_method_3_code_123 : decode method_3_code 123 = .ok (.castore, 1) := by decide +kernel
theorem own_d_method_3_code_124 : decode method_3_code 124 = .ok (.invokespecial 40, 3) := by decide +kernel
theorem own_d_method_3_code_127 : decode method_3_code 127 = .ok (.areturn, 1) := by decide +kernel
theorem own_d_method_3_code_128 : decode method_3_code 128 = .ok (.iload_n 0, 1) := by decide +kernel
theorem own_d_method_3_code_129 : decode method_3_code 129 = .ok (.iconst 4, 1) := by decide +kernel
theorem own_d_method_3_code_130 : decode method_3_code 130 = .ok (.if_icmp .ne 9, 3) := by decide +kernel
theorem own_d_method_3_code_133 : decode method_3_code 133 = .ok (.iload 4, 2) := by decide +kernel
theorem own_d_method_3_code_135 : decode method_3_code 135 = .ok (.invokestatic 15, 3) := by decide +kernel
theorem own_d_method_3_code_138 : decode method_3_code 138 = .ok (.areturn, 1) := by decide +kernel
theorem own_d_method_3_code_139 : decode method_3_code 139 = .ok (.iload_n 0, 1) := by decide +kernel
theorem own_d_method_3_code_140 : decode method_3_code 140 = .ok (.iconst 5, 1) := by decide +kernel
theorem own_d_method_3_code_141 : decode method_3_code 141 = .ok (.if_icmp .ne 6, 3) := by decide +kernel
theorem own_d_method_3_code_144 : decode method_3_code 144 = .ok (.ldc 43, 2) := by decide +kernel
theorem own_d_method_3_code_146 : decode method_3_code 146 = .ok (.areturn, 1) := by decide +kernel
theorem own_d_method_3_code_208 : decode method_3_code 208 = .ok (.new 16, 3) := by decide +kernel
theorem own_d_method_3_code_211 : decode method_3_code 211 = .ok (.dup, 1) := by decide +kernel
theorem own_d_method_3_code_212 : decode method_3_code 212 = .ok (.iconst 4, 1) := by decide +kernel
theorem own_d_method_3_code_213 : decode method_3_code 213 = .ok (.newarray .char, 2) := by decide +kernel
theorem own_d_method_3_code_215 : decode method_3_code 215 = .ok (.dup, 1) := by decide +kernel
theorem own_d_method_3_code_216 : decode method_3_code 216 = .ok (.iconst 0, 1) := by decide +kernel
theorem own_d_method_3_code_217 : decode method_3_code 217 = .ok (.iload 9, 2) := by decide +kernel
theorem own_d_method_3_code_219 : decode method_3_code 219 = .ok (.castore, 1) := by decide +kernel
theorem own_d_method_3_code_220 : decode method_3_code 220 = .ok (.dup, 1) := by decide +kernel
theorem own_d_method_3_code_221 : decode method_3_code 221 = .ok (.iconst 1, 1) := by decide +kernel
theorem own_d_method_3_code_222 : decode method_3_code 222 = .ok (.iload 10, 2) := by decide +kernel
theorem own_d_method_3_code_224 : decode method_3_code 224 = .ok (.castore, 1) := by decide +kernel
theorem own_d_method_3_code_225 : decode method_3_code 225 = .ok (.dup, 1) := by decide +kernel
theorem own_d_method_3_code_226 : decode method_3_code 226 = .ok (.iconst 2, 1) := by decide +kernel
theorem own_d_method_3_code_227 : decode method_3_code 227 = .ok (.iload 11, 2) := by decide +kernel
theorem own_d_method_3_code_229 : decode method_3_code 229 = .ok (.castore, 1) := by decide +kernel
theorem own_d_method_3_code_230 : decode method_3_code 230 = .ok (.dup, 1) := by decide +kernel
theorem own_d_method_3_code_231 : decode method_3_code 231 = .ok (.iconst 3, 1) := by decide +kernel
theorem own_d_method_3_code_232 : decode method_3_code 232 = .ok (.iload 12, 2) := by decide +kernel
theorem own_d_method_3_code_234 : decode method_3_code 234 = .ok (.castore, 1) := by decide +kernel
theorem own_d_method_3_code_235 : decode method_3_code 235 = .ok (.invokespecial 40, 3) := by decide +kernel
theorem own_d_method_3_code_238 : decode method_3_code 238 = .ok (.areturn, 1) := by decide +kernel
theorem own_d_method_3_code_192 : decode method_3_code 192 = .ok (.iload_n 1, 1) := by decide +kernel
theorem own_d_method_3_code_193 : decode method_3_code 193 = .ok (.bipush 8, 2) := by decide +kernel
theorem own_d_method_3_code_195 : decode method_3_code 195 = .ok (.iand, 1) := by decide +kernel
theorem own_d_method_3_code_196 : decode method_3_code 196 = .ok (.ifCond .eq 8, 3) := by decide +kernel
theorem own_d_method_3_code_204 : decode method_3_code 204 = .ok (.iload 7, 2) := by decide +kernel
theorem own_d_method_3_code_206 : decode method_3_code 206 = .ok (.istore 12, 2) := by decide +kernel
theorem own_d_method_3_code_199 : decode method_3_code 199 = .ok (.bipush 115, 2) := by decide +kernel
theorem own_d_method_3_code_201 : decode method_3_code 201 = .ok (.goto 5, 3) := by decide +kernel
theorem own_d_method_3_code_177 : decode method_3_code 177 = .ok (.iload_n 1, 1) := by decide +kernel
theorem own_d_method_3_code_178 : decode method_3_code 178 = .ok (.iconst 4, 1) := by decide +kernel
theorem own_d_method_3_code_179 : decode method_3_code 179 = .ok (.iand, 1) := by decide +kernel
theorem own_d_method_3_code_180 : decode method_3_code 180 = .ok (.ifCond .eq 8, 3) := by decide +kernel
theorem own_d_method_3_code_188 : decode method_3_code 188 = .ok (.iload 6, 2) := by decide +kernel
theorem own_d_method_3_code_190 : decode method_3_code 190 = .ok (.istore 11, 2) := by decide +kernel
theorem own_d_method_3_code_183 : decode method_3_code 183 = .ok (.bipush 97, 2) := by decide +kernel
theorem own_d_method_3_code_185 : decode method_3_code 185 = .ok (.goto 5, 3) := by decide +kernel
theorem own_d_method_3_code_162 : decode method_3_code 162 = .ok (.iload_n 1, 1) := by decide +kernel
theorem own_d_method_3_code_163 : decode method_3_code 163 = .ok (.iconst 2, 1) := by decide +kernel
theorem own_d_method_3_code_164 : decode method_3_code 164 = .ok (.iand, 1) := by decide +kernel
theorem own_d_method_3_code_165 : decode method_3_code 165 = .ok (.ifCond .eq 8, 3) := by decide +kernel
theorem own_d_method_3_code_173 : decode method_3_code 173 = .ok (.iload 5, 2) := by decide +kernel
theorem own_d_method_3_code_175 : decode method_3_code 175 = .ok (.istore 10, 2) := by decide +kernel
theorem own_d_method_3_code_168 : decode method_3_code 168 = .ok (.bipush 45, 2) := by decide +kernel
theorem own_d_method_3_code_170 : decode method_3_code 170 = .ok (.goto 5, 3) := by decide +kernel
theorem own_d_method_3_code_147 : decode method_3_code 147 = .ok (.iload_n 1, 1) := by decide +kernel
theorem own_d_method_3_code_148 : decode method_3_code 148 = .ok (.iconst 1, 1) := by decide +kernel
theorem own_d_method_3_code_149 : decode method_3_code 149 = .ok (.iand, 1) := by decide +kernel
theorem own_d_method_3_code_150 : decode method_3_code 150 = .ok (.ifCond .eq 8, 3) := by decide +kernel
theorem own_d_method_3_code_158 : decode method_3_code 158 = .ok (.iload 4, 2) := by decide +kernel
theorem own_d_method_3_code_160 : decode method_3_code 160 = .ok (.istore 9, 2) := by decide +kernel
theorem own_d_method_3_code_153 : decode method_3_code 153 = .ok (.bipush 45, 2) := by decide +kernel
theorem own_d_method_3_code_155 : decode method_3_code 155 = .ok (.goto 5, 3) := by decide +kernel
theorem own_d_method_4_code_0 : decode method_4_code 0 = .ok (.aload_n 0, 1) := by decide +kernel
theorem own_d_method_4_code_1 : decode method_4_code 1 = .ok (.invokevirtual 45, 3) := by decide +kernel
theorem own_d_method_4_code_4 : decode method_4_code 4 = .ok (.iconst 4, 1) := by decide +kernel
theorem own_d_method_4_code_5 : decode method_4_code 5 = .ok (.if_icmp .ne 47, 3) := by decide +kernel
theorem own_d_method_4_code_8 : decode method_4_code 8 = .ok (.aload_n 0, 1) := by decide +kernel
theorem own_d_method_4_code_9 : decode method_4_code 9 = .ok (.iconst 0, 1) := by decide +kernel
theorem own_d_method_4_code_10 : decode method_4_code 10 = .ok (.invokevirtual 49, 3) := by decide +kernel
theorem own_d_method_4_code_13 : decode method_4_code 13 = .ok (.bipush 45, 2) := by decide +kernel
theorem own_d_method_4_code_15 : decode method_4_code 15 = .ok (.if_icmp .ne 37, 3) := by decide +kernel
theorem own_d_method_4_code_18 : decode method_4_code 18 = .ok (.aload_n 0, 1) := by decide +kernel
theorem own_d_method_4_code_19 : decode method_4_code 19 = .ok (.iconst 1, 1) := by decide +kernel
theorem own_d_method_4_code_20 : decode method_4_code 20 = .ok (.invokevirtual 49, 3) := by decide +kernel
theorem own_d_method_4_code_23 : decode method_4_code 23 = .ok (.bipush 45, 2) := by decide +kernel
theorem own_d_method_4_code_25 : decode method_4_code 25 = .ok (.if_icmp .ne 27, 3) := by decide +kernel
theorem own_d_method_4_code_28 : decode method_4_code 28 = .ok (.aload_n 0, 1) := by decide +kernel
theorem own_d_method_4_code_29 : decode method_4_code 29 = .ok (.iconst 2, 1) := by decide +kernel
theorem own_d_method_4_code_30 : decode method_4_code 30 = .ok (.invokevirtual 49, 3) := by decide +kernel
theorem own_d_method_4_code_33 : decode method_4_code 33 = .ok (.bipush 97, 2) := by decide +kernel
theorem own_d_method_4_code_35 : decode method_4_code 35 = .ok (.if_icmp .ne 17, 3) := by decide +kernel
theorem own_d_method_4_code_38 : decode method_4_code 38 = .ok (.aload_n 0, 1) := by decide +kernel
theorem own_d_method_4_code_39 : decode method_4_code 39 = .ok (.iconst 3, 1) := by decide +kernel
theorem own_d_method_4_code_40 : decode method_4_code 40 = .ok (.invokevirtual 49, 3) := by decide +kernel
theorem own_d_method_4_code_43 : decode method_4_code 43 = .ok (.bipush 115, 2) := by decide +kernel
theorem own_d_method_4_code_45 : decode method_4_code 45 = .ok (.if_icmp .ne 7, 3) := by decide +kernel
theorem own_d_method_4_code_48 : decode method_4_code 48 = .ok (.iconst 1, 1) := by decide +kernel
theorem own_d_method_4_code_49 : decode method_4_code 49 = .ok (.goto 4, 3) := by decide +kernel
theorem own_d_method_4_code_53 : decode method_4_code 53 = .ok (.ireturn, 1) := by decide +kernel
theorem own_d_method_4_code_52 : decode method_4_code 52 = .ok (.iconst 0, 1) := by decide +kernel
theorem own_d_jdk_22_method_1_code_0 : decode jdk_22_method_1_code 0 = .ok (.aload_n 0, 1) := by decide +kernel
theorem own_d_jdk_22_method_1_code_1 : decode jdk_22_method_1_code 1 = .ok (.invokespecial 1, 3) := by decide +kernel
theorem own_d_jdk_22_method_1_code_4 : decode jdk_22_method_1_code 4 = .ok (.return_, 1) := by decide +kernel
theorem own_d_jdk_39_method_1_code_0 : decode jdk_39_method_1_code 0 = .ok (.aload_n 0, 1) := by decide +kernel
theorem own_d_jdk_39_method_1_code_1 : decode jdk_39_method_1_code 1 = .ok (.invokespecial 1, 3) := by decide +kernel
theorem own_d_jdk_39_method_1_code_4 : decode jdk_39_method_1_code 4 = .ok (.aload_n 0, 1) := by decide +kernel
theorem own_d_jdk_39_method_1_code_5 : decode jdk_39_method_1_code 5 = .ok (.iconst 0, 1) := by decide +kernel
theorem own_d_jdk_39_method_1_code_6 : decode jdk_39_method_1_code 6 = .ok (.putfield 7, 3) := by decide +kernel
theorem own_d_jdk_39_method_1_code_9 : decode jdk_39_method_1_code 9 = .ok (.return_, 1) := by decide +kernel
theorem own_d_jdk_38_method_2_code_0 : decode jdk_38_method_2_code 0 = .ok (.aload_n 0, 1) := by decide +kernel
theorem own_d_jdk_38_method_2_code_1 : decode jdk_38_method_2_code 1 = .ok (.invokespecial 1, 3) := by decide +kernel
theorem own_d_jdk_38_method_2_code_4 : decode jdk_38_method_2_code 4 = .ok (.aload_n 0, 1) := by decide +kernel
theorem own_d_jdk_38_method_2_code_5 : decode jdk_38_method_2_code 5 = .ok (.getstatic 39, 3) := by decide +kernel
theorem own_d_jdk_38_method_2_code_8 : decode jdk_38_method_2_code 8 = .ok (.putfield 9, 3) := by decide +kernel
theorem own_d_jdk_38_method_2_code_11 : decode jdk_38_method_2_code 11 = .ok (.return_, 1) := by decide +kernel
theorem own_d_jdk_29_method_65_code_0 : decode jdk_29_method_65_code 0 = .ok (.iload_n 0, 1) := by decide +kernel
theorem own_d_jdk_29_method_65_code_1 : decode jdk_29_method_65_code 1 = .ok (.iload_n 1, 1) := by decide +kernel
theorem own_d_jdk_29_method_65_code_2 : decode jdk_29_method_65_code 2 = .ok (.if_icmp .lt 7, 3) := by decide +kernel
theorem own_d_jdk_29_method_65_code_5 : decode jdk_29_method_65_code 5 = .ok (.iload_n 0, 1) := by decide +kernel
theorem own_d_jdk_29_method_65_code_6 : decode jdk_29_method_65_code 6 = .ok (.goto 4, 3) := by decide +kernel
theorem own_d_jdk_29_method_65_code_10 : decode jdk_29_method_65_code 10 = .ok (.ireturn, 1) := by decide +kernel
theorem own_d_jdk_38_method_6_code_0 : decode jdk_38_method_6_code 0 = .ok (.aload_n 0, 1) := by decide +kernel
theorem own_d_jdk_38_method_6_code_1 : decode jdk_38_method_6_code 1 = .ok (.getfield 9, 3) := by decide +kernel
theorem own_d_jdk_38_method_6_code_4 : decode jdk_38_method_6_code 4 = .ok (.arraylength, 1) := by decide +kernel
theorem own_d_jdk_38_method_6_code_5 : decode jdk_38_method_6_code 5 = .ok (.istore_n 2, 1) := by decide +kernel
theorem own_d_jdk_38_method_6_code_6 : decode jdk_38_method_6_code 6 = .ok (.iload_n 2, 1) := by decide +kernel
theorem own_d_jdk_38_method_6_code_7 : decode jdk_38_method_6_code 7 = .ok (.ifCond .gt 13, 3) := by decide +kernel
theorem own_d_jdk_38_method_6_code_10 : decode jdk_38_method_6_code 10 = .ok (.aload_n 0, 1) := by decide +kernel
theorem own_d_jdk_38_method_6_code_11 : decode jdk_38_method_6_code 11 = .ok (.getfield 9, 3) := by decide +kernel
theorem own_d_jdk_38_method_6_code_14 : decode jdk_38_method_6_code 14 = .ok (.getstatic 39, 3) := by decide +kernel
theorem own_d_jdk_38_method_6_code_17 : decode jdk_38_method_6_code 17 = .ok (.if_acmp .eq 28, 3) := by decide +kernel
theorem own_d_jdk_38_method_6_code_45 : decode jdk_38_method_6_code 45 = .ok (.aload_n 0, 1) := by decide +kernel
theorem own_d_jdk_38_method_6_code_46 : decode jdk_38_method_6_code 46 = .ok (.bipush 10, 2) := by decide +kernel
theorem own_d_jdk_38_method_6_code_48 : decode jdk_38_method_6_code 48 = .ok (.iload_n 1, 1) := by decide +kernel
theorem own_d_jdk_38_method_6_code_49 : decode jdk_38_method_6_code 49 = .ok (.invokestatic 79, 3) := by decide +kernel
theorem own_d_jdk_38_method_6_code_52 : decode jdk_38_method_6_code 52 = .ok (.anewarray 7, 3) := by decide +kernel
theorem own_d_jdk_38_method_6_code_55 : decode jdk_38_method_6_code 55 = .ok (.dup_x1, 1) := by decide +kernel
theorem own_d_jdk_38_method_6_code_56 : decode jdk_38_method_6_code 56 = .ok (.putfield 9, 3) := by decide +kernel
theorem own_d_jdk_38_method_6_code_59 : decode jdk_38_method_6_code 59 = .ok (.areturn, 1) := by decide +kernel
theorem own_d_jdk_38_method_7_code_0 : decode jdk_38_method_7_code 0 = .ok (.aload_n 0, 1) := by decide +kernel
theorem own_d_jdk_38_method_7_code_1 : decode jdk_38_method_7_code 1 = .ok (.aload_n 0, 1) := by decide +kernel
theorem own_d_jdk_38_method_7_code_2 : decode jdk_38_method_7_code 2 = .ok (.getfield 48, 3) := by decide +kernel
theorem own_d_jdk_38_method_7_code_5 : decode jdk_38_method_7_code 5 = .ok (.iconst 1, 1) := by decide +kernel
theorem own_d_jdk_38_method_7_code_6 : decode jdk_38_method_7_code 6 = .ok (.iadd, 1) := by decide +kernel
theorem own_d_jdk_38_method_7_code_7 : decode jdk_38_method_7_code 7 = .ok (.invokevirtual 69, 3) := by decide +kernel
theorem own_d_jdk_38_method_7_code_10 : decode jdk_38_method_7_code 10 = .ok (.areturn, 1) := by decide +kernel
theorem own_d_jdk_38_method_24_code_0 : decode jdk_38_method_24_code 0 = .ok (.iload_n 3, 1) := by decide +kernel
theorem own_d_jdk_38_method_24_code_1 : decode jdk_38_method_24_code 1 = .ok (.aload_n 2, 1) := by decide +kernel
theorem own_d_jdk_38_method_24_code_2 : decode jdk_38_method_24_code 2 = .ok (.arraylength, 1) := by decide +kernel
theorem own_d_jdk_38_method_24_code_3 : decode jdk_38_method_24_code 3 = .ok (.if_icmp .ne 8, 3) := by decide +kernel
theorem own_d_jdk_38_method_24_code_6 : decode jdk_38_method_24_code 6 = .ok (.aload_n 0, 1) := by decide +kernel
theorem own_d_jdk_38_method_24_code_7 : decode jdk_38_method_24_code 7 = .ok (.invokevirtual 129, 3) := by decide +kernel
theorem own_d_jdk_38_method_24_code_10 : decode jdk_38_method_24_code 10 = .ok (.astore_n 2, 1) := by decide +kernel
theorem own_d_jdk_38_method_24_code_11 : decode jdk_38_method_24_code 11 = .ok (.aload_n 2, 1) := by decide +kernel
theorem own_d_jdk_38_method_24_code_12 : decode jdk_38_method_24_code 12 = .ok (.iload_n 3, 1) := by decide +kernel
theorem own_d_jdk_38_method_24_code_13 : decode jdk_38_method_24_code 13 = .ok (.aload_n 1, 1) := by decide +kernel
theorem own_d_jdk_38_method_24_code_14 : decode jdk_38_method_24_code 14 = .ok (.aastore, 1) := by decide +kernel
theorem own_d_jdk_38_method_24_code_15 : decode jdk_38_method_24_code 15 = .ok (.aload_n 0, 1) := by decide +kernel
theorem own_d_jdk_38_method_24_code_16 : decode jdk_38_method_24_code 16 = .ok (.iload_n 3, 1) := by decide +kernel
theorem own_d_jdk_38_method_24_code_17 : decode jdk_38_method_24_code 17 = .ok (.iconst 1, 1) := by decide +kernel
theorem own_d_jdk_38_method_24_code_18 : decode jdk_38_method_24_code 18 = .ok (.iadd, 1) := by decide +kernel
theorem own_d_jdk_38_method_24_code_19 : decode jdk_38_method_24_code 19 = .ok (.putfield 48, 3) := by decide +kernel
theorem own_d_jdk_38_method_24_code_22 : decode jdk_38_method_24_code 22 = .ok (.return_, 1) := by decide +kernel
theorem own_d_jdk_38_method_25_code_0 : decode jdk_38_method_25_code 0 = .ok (.aload_n 0, 1) := by decide +kernel
theorem own_d_jdk_38_method_25_code_1 : decode jdk_38_method_25_code 1 = .ok (.dup, 1) := by decide +kernel
theorem own_d_jdk_38_method_25_code_2 : decode jdk_38_method_25_code 2 = .ok (.getfield 63, 3) := by decide +kernel
theorem own_d_jdk_38_method_25_code_5 : decode jdk_38_method_25_code 5 = .ok (.iconst 1, 1) := by decide +kernel
theorem own_d_jdk_38_method_25_code_6 : decode jdk_38_method_25_code 6 = .ok (.iadd, 1) := by decide +kernel
theorem own_d_jdk_38_method_25_code_7 : decode jdk_38_method_25_code 7 = .ok (.putfield 63, 3) := by decide +kernel
theorem own_d_jdk_38_method_25_code_10 : decode jdk_38_method_25_code 10 = .ok (.aload_n 0, 1) := by decide +kernel
theorem own_d_jdk_38_method_25_code_11 : decode jdk_38_method_25_code 11 = .ok (.aload_n 1, 1) := by decide +kernel
theorem own_d_jdk_38_method_25_code_12 : decode jdk_38_method_25_code 12 = .ok (.aload_n 0, 1) := by decide +kernel
theorem own_d_jdk_38_method_25_code_13 : decode jdk_38_method_25_code 13 = .ok (.getfield 9, 3) := by decide +kernel
theorem own_d_jdk_38_method_25_code_16 : decode jdk_38_method_25_code 16 = .ok (.aload_n 0, 1) := by decide +kernel
theorem own_d_jdk_38_method_25_code_17 : decode jdk_38_method_25_code 17 = .ok (.getfield 48, 3) := by decide +kernel
theorem own_d_jdk_38_method_25_code_20 : decode jdk_38_method_25_code 20 = .ok (.invokevirtual 131, 3) := by decide +kernel
theorem own_d_jdk_38_method_25_code_23 : decode jdk_38_method_25_code 23 = .ok (.iconst 1, 1) := by decide +kernel
theorem own_d_jdk_38_method_25_code_24 : decode jdk_38_method_25_code 24 = .ok (.ireturn, 1) := by decide +kernel
theorem own_d_jdk_38_method_8_code_0 : decode jdk_38_method_8_code 0 = .ok (.aload_n 0, 1) := by decide +kernel
theorem own_d_jdk_38_method_8_code_1 : decode jdk_38_method_8_code 1 = .ok (.getfield 48, 3) := by decide +kernel
theorem own_d_jdk_38_method_8_code_4 : decode jdk_38_method_8_code 4 = .ok (.ireturn, 1) := by decide +kernel
theorem own_d_jdk_41_method_11_code_0 : decode jdk_41_method_11_code 0 = .ok (.iload_n 0, 1) := by decide +kernel
theorem own_d_jdk_41_method_11_code_1 : decode jdk_41_method_11_code 1 = .ok (.ifCond .lt 8, 3) := by decide +kernel
theorem own_d_jdk_41_method_11_code_4 : decode jdk_41_method_11_code 4 = .ok (.iload_n 0, 1) := by decide +kernel
theorem own_d_jdk_41_method_11_code_5 : decode jdk_41_method_11_code 5 = .ok (.iload_n 1, 1) := by decide +kernel
theorem own_d_jdk_41_method_11_code_6 : decode jdk_41_method_11_code 6 = .ok (.if_icmp .lt 10, 3) := by decide +kernel
theorem own_d_jdk_41_method_11_code_16 : decode jdk_41_method_11_code 16 = .ok (.iload_n 0, 1) := by decide +kernel
theorem own_d_jdk_41_method_11_code_17 : decode jdk_41_method_11_code 17 = .ok (.ireturn, 1) := by decide +kernel
theorem own_d_jdk_31_method_17_code_0 : decode jdk_31_method_17_code 0 = .ok (.iload_n 0, 1) := by decide +kernel
theorem own_d_jdk_31_method_17_code_1 : decode jdk_31_method_17_code 1 = .ok (.iload_n 1, 1) := by decide +kernel
theorem own_d_jdk_31_method_17_code_2 : decode jdk_31_method_17_code 2 = .ok (.aconst_null, 1) := by decide +kernel
theorem own_d_jdk_31_method_17_code_3 : decode jdk_31_method_17_code 3 = .ok (.invokestatic 105, 3) := by decide +kernel
theorem own_d_jdk_31_method_17_code_6 : decode jdk_31_method_17_code 6 = .ok (.ireturn, 1) := by decide +kernel
theorem own_d_jdk_38_method_18_code_0 : decode jdk_38_method_18_code 0 = .ok (.aload_n 0, 1) := by decide +kernel
theorem own_d_jdk_38_method_18_code_1 : decode jdk_38_method_18_code 1 = .ok (.getfield 9, 3) := by decide +kernel
theorem own_d_jdk_38_method_18_code_4 : decode jdk_38_method_18_code 4 = .ok (.iload_n 1, 1) := by decide +kernel
theorem own_d_jdk_38_method_18_code_5 : decode jdk_38_method_18_code 5 = .ok (.aaload, 1) := by decide +kernel
theorem own_d_jdk_38_method_18_code_6 : decode jdk_38_method_18_code 6 = .ok (.areturn, 1) := by decide +kernel
theorem own_d_jdk_38_method_20_code_0 : decode jdk_38_method_20_code 0 = .ok (.iload_n 1, 1) := by decide +kernel
theorem own_d_jdk_38_method_20_code_1 : decode jdk_38_method_20_code 1 = .ok (.aload_n 0, 1) := by decide +kernel
theorem own_d_jdk_38_method_20_code_2 : decode jdk_38_method_20_code 2 = .ok (.getfield 48, 3) := by decide +kernel
theorem own_d_jdk_38_method_20_code_5 : decode jdk_38_method_20_code 5 = .ok (.invokestatic 118, 3) := by decide +kernel
theorem own_d_jdk_38_method_20_code_8 : decode jdk_38_method_20_code 8 = .ok (.pop, 1) := by decide +kernel
theorem own_d_jdk_38_method_20_code_9 : decode jdk_38_method_20_code 9 = .ok (.aload_n 0, 1) := by decide +kernel
theorem own_d_jdk_38_method_20_code_10 : decode jdk_38_method_20_code 10 = .ok (.iload_n 1, 1) := by decide +kernel
theorem own_d_jdk_38_method_20_code_11 : decode jdk_38_method_20_code 11 = .ok (.invokevirtual 123, 3) := by decide +kernel
theorem own_d_jdk_38_method_20_code_14 : decode jdk_38_method_20_code 14 = .ok (.areturn, 1) := by decide +kernel
theorem own_d_prog_10_method_5_code_0 : decode prog_10_method_5_code 0 = .ok (.aload_n 0, 1) := by decide +kernel
theorem own_d_prog_10_method_5_code_1 : decode prog_10_method_5_code 1 = .ok (.invokeinterface 137 1, 5) := by decide +kernel
theorem own_d_prog_10_method_5_code_6 : decode prog_10_method_5_code 6 = .ok (.iconst 4, 1) := by decide +kernel
theorem own_d_prog_10_method_5_code_7 : decode prog_10_method_5_code 7 = .ok (.if_icmp .eq 32, 3) := by decide +kernel
theorem own_d_prog_10_method_5_code_10 : decode prog_10_method_5_code 10 = .ok (.aload_n 0, 1) := by decide +kernel
theorem own_d_prog_10_method_5_code_11 : decode prog_10_method_5_code 11 = .ok (.invokeinterface 137 1, 5) := by decide +kernel
theorem own_d_prog_10_method_5_code_16 : decode prog_10_method_5_code 16 = .ok (.bipush 6, 2) := by decide +kernel
theorem own_d_prog_10_method_5_code_18 : decode prog_10_method_5_code 18 = .ok (.if_icmp .ne 25, 3) := by decide +kernel
theorem own_d_prog_10_method_5_code_43 : decode prog_10_method_5_code 43 = .ok (.iconst 0, 1) := by decide +kernel
theorem own_d_prog_10_method_5_code_44 : decode prog_10_method_5_code 44 = .ok (.ireturn, 1) := by decide +kernel
theorem own_d_prog_10_method_5_code_39 : decode prog_10_method_5_code 39 = .ok (.iconst 1, 1) := by decide +kernel
theorem own_d_prog_10_method_5_code_40 : decode prog_10_method_5_code 40 = .ok (.goto 4, 3) := by decide +kernel
theorem own_d_prog_10_method_5_code_21 : decode prog_10_method_5_code 21 = .ok (.aload_n 0, 1) := by decide +kernel
theorem own_d_prog_10_method_5_code_22 : decode prog_10_method_5_code 22 = .ok (.iconst 4, 1) := by decide +kernel
theorem own_d_prog_10_method_5_code_23 : decode prog_10_method_5_code 23 = .ok (.invokeinterface 141 2, 5) := by decide +kernel
theorem own_d_prog_10_method_5_code_28 : decode prog_10_method_5_code 28 = .ok (.checkcast 52, 3) := by decide +kernel
theorem own_d_prog_10_method_5_code_31 : decode prog_10_method_5_code 31 = .ok (.ldc 144, 2) := by decide +kernel
theorem own_d_prog_10_method_5_code_33 : decode prog_10_method_5_code 33 = .ok (.invokevirtual 146, 3) := by decide +kernel
theorem own_d_prog_10_method_5_code_36 : decode prog_10_method_5_code 36 = .ok (.ifCond .eq 7, 3) := by decide +kernel
theorem own_d_jdk_43_method_3_code_0 : decode jdk_43_method_3_code 0 = .ok (.iload_n 0, 1) := by decide +kernel
theorem own_d_jdk_43_method_3_code_1 : decode jdk_43_method_3_code 1 = .ok (.sipush 255, 3) := by decide +kernel
theorem own_d_jdk_43_method_3_code_4 : decode jdk_43_method_3_code 4 = .ok (.if_icmp .gt 7, 3) := by decide +kernel
theorem own_d_jdk_43_method_3_code_7 : decode jdk_43_method_3_code 7 = .ok (.iconst 1, 1) := by decide +kernel
theorem own_d_jdk_43_method_3_code_8 : decode jdk_43_method_3_code 8 = .ok (.goto 4, 3) := by decide +kernel
theorem own_d_jdk_43_method_3_code_12 : decode jdk_43_method_3_code 12 = .ok (.ireturn, 1) := by decide +kernel
theorem own_d_jdk_43_method_46_code_0 : decode jdk_43_method_46_code 0 = .ok (.iconst 1, 1) := by decide +kernel
theorem own_d_jdk_43_method_46_code_1 : decode jdk_43_method_46_code 1 = .ok (.newarray .byte, 2) := by decide +kernel
theorem own_d_jdk_43_method_46_code_3 : decode jdk_43_method_46_code 3 = .ok (.dup, 1) := by decide +kernel
theorem own_d_jdk_43_method_46_code_4 : decode jdk_43_method_46_code 4 = .ok (.iconst 0, 1) := by decide +kernel
theorem own_d_jdk_43_method_46_code_5 : decode jdk_43_method_46_code 5 = .ok (.iload_n 0, 1) := by decide +kernel
theorem own_d_jdk_43_method_46_code_6 : decode jdk_43_method_46_code 6 = .ok (.i2b, 1) := by decide +kernel
theorem own_d_jdk_43_method_46_code_7 : decode jdk_43_method_46_code 7 = .ok (.bastore, 1) := by decide +kernel
theorem own_d_jdk_43_method_46_code_8 : decode jdk_43_method_46_code 8 = .ok (.areturn, 1) := by decide +kernel
theorem own_d_jdk_42_method_139_code_0 : decode jdk_42_method_139_code 0 = .ok (.getstatic 38, 3) := by decide +kernel
theorem own_d_jdk_42_method_139_code_3 : decode jdk_42_method_139_code 3 = .ok (.ifCond .eq 23, 3) := by decide +kernel
theorem own_d_jdk_42_method_139_code_6 : decode jdk_42_method_139_code 6 = .ok (.iload_n 0, 1) := by decide +kernel
theorem own_d_jdk_42_method_139_code_7 : decode jdk_42_method_139_code 7 = .ok (.invokestatic 1015, 3) := by decide +kernel
theorem own_d_jdk_42_method_139_code_10 : decode jdk_42_method_139_code 10 = .ok (.ifCond .eq 16, 3) := by decide +kernel
theorem own_d_jdk_42_method_139_code_13 : decode jdk_42_method_139_code 13 = .ok (.new 10, 3) := by decide +kernel
theorem own_d_jdk_42_method_139_code_16 : decode jdk_42_method_139_code 16 = .ok (.dup, 1) := by decide +kernel
theorem own_d_jdk_42_method_139_code_17 : decode jdk_42_method_139_code 17 = .ok (.iload_n 0, 1) := by decide +kernel
theorem own_d_jdk_42_method_139_code_18 : decode jdk_42_method_139_code 18 = .ok (.invokestatic 1018, 3) := by decide +kernel
theorem own_d_jdk_42_method_139_code_21 : decode jdk_42_method_139_code 21 = .ok (.iconst 0, 1) := by decide +kernel
theorem own_d_jdk_42_method_139_code_22 : decode jdk_42_method_139_code 22 = .ok (.invokespecial 209, 3) := by decide +kernel
theorem own_d_jdk_42_method_139_code_25 : decode jdk_42_method_139_code 25 = .ok (.areturn, 1) := by decide +kernel
theorem own_d_jdk_42_method_151_code_0 : decode jdk_42_method_151_code 0 = .ok (.aload_n 0, 1) := by decide +kernel
theorem own_d_jdk_42_method_151_code_1 : decode jdk_42_method_151_code 1 = .ok (.invokespecial 1, 3) := by decide +kernel
theorem own_d_jdk_42_method_151_code_4 : decode jdk_42_method_151_code 4 = .ok (.aload_n 0, 1) := by decide +kernel
theorem own_d_jdk_42_method_151_code_5 : decode jdk_42_method_151_code 5 = .ok (.aload_n 1, 1) := by decide +kernel
theorem own_d_jdk_42_method_151_code_6 : decode jdk_42_method_151_code 6 = .ok (.putfield 9, 3) := by decide +kernel
theorem own_d_jdk_42_method_151_code_9 : decode jdk_42_method_151_code 9 = .ok (.aload_n 0, 1) := by decide +kernel
theorem own_d_jdk_42_method_151_code_10 : decode jdk_42_method_151_code 10 = .ok (.iload_n 2, 1) := by decide +kernel
theorem own_d_jdk_42_method_151_code_11 : decode jdk_42_method_151_code 11 = .ok (.putfield 15, 3) := by decide +kernel
theorem own_d_jdk_42_method_151_code_14 : decode jdk_42_method_151_code 14 = .ok (.return_, 1) := by decide +kernel
theorem own_hEL {Z : State} {a0 : Array Value} (hw : ∀ d ∈ tables_1, d.before a0 Z = true) : EW Z a0 consts_1 := (EW.cons (hw _ (List.mem_of_getElem? (i := 176) rfl)) (by decide) (EW.cons (hw _ (List.mem_of_getElem? (i := 4) rfl)) (by decide) (EW.cons (hw _ (List.mem_of_getElem? (i := 122) rfl)) (by decide) EW.nil)))
theorem own_wS {Z : State} {a0 : Array Value} (hw : ∀ d ∈ tables_1, d.before a0 Z = true) : ∀ a ∈ Bundle.stringAtoms, a.before a0 Z = true := fun a ha => hw a ((by decide +kernel : ∀ a ∈ Bundle.stringAtoms, a ∈ tables_1) a ha)

section OwnS
variable {p : Program} {l : Launch} {e : Env} {R : Room} {s : State} {args : Array Value} {below : List Frame} {Z : State} {a0 : Array Value} {h h1 h2 : Heap} {EL : List (String × Nat)} {vm : Vm}
theorem own_ext_refl (h : Heap) : Ext h h := ⟨Nat.le_refl _, fun _ _ q => q⟩
theorem own_ext_trans (E : Ext h h1) (F : Ext h1 h2) : Ext h h2 := ⟨Nat.le_trans E.1 F.1, fun a c q => F.2 a c (E.2 a c q)⟩
theorem own_ext_keep {ws : List Addr} (E : Ext h h1) (K : Keep h1 h2 ws) (q : ∀ x ∈ ws, h.size ≤ x) : Ext h h2 := ⟨Nat.le_trans E.1 K.1, fun a c r => K.2.1 a c (E.2 a c r) fun z => absurd (Array.getElem?_eq_some_iff.mp r).1 (Nat.not_lt.mpr (q a z))⟩
theorem own_ext_wr {a : Addr} {sl : Nat} {v : Value} (E : Ext h h1) (W : Wr h1 h2 a sl v) (q : h.size ≤ a) : Ext h h2 := own_ext_keep E (Keep.of_wr W) (allS q all0)
theorem own_keep_ext (E : Ext h h1) (ws : List Addr) : Keep h h1 ws := (Keep.refl h ws).ext E
/-- the String x says cs -/
def OStr (Z : State) (h : Heap) (x : Addr) (cs : List Int32) : Prop :=
  ∃ (t : Addr) (kb : ClassId) (cd N2 : Int32) (vs : List Value), Exa Z h x "java/lang/String" ∧ Fld Z h x "java/lang/String" "value" "[B" (.ref t) ∧ Fld Z h x "java/lang/String" "coder" "B" (.int cd) ∧ Arv Z h t kb .byte N2 vs (.int 0) ∧
    StrChars.Road.CodA cs cd N2 vs ∧ (∀ c ∈ cs, ¬ c < 0 ∧ ¬ (65535 : Int32) < c) ∧ cs.length ≤ 4000
theorem OStr.ext {x : Addr} {cs : List Int32} (F : OStr Z h x cs) (E : Ext h h1) : OStr Z h1 x cs := by
  obtain ⟨t, kb, cd, N2, vs, a, b, c, d, r⟩ := F
  exact ⟨t, kb, cd, N2, vs, a.ext E, b.ext E, c.ext E, d.ext E, r⟩
theorem OStr.exa {x : Addr} {cs : List Int32} (F : OStr Z h x cs) : Exa Z h x "java/lang/String" := by obtain ⟨t, kb, cd, N2, vs, a, r⟩ := F; exact a
theorem OStr.lt {x : Addr} {cs : List Int32} (F : OStr Z h x cs) : x < h.size := F.exa.lt
/-- a value that is null or a String -/
def OSv (Z : State) (h : Heap) (v : Value) (o : Option (List Int32)) : Prop := (v = .null ∧ o = none) ∨ ∃ x cs, v = .ref x ∧ o = some cs ∧ OStr Z h x cs
theorem OSv.ext {v : Value} {o : Option (List Int32)} (F : OSv Z h v o) (E : Ext h h1) : OSv Z h1 v o := by
  rcases F with q | ⟨x, cs, q1, q2, q3⟩
  · exact Or.inl q
  · exact Or.inr ⟨x, cs, q1, q2, q3.ext E⟩
theorem OSv.isRef {v : Value} {o : Option (List Int32)} (F : OSv Z h v o) : v.isRef = true := by
  rcases F with ⟨rfl, -⟩ | ⟨x, cs, rfl, -⟩ <;> rfl
/-- two that were made one after the other -/
theorem OSv.sep {v w : Value} {o o' : Option (List Int32)} (F : OSv Z h v o) (G : OSv Z h1 w o') (q : ∀ y, w = .ref y → h.size ≤ y) : v = w → o = o' := by
  intro e
  subst e
  rcases F with ⟨rfl, rfl⟩ | ⟨x, cs, rfl, rfl, F⟩
  · rcases G with ⟨-, rfl⟩ | ⟨y, ds, q1, -⟩
    · rfl
    · cases q1
  · exact absurd F.lt (Nat.not_lt.mpr (q x rfl))
/-- a String under construction, its 'value' not yet written, is no booked one -/
theorem own_safe_null {x : Addr} (hal : Z.vm.Alike vm) (E : Exa Z h x "java/lang/String") (F : Fld Z h x "java/lang/String" "value" "[B" .null) : Safe Z EL vm h x := fun B => by
  obtain ⟨cell, cf, k, i, f, e1, e2, -, -, -, -, e7⟩ := F
  obtain ⟨p, -, u, a, -, q, -, G, rfl | rfl⟩ := B
  · cases (show h[q.sa]? = some q.sC from G.ha).symm.trans e1
    obtain ⟨cS, ⟨⟨-, -, -, ⟨c1, k1, i1, f1, -⟩, -, -, -, v1, -⟩, -⟩, -⟩ := G
    obtain ⟨k3, e3, -⟩ := State.fieldFound?_setVm (s := Z) hal e2
    have e4 := (show (Wst Z vm h).fieldFound? _ _ _ = _ from e3).symm.trans f1
    simp only [Option.some.injEq, Prod.mk.injEq] at e4
    rw [← e4.2.2.2, e7] at v1
    cases v1
  · cases (show h[q.sd]? = some q.SA from G.hd).symm.trans e1
    obtain ⟨cell2, k2, g1, g2, -⟩ := E
    cases e1.symm.trans g1
    obtain ⟨cS, -, -, fb, -⟩ := G
    have fb' : vm.findClass "[B" = some q.SA.cls := fb
    rw [hal.findClass] at fb'
    exact ids_ne fb' g2 (by decide) rfl
/-- a class with no road to another -/
theorem own_notCast {C O K : String} {n : Nat} (w : (Jvm.Cond.superclass C O).before a0 Z = true) (w0 : (Jvm.Cond.noSuperclass O).before a0 Z = true) (wk : (Jvm.Cond.instantiable K n).before a0 Z = true) (h1 : C ≠ K) (h2 : O ≠ K) : ∃ c t, Z.vm.findClass C = some c ∧ Z.vm.findClass K = some t ∧ Z.vm.assignable c t = false := by
  obtain ⟨co, ko, o1, o2, o3, -, -⟩ := Cond.noSuperclass_spec w0
  obtain ⟨t, kt, t1, t2, t3, t4, -, -⟩ := Cond.instantiable_spec wk
  obtain ⟨c, c0⟩ := found_sup w
  obtain ⟨pp, k, kp, c1, c2, c3, c4, c5, c6, c7⟩ := Cond.superclass_spec c0 w
  cases o1.symm.trans c1
  have n1 := ids_ne c0 t1 h1
  have n2 := ids_ne o1 t1 h2
  have hi : kt.isInterface = false := by simp only [Bool.or_eq_false_iff] at t4; exact t4.1
  have hs : ∀ fuel, Z.vm.isSubclassAux fuel co t = false := fun fuel => by
    cases fuel with
    | zero => rfl
    | succ f => simp [Vm.isSubclassAux, n2, o2, o3]
  have hc : ∀ fuel, Z.vm.isSubclassAux fuel c t = false := fun fuel => by
    cases fuel with
    | zero => rfl
    | succ f => simp [Vm.isSubclassAux, n1, c2, c4, hs]
  refine ⟨c, t, c0, t1, ?_⟩
  show Z.vm.assignableAux (255 + 1) c t = false
  simp [Vm.assignableAux, n1, c2, t2, c5, t3, hi, Vm.isSubclass, hc]
/-- equals of two Strings -/
theorem own_seq {len W : Nat} (hZ : Z.Warmed39 s.vm) (hw : ∀ d ∈ StrChars.Road.wordsEq, d.before a0 Z = true) {kI : Nat} (wi : (Jvm.Cond.instantiable "java/lang/String" kI).before a0 Z = true) {x y : Addr} {cs ds : List Int32} (F : OStr Z h x cs) (G : OStr Z h y ds)
    {z : Int32} (S : Sta Z h "java/lang/String" "COMPACT_STRINGS" "Z" (.int z)) (hz : ¬ z = 0) (n0 : Nat) (hfr : 2 ≤ R.frames) (hlo : W + 28 ≤ R.locals) :
    OBack l R p e below s args (⟨"java/lang/String", "equals", "(Ljava/lang/Object;)Z"⟩ : MethodName) len W #[.ref x, .ref y] h 0 0 (fun v h' L => v = some (.int (if cs = ds then 1 else 0)) ∧ Fr n0 L ∧ h' = h) := by
  obtain ⟨t, kb, cd, N2, vs, a1, a2, a3, a4, a5, a6, a7⟩ := F
  obtain ⟨t', kb', cd', N2', vs', b1, b2, b3, b4, b5, b6, b7⟩ := G
  refine Back.mono (StrChars.Road.eqW hZ hw wi a1 a2 a3 a4 a5 a6 a7 b1 b2 b3 b4 b5 b6 b7 S hz hfr hlo) (fun P a hp => hp) (fun P a v B hp hq => ?_)
  obtain ⟨L, ⟨q1, rfl, q3⟩, hl, hc, hs⟩ := hq
  refine ⟨[], ⟨?_, Fr.nil n0, q3⟩, hl, hc, hs⟩
  rcases q1 with ⟨q, r⟩ | ⟨q, r⟩
  · rw [q, if_pos r]
  · rw [q, if_neg r]
end OwnS
theorem own_ch255 (x : Int32) : ¬ nar .char ((x &&& (255 : Int32)).toUInt32.toUInt16.toUInt32.toInt32) < 0 ∧ ¬ (255 : Int32) < nar .char ((x &&& (255 : Int32)).toUInt32.toUInt16.toUInt32.toInt32) := by
  have t : ∀ k : Fin 256, ¬ nar .char ((Int32.ofNat k.val).toUInt32.toUInt16.toUInt32.toInt32) < 0 ∧ ¬ (255 : Int32) < nar .char ((Int32.ofNat k.val).toUInt32.toUInt16.toUInt32.toInt32) := by decide +kernel
  have h : (x &&& 255).toBitVec.toNat < 256 := by
    simp only [Int32.toBitVec_and, BitVec.toNat_and]
    exact Nat.lt_succ_of_le Nat.and_le_right
  have e : (x &&& 255) = Int32.ofNat (x &&& 255).toBitVec.toNat := by
    apply Int32.toBitVec_inj.mp
    show _ = BitVec.ofNat 32 _
    rw [BitVec.ofNat_toNat]; simp
  rw [e]
  exact t ⟨_, h⟩
theorem own_up (cs : List Int32) (h : ∀ c ∈ cs, ¬ c < 0 ∧ ¬ (255 : Int32) < c) : ∀ c ∈ cs, ¬ c < 0 ∧ ¬ (65535 : Int32) < c := fun c hc => ⟨(h c hc).1, fun q => (h c hc).2 (Int32.lt_trans (by decide : (255 : Int32) < 65535) q)⟩
theorem own_all0 {P : Int32 → Prop} : ∀ c ∈ ([] : List Int32), P c := fun _ q => nomatch q
theorem own_allS {P : Int32 → Prop} {x : Int32} {cs : List Int32} (a : P x) (r : ∀ c ∈ cs, P c) : ∀ c ∈ x :: cs, P c := fun c q => by
  cases q with
  | head => exact a
  | tail _ q => exact r c q
theorem own_narC {c : Int32} (h : ¬ c < 0 ∧ ¬ (255 : Int32) < c) : nar .char c = c := by
  have t : ∀ k : Fin 256, nar .char (Int32.ofNat k.val) = Int32.ofNat k.val := by decide +kernel
  have h0 : 0 ≤ c.toInt := by have := h.1; rw [Int32.lt_iff_toInt_lt] at this; have z : (0 : Int32).toInt = 0 := rfl; omega
  have h1 : c.toInt ≤ 255 := by have := h.2; rw [Int32.lt_iff_toInt_lt] at this; have z : (255 : Int32).toInt = 255 := rfl; omega
  have e : c = Int32.ofNat c.toInt.toNat := Int32.toInt_inj.mp (by rw [Int32.toInt_ofNat_of_lt (by omega)]; omega)
  rw [e]
  exact t ⟨c.toInt.toNat, by omega⟩
theorem own_nc {c : Int32} (h : ¬ c < 0 ∧ ¬ (255 : Int32) < c) : ¬ nar .char c < 0 ∧ ¬ (255 : Int32) < nar .char c := by rw [own_narC h]; exact h
theorem own_narb (x : Int32) : nar .byte x.toInt8.toInt32 = x.toInt8.toInt32 := by show x.toInt8.toInt32.toInt8.toInt32 = _; simp
theorem own_chL (x : Int64) : ¬ nar .char ((x &&& (255 : Int64)).toInt32.toUInt32.toUInt16.toUInt32.toInt32) < 0 ∧ ¬ (255 : Int32) < nar .char ((x &&& (255 : Int64)).toInt32.toUInt32.toUInt16.toUInt32.toInt32) := by
  have t : ∀ k : Fin 256, ¬ nar .char ((Int64.ofNat k.val).toInt32.toUInt32.toUInt16.toUInt32.toInt32) < 0 ∧ ¬ (255 : Int32) < nar .char ((Int64.ofNat k.val).toInt32.toUInt32.toUInt16.toUInt32.toInt32) := by decide +kernel
  have h : (x &&& 255).toBitVec.toNat < 256 := by
    simp only [Int64.toBitVec_and, BitVec.toNat_and]
    exact Nat.lt_succ_of_le Nat.and_le_right
  have e : (x &&& 255) = Int64.ofNat (x &&& 255).toBitVec.toNat := by
    apply Int64.toBitVec_inj.mp
    show _ = BitVec.ofNat 64 _
    rw [BitVec.ofNat_toNat]; simp
  rw [e]
  exact t ⟨_, h⟩

section OwnI
variable {p : Program} {l : Launch} {e : Env} {R : Room} {s : State} {m : MethodId} {args : Array Value} {below : List Frame} {meth : Method} {c : Code} {T : State} {locs : List Loc} {cells slots : Nat} {Z : State} {a0 : Array Value} {h : Heap}
/-- an interface's method by the contract of the class's own -/
theorem own_iface (X : Stand p l e R s m args below meth c T locs cells slots) (hx : p.tables.exec = Jvm.exec) (hZ : Z.Warmed39 s.vm) {own C : String} {index count : Nat} {y z : MethodName} {bytes : ByteArray} {maxL : Nat} {ret : Option FieldType}
    (hown : s.vm.findClass own = some m.cls) (w1 : (Jvm.Cond.methodLink own index y).before a0 Z = true) (w2 : (Jvm.Cond.declares y).before a0 Z = true) (w3 : (Jvm.Cond.interfaceMethod y.cls y.cls y.name y.desc).before args s = true) (w5 : (Jvm.Cond.selects C y z).before a0 Z = true) (w6 : (Jvm.Cond.instanceMethod z).before a0 Z = true)
    (w7 : (Jvm.Cond.publicMethod z).before args s = true) (w8 : (Jvm.Cond.unhidden C y.name y.desc).before args s = true) (w9 : (Jvm.Cond.castable C y.cls).before args s = true)
    (hy : y.cls ≠ "java/lang/invoke/MethodHandle" ∧ y.cls ≠ "java/lang/invoke/VarHandle") (w4 : (Jvm.Cond.code z bytes maxL ret).before a0 Z = true) (w10 : (Jvm.Cond.initialized z.cls).before a0 Z = true) {b : Addr} (hb : Exa Z h b C)
    {W : Nat} {rm : Room} {argsL rest : List Value} {Q : Option Value → Heap → List Loc → Prop} (hM : OMet l Z z bytes maxL ret [] rm (.ref b :: argsL).toArray h Q) (eT : T.heap = h)
    {pc : Nat} {Ls : Array Slot} (hsize : Ls.size = c.maxLocals) (hlen : ∀ sig, parseMethodDescriptor y.desc = some sig → argsL.length = sig.parameters.length) (hW : (rest.map fun v => v.category).sum = W)
    (hd : decode c.code pc = .ok (.invokeinterface index count, 5)) (hf : rm.frames + 1 ≤ R.frames) (hl : W + (maxL + 11) + rm.locals ≤ R.locals) (hc : cells + rm.cells ≤ R.cells) (hs : slots + rm.slots ≤ R.slots) {P : State → Outcome → Prop}
    (k : ∀ (v : Option Value) (T' : State) (L : List Loc), Stand p l e R s m args below meth c T' (locs ++ L) (cells + rm.cells) (slots + rm.slots) → Q v T'.heap L → OGo p e below (T'.setTop (mkF m (pc + 5) Ls (v.toList ++ rest))) P) :
    OGo p e below (T.setTop (mkF m pc Ls (argsL.reverse ++ .ref b :: rest))) P := by
  obtain ⟨cq, kq, qa, qb, qc⟩ := isOf hZ eT hb
  obtain ⟨v, vm, ⟨T', L', k', n'⟩, -, X', ⟨L, hQ, l1, y1, z1⟩, st⟩ := X.interfaceBack hx (xi := y) (y := z) hown (mvT hZ w1) (mvT hZ w2) w3 (mvT hZ w5) (mvT hZ w6) w7 w8 w9 hy (backOf (W := W) hM hZ w4 w10 hf hl) qa qb qc (g := mkF m pc Ls (argsL.reverse ++ .ref b :: rest)) rfl hsize (Steps.refl _) (argsL := argsL) (rest := rest) hlen rfl
    (by show 2 * 0 + _ ≤ _; rw [hW]; omega) hd (fun _ _ => ⟨rfl, eT, hc, hs⟩)
  dsimp only [Pt.U, Pt.locs, Pt.cells, Pt.slots] at X' l1 y1 z1 st hQ
  subst l1 y1 z1
  exact OGo.step (fun _ kk => st.trans kk) (k v T' L X' hQ)
/-- a private method, by invokevirtual -/
theorem own_private (X : Stand p l e R s m args below meth c T locs cells slots) (hx : p.tables.exec = Jvm.exec) (hZ : Z.Warmed39 s.vm) {own C : String} {index : Nat} {y : MethodName} {bytes : ByteArray} {maxL : Nat} {ret : Option FieldType}
    (hown : s.vm.findClass own = some m.cls) (w1 : (Jvm.Cond.methodLink own index y).before a0 Z = true) (w2 : (Jvm.Cond.instanceMethod y).before a0 Z = true) (w5 : (Jvm.Cond.selects y.cls y y).before a0 Z = true) (w6 : (Jvm.Cond.privateMethod y).before a0 Z = true)
    (w4 : (Jvm.Cond.code y bytes maxL ret).before a0 Z = true) (w3 : (Jvm.Cond.initialized y.cls).before a0 Z = true) (hy : y.cls ≠ "java/lang/invoke/MethodHandle" ∧ y.cls ≠ "java/lang/invoke/VarHandle") {b : Addr} (hb : Exa Z h b C)
    {W : Nat} {rm : Room} {argsL rest : List Value} {Q : Option Value → Heap → List Loc → Prop} (hM : OMet l Z y bytes maxL ret [] rm (.ref b :: argsL).toArray h Q) (eT : T.heap = h)
    {pc : Nat} {Ls : Array Slot} (hsize : Ls.size = c.maxLocals) (hlen : ∀ sig, parseMethodDescriptor y.desc = some sig → argsL.length = sig.parameters.length) (hW : (rest.map fun v => v.category).sum = W)
    (hd : decode c.code pc = .ok (.invokevirtual index, 3)) (hf : rm.frames + 1 ≤ R.frames) (hl : W + (maxL + 11) + rm.locals ≤ R.locals) (hc : cells + rm.cells ≤ R.cells) (hs : slots + rm.slots ≤ R.slots) {P : State → Outcome → Prop}
    (k : ∀ (v : Option Value) (T' : State) (L : List Loc), Stand p l e R s m args below meth c T' (locs ++ L) (cells + rm.cells) (slots + rm.slots) → Q v T'.heap L → OGo p e below (T'.setTop (mkF m (pc + 3) Ls (v.toList ++ rest))) P) :
    OGo p e below (T.setTop (mkF m pc Ls (argsL.reverse ++ .ref b :: rest))) P := by
  obtain ⟨cell, kc, h1, h2, h3, h4, -⟩ := hb
  obtain ⟨v, vm, ⟨T', L', k', n'⟩, -, X', ⟨L, hQ, l1, y1, z1⟩, st⟩ := X.privateBack hx (y := y) hown (mvT hZ w1) (mvT hZ w2) (mvT hZ w5) (Cond.privateMethod_at (mvP (args := #[]) hZ w6)) (mvT hZ w4) hy (backOf (W := W) hM hZ w4 w3 hf hl) (g := mkF m pc Ls (argsL.reverse ++ .ref b :: rest)) rfl hsize (Steps.refl _) (a := b) (cell := cell) (by rw [eT]; exact h1) (fun q z => by rw [z] at h4; cases h4) (argsL := argsL) (rest := rest) hlen rfl
    (by show 2 * 0 + _ ≤ _; rw [hW]; omega) hd (fun _ _ => ⟨rfl, eT, hc, hs⟩)
  dsimp only [Pt.U, Pt.locs, Pt.cells, Pt.slots] at X' l1 y1 z1 st hQ
  subst l1 y1 z1
  exact OGo.step (fun _ kk => st.trans kk) (k v T' L X' hQ)
end OwnI


theorem own_chN {p : Program} {l : Launch} {e : Env} {R : Room} {s : State} {args : Array Value} {below : List Frame} {len W : Nat} {Z : State} {a0 : Array Value} {h : Heap} (hZ : Z.Warmed39 s.vm) (hw : ∀ d ∈ StrChars.Road.wordsChN, d.before a0 Z = true) {kI : Nat} (wi : (Jvm.Cond.instantiable "java/lang/String" kI).before a0 Z = true)
    {x t : Addr} {kb : ClassId} {cs : List Int32} {N2 z : Int32} {vs : List Value} {fm : Value} {i : Nat} (E : Exa Z h x "java/lang/String") (V : Fld Z h x "java/lang/String" "value" "[B" (.ref t)) (C : Fld Z h x "java/lang/String" "coder" "B" (.int 0)) (K : Arv Z h t kb .byte N2 vs (.int 0)) (hc : StrChars.Road.CodA cs 0 N2 vs) (hb : ∀ c ∈ cs, ¬ c < 0 ∧ ¬ (65535 : Int32) < c)
    (S : Sta Z h "java/lang/String" "COMPACT_STRINGS" "Z" (.int z)) (hz : ¬ z = 0) (F : Sta Z h "jdk/internal/util/Preconditions" "SIOOBE_FORMATTER" "Ljava/util/function/BiFunction;" fm) (rf : fm.isRef = true) (l2 : cs.length ≤ 4000) (hi : i < cs.length) (n0 : Nat) (hfr : 4 ≤ R.frames) (hlo : W + 53 ≤ R.locals) :
    OBack l R p e below s args (⟨"java/lang/String", "charAt", "(I)C"⟩ : MethodName) len W #[.ref x, .int (Int32.ofNat i)] h 0 0 (fun v h' L => v = some (.int (cs.getD i 0)) ∧ Fr n0 L ∧ h' = h) := by
  refine Back.mono (StrChars.Road.chN hZ hw wi E V C K hc hb S hz F rf l2 hi rfl hfr hlo) (fun P a hp => hp) (fun P a v B hp hq => ?_)
  obtain ⟨L, ⟨q1, rfl, q3⟩, hl, hc, hs⟩ := hq
  exact ⟨[], ⟨q1, Fr.nil n0, q3⟩, hl, hc, hs⟩


theorem own_slen {p : Program} {l : Launch} {e : Env} {R : Room} {s : State} {args : Array Value} {below : List Frame} {len W : Nat} {Z : State} {a0 : Array Value} {h : Heap} (hZ : Z.Warmed39 s.vm) (hw : ∀ d ∈ StrChars.Road.wordsLen, d.before a0 Z = true) {kI : Nat} (wi : (Jvm.Cond.instantiable "java/lang/String" kI).before a0 Z = true)
    {x : Addr} {cs : List Int32} {z : Int32} (F : OStr Z h x cs) (S : Sta Z h "java/lang/String" "COMPACT_STRINGS" "Z" (.int z)) (hz : ¬ z = 0) (n0 : Nat) (hfr : 2 ≤ R.frames) (hlo : W + 25 ≤ R.locals) :
    OBack l R p e below s args (⟨"java/lang/String", "length", "()I"⟩ : MethodName) len W #[.ref x] h 0 0 (fun v h' L => v = some (.int (Int32.ofNat cs.length)) ∧ Fr n0 L ∧ h' = h) := by
  obtain ⟨t, kb, cd, N2, vs, a1, a2, a3, a4, a5, a6, a7⟩ := F
  refine Back.mono (StrChars.Road.lenW hZ hw wi a1 a2 a3 a4 a5 a6 S hz a7 hfr hlo) (fun P a hp => hp) (fun P a v B hp hq => ?_)
  obtain ⟨L, ⟨q1, rfl, q3⟩, hl, hc, hs⟩ := hq
  exact ⟨[], ⟨q1, Fr.nil n0, q3⟩, hl, hc, hs⟩


theorem own_if0 {q : Prop} [Decidable q] (h : (if q then (1 : Int32) else 0) = 0) : ¬ q := fun z => by rw [if_pos z] at h; exact absurd h (by decide)
theorem own_if1 {q : Prop} [Decidable q] (h : ¬ (if q then (1 : Int32) else 0) = 0) : q := by
  by_cases z : q
  · exact z
  · exact absurd (if_neg z) h
theorem own_narB {q : Prop} [Decidable q] : nar .boolean (if q then (1 : Int32) else 0) = if q then (1 : Int32) else 0 := by split <;> rfl
theorem own_nar1 : nar .boolean (1 : Int32) = 1 := by decide
theorem own_nar0 : nar .boolean (0 : Int32) = 0 := by decide

theorem own_n4 {n : Nat} (h : n ≤ 4000) (q : Int32.ofNat n = 4) : n = 4 := by
  have e := congrArg Int32.toInt q
  rw [Int32.toInt_ofNat_of_lt (by omega)] at e
  have z : (4 : Int32).toInt = 4 := rfl
  omega
theorem own_eight (x : Int32) : (x &&& (7 : Int32)) = 0 ∨ (x &&& (7 : Int32)) = 1 ∨ (x &&& (7 : Int32)) = 2 ∨ (x &&& (7 : Int32)) = 3 ∨ (x &&& (7 : Int32)) = 4 ∨ (x &&& (7 : Int32)) = 5 ∨ (x &&& (7 : Int32)) = 6 ∨ (x &&& (7 : Int32)) = 7 := by
  have e1 : (x &&& (7 : Int32)).toInt = x.toInt % 2 ^ 3 := Jvm.Kit.i32_mask x 7 (k := 3) (by decide) (by decide)
  have z0 : (0 : Int32).toInt = 0 := rfl
  have z1 : (1 : Int32).toInt = 1 := rfl
  have z2 : (2 : Int32).toInt = 2 := rfl
  have z3 : (3 : Int32).toInt = 3 := rfl
  have z4 : (4 : Int32).toInt = 4 := rfl
  have z5 : (5 : Int32).toInt = 5 := rfl
  have z6 : (6 : Int32).toInt = 6 := rfl
  have z7 : (7 : Int32).toInt = 7 := rfl
  simp only [← Int32.toInt_inj, e1, z0, z1, z2, z3, z4, z5, z6, z7]
  omega
theorem own_sk0 {nn : Int32} (h8 : nn = 0 ∨ nn = 1 ∨ nn = 2 ∨ nn = 3 ∨ nn = 4 ∨ nn = 5 ∨ nn = 6 ∨ nn = 7) (b : ¬ (0 : Int32) < nn) : nn = 0 := by
  rcases h8 with rfl | rfl | rfl | rfl | rfl | rfl | rfl | rfl <;> first | rfl | exact absurd b (by decide)
theorem own_sk1 {nn : Int32} (h8 : nn = 0 ∨ nn = 1 ∨ nn = 2 ∨ nn = 3 ∨ nn = 4 ∨ nn = 5 ∨ nn = 6 ∨ nn = 7) (a : (0 : Int32) < nn) (b : ¬ (1 : Int32) < nn) : nn = 1 := by
  rcases h8 with rfl | rfl | rfl | rfl | rfl | rfl | rfl | rfl <;> first | rfl | exact absurd a (by decide) | exact absurd b (by decide)
theorem own_sk2 {nn : Int32} (h8 : nn = 0 ∨ nn = 1 ∨ nn = 2 ∨ nn = 3 ∨ nn = 4 ∨ nn = 5 ∨ nn = 6 ∨ nn = 7) (a : (1 : Int32) < nn) (b : ¬ (2 : Int32) < nn) : nn = 2 := by
  rcases h8 with rfl | rfl | rfl | rfl | rfl | rfl | rfl | rfl <;> first | rfl | exact absurd a (by decide) | exact absurd b (by decide)
theorem own_sk3 {nn : Int32} (h8 : nn = 0 ∨ nn = 1 ∨ nn = 2 ∨ nn = 3 ∨ nn = 4 ∨ nn = 5 ∨ nn = 6 ∨ nn = 7) (a : (2 : Int32) < nn) (b : ¬ (3 : Int32) < nn) : nn = 3 := by
  rcases h8 with rfl | rfl | rfl | rfl | rfl | rfl | rfl | rfl <;> first | rfl | exact absurd a (by decide) | exact absurd b (by decide)
theorem own_sk4 {nn : Int32} (h8 : nn = 0 ∨ nn = 1 ∨ nn = 2 ∨ nn = 3 ∨ nn = 4 ∨ nn = 5 ∨ nn = 6 ∨ nn = 7) (a : (3 : Int32) < nn) (b : ¬ (4 : Int32) < nn) : nn = 4 := by
  rcases h8 with rfl | rfl | rfl | rfl | rfl | rfl | rfl | rfl <;> first | rfl | exact absurd a (by decide) | exact absurd b (by decide)
theorem own_sk5 {nn : Int32} (h8 : nn = 0 ∨ nn = 1 ∨ nn = 2 ∨ nn = 3 ∨ nn = 4 ∨ nn = 5 ∨ nn = 6 ∨ nn = 7) (a : (4 : Int32) < nn) (b : ¬ (5 : Int32) < nn) : nn = 5 := by
  rcases h8 with rfl | rfl | rfl | rfl | rfl | rfl | rfl | rfl <;> first | rfl | exact absurd a (by decide) | exact absurd b (by decide)
theorem own_sk6 {nn : Int32} (h8 : nn = 0 ∨ nn = 1 ∨ nn = 2 ∨ nn = 3 ∨ nn = 4 ∨ nn = 5 ∨ nn = 6 ∨ nn = 7) (a : (5 : Int32) < nn) (b : ¬ (6 : Int32) < nn) : nn = 6 := by
  rcases h8 with rfl | rfl | rfl | rfl | rfl | rfl | rfl | rfl <;> first | rfl | exact absurd a (by decide) | exact absurd b (by decide)
theorem own_sk7 {nn : Int32} (h8 : nn = 0 ∨ nn = 1 ∨ nn = 2 ∨ nn = 3 ∨ nn = 4 ∨ nn = 5 ∨ nn = 6 ∨ nn = 7) (a : (6 : Int32) < nn)  : nn = 7 := by
  rcases h8 with rfl | rfl | rfl | rfl | rfl | rfl | rfl | rfl <;> first | rfl | exact absurd a (by decide)
theorem own_c255 (x : Int32) : ¬ (x &&& (255 : Int32)).toUInt32.toUInt16.toUInt32.toInt32 < 0 ∧ ¬ (255 : Int32) < (x &&& (255 : Int32)).toUInt32.toUInt16.toUInt32.toInt32 := by
  have t : ∀ k : Fin 256, ¬ (Int32.ofNat k.val).toUInt32.toUInt16.toUInt32.toInt32 < 0 ∧ ¬ (255 : Int32) < (Int32.ofNat k.val).toUInt32.toUInt16.toUInt32.toInt32 := by decide +kernel
  have h : (x &&& 255).toBitVec.toNat < 256 := by
    simp only [Int32.toBitVec_and, BitVec.toNat_and]
    exact Nat.lt_succ_of_le Nat.and_le_right
  have e : (x &&& 255) = Int32.ofNat (x &&& 255).toBitVec.toNat := by
    apply Int32.toBitVec_inj.mp
    show _ = BitVec.ofNat 32 _
    rw [BitVec.ofNat_toNat]; simp
  rw [e]
  exact t ⟨_, h⟩
theorem own_ne10 : ∀ n : Nat, n < 10 → ¬ Int32.ofNat n = 10 := by decide
theorem own_lt10 : ∀ n : Nat, n < 10 → ¬ Int32.ofNat n < 0 ∧ Int32.ofNat n < 10 := by decide
theorem own_add1 : ∀ n : Nat, n < 10 → Int32.ofNat n + 1 = Int32.ofNat (n + 1) := by decide
theorem own_ix10 : ∀ n : Nat, n < 10 → (Int32.ofNat n).toNatClampNeg = n := by decide
theorem own_setl {vs : List Value} {n : Nat} {d v : Value} (h : vs.length = n) : (vs ++ List.replicate 1 d).set n v = vs ++ [v] := by
  subst h
  rw [List.set_append_right _ _ (Nat.le_refl _), Nat.sub_self]; rfl
theorem own_lenl {vs : List Value} {n : Nat} {d : Value} (h : vs.length = n) : n < (vs ++ List.replicate 1 d).length := by
  rw [List.length_append, h]; simp
theorem own_staK {Z : State} {h h' : Heap} {C n d : String} {v : Value} {ws : List Addr} (F : Sta Z h C n d v) (K : Keep h h' ws) (q : ∀ x ∈ ws, ∀ cell : Cell, h[x]? = some cell → cell.vm.isStatics = false) : Sta Z h' C n d v := by
  obtain ⟨cf, i, k, f, st, cell, h1, h2, h3, h4, h5, h6, h7⟩ := F
  exact ⟨cf, i, k, f, st, cell, h1, h2, h3, h4, K.2.1 _ _ h5 (fun z => by rw [q st z cell h5] at h6; cases h6), h6, h7⟩
theorem own_four (cs : List Int32) (h : cs.length = 4) : ∃ a b c d, cs = [a, b, c, d] := by
  match cs, h with
  | [a, b, c, d], _ => exact ⟨a, b, c, d, rfl⟩
theorem own_chS {p : Program} {l : Launch} {e : Env} {R : Room} {s : State} {args : Array Value} {below : List Frame} {len W : Nat} {Z : State} {a0 : Array Value} {h : Heap} (hZ : Z.Warmed39 s.vm) (hw : ∀ d ∈ StrChars.Road.wordsChN, d.before a0 Z = true) {kI : Nat} (wi : (Jvm.Cond.instantiable "java/lang/String" kI).before a0 Z = true)
    {x : Addr} {cs : List Int32} {z : Int32} {fm : Value} {i : Nat} (O : OStr Z h x cs) (hb : ∀ c ∈ cs, ¬ c < 0 ∧ ¬ (255 : Int32) < c) (S : Sta Z h "java/lang/String" "COMPACT_STRINGS" "Z" (.int z)) (hz : ¬ z = 0) (F : Sta Z h "jdk/internal/util/Preconditions" "SIOOBE_FORMATTER" "Ljava/util/function/BiFunction;" fm) (rf : fm.isRef = true) (hi : i < cs.length) (n0 : Nat) (hfr : 4 ≤ R.frames) (hlo : W + 53 ≤ R.locals) :
    OBack l R p e below s args (⟨"java/lang/String", "charAt", "(I)C"⟩ : MethodName) len W #[.ref x, .int (Int32.ofNat i)] h 0 0 (fun v h' L => v = some (.int (cs.getD i 0)) ∧ Fr n0 L ∧ h' = h) := by
  obtain ⟨t, kb, cd, N2, vs, a1, a2, a3, a4, a5, a6, a7⟩ := O
  have hcd : cd = 0 := by
    rcases a5 with q | ⟨-, -, -, c, q1, q2⟩
    · exact q.1
    · exact absurd q2 (hb c q1).2
  subst hcd
  exact own_chN hZ hw wi a1 a2 a3 a4 a5 a6 S hz F rf a7 hi n0 hfr hlo

theorem own_neSa {Z : State} {h : Heap} {x a : Addr} (E : Exa Z h x "java/lang/String") (F : Exa Z h a "java/util/ArrayList") : x ≠ a := by
  rintro rfl
  obtain ⟨cell, k, e1, e2, -⟩ := E
  obtain ⟨cell2, k2, f1, f2, -⟩ := F
  cases e1.symm.trans f1
  exact ids_ne e2 f2 (by decide) rfl

set_option maxRecDepth 65536 in
set_option maxHeartbeats 40000000 in
theorem own_canEnc (l : Launch) (Z : State) (a0 : Array Value) (hw : ∀ d ∈ tables_1, d.before a0 Z = true) (ws : List Jvm.Cond) (ch : Int32) (h0 : Heap) (n0 : Nat) (Z0 : n0 ≤ h0.size) (hc : ¬ (255 : Int32) < ch) :
    OMet l Z (⟨"java/lang/StringLatin1", "canEncode", "(C)Z"⟩ : MethodName) jdk_43_method_3_code 1 (some .boolean) ws ({ frames := 0, cells := 0, slots := 0, locals := 0 } : Room) #[(.int ch)] h0 (fun v h L => v = some (.int (1 : Int32)) ∧ Fr n0 L ∧ h = h0) := by
  refine OMet.body (plainFor_of_name own_pn7) ?_
  intro p e s m below meth c s₁ hx hby hml hown hnm hret hlk hZ X0 e0
  refine OGo.step (fun _ kk => castTop (show entryFrame m #[(.int ch)] 1 = (mkF m 0 #[.val (.int ch)] []) from by first | (simp [entryFrame, mkF, argsToLocals, Value.category]; done) | rfl) kk) ?_
  show OGo p e below (s₁.setTop (mkF m 0 #[.val (.int ch)] [])) _
  refine OGo.step (fun _ kk => XS.iloadN X0.here hx rfl (hb hby own_d_jdk_43_method_3_code_0) rfl kk) ?_
  refine OGo.step (fun _ kk => XS.sipush X0.here hx rfl (hb hby own_d_jdk_43_method_3_code_1) kk) ?_
  show OGo p e below (s₁.setTop (mkF m 4 #[.val (.int ch)] [(.int (255 : Int32)), (.int ch)])) _
  refine OGo.step (fun _ kk => XS.icmpNo X0.here hx rfl (hb hby own_d_jdk_43_method_3_code_4) rfl (flt hc).2.2.1 kk) ?_
  show OGo p e below (s₁.setTop (mkF m 7 #[.val (.int ch)] [])) _
  refine OGo.step (fun _ kk => XS.iconst X0.here hx rfl (hb hby own_d_jdk_43_method_3_code_7) kk) ?_
  refine OGo.step (fun _ kk => XS.goto X0.here hx rfl (pc0 := 8) (pc' := 12) rfl (hb hby own_d_jdk_43_method_3_code_8) (by decide) (by decide) kk) ?_
  show OGo p e below (s₁.setTop (mkF m 12 #[.val (.int ch)] [(.int (1 : Int32))])) _
  exact own_retN X0 hx hlk hret (by simp) (hb hby own_d_jdk_43_method_3_code_12) ⟨by rw [own_nar1], Fr.nil n0, e0⟩ (by decide) (by decide)

set_option maxRecDepth 65536 in
set_option maxHeartbeats 40000000 in
theorem own_l1b (l : Launch) (Z : State) (a0 : Array Value) (hw : ∀ d ∈ tables_1, d.before a0 Z = true) (ws : List Jvm.Cond) (ch : Int32) (h0 : Heap) (n0 : Nat) (Z0 : n0 ≤ h0.size)  :
    OMet l Z (⟨"java/lang/StringLatin1", "toBytes", "(C)[B"⟩ : MethodName) jdk_43_method_46_code 1 (some (.array .byte)) ws ({ frames := 0, cells := 1, slots := 1, locals := 0 } : Room) #[(.int ch)] h0 (fun v h L => ∃ (t : Addr) (kb : ClassId), v = some (.ref t) ∧ Fr n0 L ∧ Ext h0 h ∧ h0.size ≤ t ∧ Arv Z h t kb .byte (1 : Int32) [.int ch.toInt8.toInt32] (.int (0 : Int32))) := by
  refine OMet.body (plainFor_of_name own_pn7) ?_
  intro p e s m below meth c s₁ hx hby hml hown hnm hret hlk hZ X0 e0
  refine OGo.step (fun _ kk => castTop (show entryFrame m #[(.int ch)] 1 = (mkF m 0 #[.val (.int ch)] []) from by first | (simp [entryFrame, mkF, argsToLocals, Value.category]; done) | rfl) kk) ?_
  show OGo p e below (s₁.setTop (mkF m 0 #[.val (.int ch)] [])) _
  refine OGo.step (fun _ kk => XS.iconst X0.here hx rfl (hb hby own_d_jdk_43_method_46_code_0) kk) ?_
  show OGo p e below (s₁.setTop (mkF m 1 #[.val (.int ch)] [(.int (1 : Int32))])) _
  obtain ⟨T404, h404, k404, X404, e404, E404, A404, st404⟩ := newP X0 hx hZ (hw _ (List.mem_of_getElem? (i := 7) rfl)) e0 (g := (mkF m 1 #[.val (.int ch)] [(.int (1 : Int32))])) rfl (hb hby own_d_jdk_43_method_46_code_1) rfl (by decide) (cap := 1) (by decide) (by decide) (by decide) (by decide)
  obtain ⟨t, g404⟩ : ∃ z, z = h0.size := ⟨_, rfl⟩
  rw [← g404] at A404 st404
  refine OGo.step st404 ?_
  show OGo p e below (T404.setTop (mkF m 3 #[.val (.int ch)] [(.ref t)])) _
  have gf_t : n0 ≤ t := Nat.le_trans Z0 (Nat.le_of_eq g404.symm)
  have sz404 : n0 ≤ h404.size := Nat.le_trans Z0 E404.1
  have Va405 : Arv Z h404 t k404 .byte (1 : Int32) [(.int (0 : Int32))] (.int (0 : Int32)) := (Arv.new A404 (by decide)).pad (pad_rep [] (.int (0 : Int32)) 1)
  refine OGo.step (fun _ kk => XS.dup X404.here hx rfl (hb hby own_d_jdk_43_method_46_code_3) rfl rfl kk) ?_
  refine OGo.step (fun _ kk => XS.iconst X404.here hx rfl (hb hby own_d_jdk_43_method_46_code_4) kk) ?_
  refine OGo.step (fun _ kk => XS.iloadN X404.here hx rfl (hb hby own_d_jdk_43_method_46_code_5) rfl kk) ?_
  refine OGo.step (fun _ kk => XS.i2b X404.here hx rfl (hb hby own_d_jdk_43_method_46_code_6) rfl kk) ?_
  show OGo p e below (T404.setTop (mkF m 7 #[.val (.int ch)] [(.int (ch.toInt8.toInt32)), (.int (0 : Int32)), (.ref t), (.ref t)])) _
  obtain ⟨cA406, A406, q406, S406, M406, H406, G406⟩ := id Va405
  obtain ⟨T407, h407, X407, e407, W407, st407⟩ := stB X404 hx hZ e404 A406 (j := (0 : Int32)) (inb_of S406 ⟨by decide, by decide⟩) (g := (mkF m 7 #[.val (.int ch)] [(.int (ch.toInt8.toInt32)), (.int (0 : Int32)), (.ref t), (.ref t)])) rfl rfl (hb hby own_d_jdk_43_method_46_code_7)
  refine OGo.step st407 ?_
  show OGo p e below (T407.setTop (mkF m 8 #[.val (.int ch)] [(.ref t)])) _
  have Va406 : Arv Z h407 t k404 .byte (1 : Int32) [(.int (nar .byte (ch.toInt8.toInt32)))] (.int (0 : Int32)) := Arv.set A406 q406 S406 M406 H406 G406 (fits_nar_byte _) W407 0 rfl (Nat.le_of_ble_eq_true rfl)
  have Nf407 := Fr.snoc X407 (Fr.nil n0) gf_t
  have sz407 : n0 ≤ h407.size := by rw [W407.size]; exact sz404
  rw [own_narb] at Va406
  have xt408 := (own_ext_wr E404 W407 (Nat.le_of_eq g404.symm))
  exact own_ret X407 hx hlk hret rfl (Or.inr (Or.inr (Or.inr (Or.inr ⟨rfl, rfl, rfl⟩)))) (hb hby own_d_jdk_43_method_46_code_8) (by rw [e407]; exact ⟨t, _, rfl, Nf407, xt408, (Nat.le_of_eq g404.symm), Va406⟩) (by decide) (by decide)

set_option maxRecDepth 65536 in
set_option maxHeartbeats 40000000 in
theorem own_initBB0 (l : Launch) (Z : State) (a0 : Array Value) (hw : ∀ d ∈ tables_1, d.before a0 Z = true) (ws : List Jvm.Cond) (a t : Addr) (h0 : Heap) (n0 : Nat) (Z0 : n0 ≤ h0.size) (E1 : Exa Z h0 a "java/lang/String") (Fv : Fld Z h0 a "java/lang/String" "value" "[B" .null) (Fc : Fld Z h0 a "java/lang/String" "coder" "B" (.int (0 : Int32))) (ga : n0 ≤ a) :
    OMet l Z (⟨"java/lang/String", "<init>", "([BB)V"⟩ : MethodName) jdk_42_method_151_code 3 none ws ({ frames := 1, cells := 0, slots := 0, locals := 12 } : Room) #[(.ref a), (.ref t), (.int (0 : Int32))] h0 (fun v h L => v = none ∧ Fr n0 L ∧ Keep h0 h [a] ∧ Exa Z h a "java/lang/String" ∧ Fld Z h a "java/lang/String" "value" "[B" (.ref t) ∧ Fld Z h a "java/lang/String" "coder" "B" (.int (0 : Int32))) := by
  refine OMet.body (plainFor_of_name own_pn8) ?_
  intro p e s m below meth c s₁ hx hby hml hown hnm hret hlk hZ X0 e0
  refine OGo.step (fun _ kk => castTop (show entryFrame m #[(.ref a), (.ref t), (.int (0 : Int32))] 3 = (mkF m 0 #[.val (.ref a), .val (.ref t), .val (.int (0 : Int32))] []) from by first | (simp [entryFrame, mkF, argsToLocals, Value.category]; done) | rfl) kk) ?_
  show OGo p e below (s₁.setTop (mkF m 0 #[.val (.ref a), .val (.ref t), .val (.int (0 : Int32))] [])) _
  refine OGo.step (fun _ kk => XS.aloadN X0.here hx rfl (hb hby own_d_jdk_42_method_151_code_0) rfl rfl kk) ?_
  show OGo p e below (s₁.setTop (mkF m 1 #[.val (.ref a), .val (.ref t), .val (.int (0 : Int32))] [(.ref a)])) _
  obtain ⟨T420, X420, e420, st420⟩ := initO X0 hx hZ hown (hw _ (List.mem_of_getElem? (i := 28) rfl)) (hw _ (List.mem_of_getElem? (i := 29) rfl)) (hw _ (List.mem_of_getElem? (i := 30) rfl)) e0 (g := (mkF m 1 #[.val (.ref a), .val (.ref t), .val (.int (0 : Int32))] [(.ref a)])) rfl (by rw [hml]; rfl) rfl (hb hby own_d_jdk_42_method_151_code_1) (by decide) (W := 0) (by show 2 * 0 + _ ≤ _; exact Nat.le_of_eq rfl) (by decide)
  refine OGo.step st420 ?_
  show OGo p e below (T420.setTop (mkF m 4 #[.val (.ref a), .val (.ref t), .val (.int (0 : Int32))] [])) _
  refine OGo.step (fun _ kk => XS.aloadN X420.here hx rfl (hb hby own_d_jdk_42_method_151_code_4) rfl rfl kk) ?_
  refine OGo.step (fun _ kk => XS.aloadN X420.here hx rfl (hb hby own_d_jdk_42_method_151_code_5) rfl rfl kk) ?_
  show OGo p e below (T420.setTop (mkF m 6 #[.val (.ref a), .val (.ref t), .val (.int (0 : Int32))] [(.ref t), (.ref a)])) _
  obtain ⟨T421, h421, X421, e421, W421, st421⟩ := putF X420 hx hZ hown (host := "") (Or.inl (hw _ (List.mem_of_getElem? (i := 31) rfl))) Via.refl e420 Fv E1 (Or.inr ⟨(hw _ (List.mem_of_getElem? (i := 8) rfl)), rfl, hnm⟩) (hw _ (List.mem_of_getElem? (i := 6) rfl)) (ty := (.array .byte)) (by decide) rfl rfl (g := (mkF m 6 #[.val (.ref a), .val (.ref t), .val (.int (0 : Int32))] [(.ref t), (.ref a)])) rfl rfl (hb hby own_d_jdk_42_method_151_code_6)
  refine OGo.step st421 ?_
  show OGo p e below (T421.setTop (mkF m 9 #[.val (.ref a), .val (.ref t), .val (.int (0 : Int32))] [])) _
  have Fw421 := Fv.same W421
  have Nf421 := Fr.snoc X421 (Fr.nil n0) ga
  have sz421 : n0 ≤ h421.size := by rw [W421.size]; exact Z0
  refine OGo.step (fun _ kk => XS.aloadN X421.here hx rfl (hb hby own_d_jdk_42_method_151_code_9) rfl rfl kk) ?_
  refine OGo.step (fun _ kk => XS.iloadN X421.here hx rfl (hb hby own_d_jdk_42_method_151_code_10) rfl kk) ?_
  show OGo p e below (T421.setTop (mkF m 11 #[.val (.ref a), .val (.ref t), .val (.int (0 : Int32))] [(.int (0 : Int32)), (.ref a)])) _
  have fc422 := (Fc.other W421 (Or.inr (slot_ne (Or.inr (hw _ (List.mem_of_getElem? (i := 9) rfl))) (Or.inr (hw _ (List.mem_of_getElem? (i := 8) rfl))) (by decide) (t := .byte) (t' := (.array .byte)) (by decide) (by decide))))
  have fc423 := (E1.wr W421)
  obtain ⟨T424, h424, X424, e424, W424, st424⟩ := putFN X421 hx hZ hown (hw _ (List.mem_of_getElem? (i := 32) rfl)) Via.refl e421 fc422 fc423 (Or.inr ⟨(hw _ (List.mem_of_getElem? (i := 9) rfl)), rfl, hnm⟩) (hw _ (List.mem_of_getElem? (i := 6) rfl)) (ty := .byte) (v' := (.int (0 : Int32))) (by decide) rfl rfl (g := (mkF m 11 #[.val (.ref a), .val (.ref t), .val (.int (0 : Int32))] [(.int (0 : Int32)), (.ref a)])) rfl rfl (hb hby own_d_jdk_42_method_151_code_11)
  refine OGo.step st424 ?_
  show OGo p e below (T424.setTop (mkF m 14 #[.val (.ref a), .val (.ref t), .val (.int (0 : Int32))] [])) _
  have Fw424 := fc422.same W424
  have Nf424 := Fr.snoc X424 Nf421 ga
  have sz424 : n0 ≤ h424.size := by rw [W424.size]; exact sz421
  have fc425 := (fc423.wr W424)
  have fc426 := (Fw421.other W424 (Or.inr (slot_ne (Or.inr (hw _ (List.mem_of_getElem? (i := 8) rfl))) (Or.inr (hw _ (List.mem_of_getElem? (i := 9) rfl))) (by decide) (t := (.array .byte)) (t' := .byte) (by decide) (by decide))))
  have HK := (((Keep.refl h0 [a]).wr W421 (Or.inl (List.mem_of_getElem? (i := 0) rfl))).wr W424 (Or.inl (List.mem_of_getElem? (i := 0) rfl)))
  exact own_ret0 X424 hx hlk hret (hb hby own_d_jdk_42_method_151_code_14) (by rw [e424]; exact ⟨rfl, Nf424, HK, fc425, fc426, Fw424⟩) (by decide) (by decide)

set_option maxRecDepth 65536 in
set_option maxHeartbeats 40000000 in
theorem own_valueOf (l : Launch) (Z : State) (a0 : Array Value) (hw : ∀ d ∈ tables_1, d.before a0 Z = true) (ws : List Jvm.Cond) (ch zc : Int32) (h0 : Heap) (n0 : Nat) (Z0 : n0 ≤ h0.size) (SC : Sta Z h0 "java/lang/String" "COMPACT_STRINGS" "Z" (.int zc)) (hzc : ¬ zc = 0) (hc : ¬ ch < 0 ∧ ¬ (255 : Int32) < ch) :
    OMet l Z (⟨"java/lang/String", "valueOf", "(C)Ljava/lang/String;"⟩ : MethodName) jdk_42_method_139_code 1 (some (.object "java/lang/String")) ws ({ frames := 2, cells := 2, slots := 5, locals := 27 } : Room) #[(.int ch)] h0 (fun v h L => ∃ x : Addr, v = some (.ref x) ∧ Fr n0 L ∧ Ext h0 h ∧ OStr Z h x [ch]) := by
  refine OMet.body (plainFor_of_name own_pn8) ?_
  intro p e s m below meth c s₁ hx hby hml hown hnm hret hlk hZ X0 e0
  refine OGo.step (fun _ kk => castTop (show entryFrame m #[(.int ch)] 1 = (mkF m 0 #[.val (.int ch)] []) from by first | (simp [entryFrame, mkF, argsToLocals, Value.category]; done) | rfl) kk) ?_
  show OGo p e below (s₁.setTop (mkF m 0 #[.val (.int ch)] [])) _
  obtain ⟨T409, X409, e409, st409⟩ := getS2 X0 hx hZ hown (host := "") (Or.inl (hw _ (List.mem_of_getElem? (i := 15) rfl))) Via.refl e0 SC (g := (mkF m 0 #[.val (.int ch)] [])) rfl (hb hby own_d_jdk_42_method_139_code_0)
  refine OGo.step st409 ?_
  show OGo p e below (T409.setTop (mkF m 3 #[.val (.int ch)] [(.int zc)])) _
  refine OGo.step (fun _ kk => XS.ifNo X409.here hx rfl (hb hby own_d_jdk_42_method_139_code_3) rfl ((if0 _ _).trans (feq hzc).1) kk) ?_
  show OGo p e below (T409.setTop (mkF m 6 #[.val (.int ch)] [])) _
  refine OGo.step (fun _ kk => XS.iloadN X409.here hx rfl (hb hby own_d_jdk_42_method_139_code_6) rfl kk) ?_
  show OGo p e below (T409.setTop (mkF m 7 #[.val (.int ch)] [(.int ch)])) _
  refine own_callS X409 hx hZ (y := (⟨"java/lang/StringLatin1", "canEncode", "(C)Z"⟩ : MethodName)) hown (hw _ (List.mem_of_getElem? (i := 16) rfl)) (hw _ (List.mem_of_getElem? (i := 17) rfl)) (hw _ (List.mem_of_getElem? (i := 18) rfl)) (hw _ (List.mem_of_getElem? (i := 19) rfl)) (by decide) (W := 0) (own_canEnc l Z a0 hw [] ch h0 n0 Z0 hc.2) e409  (pc := 7) (Ls := #[.val (.int ch)]) (argsL := [(.int ch)]) (rest := []) (by rw [hml]; rfl) (lenOf own_pd15 rfl) rfl (hb hby own_d_jdk_42_method_139_code_7) (by decide) (by decide) (by decide) (by decide) ?_
  intro v410 T410 L410 X410 hQ410
  obtain ⟨rfl, N410, e410⟩ := hQ410
  show OGo p e below (T410.setTop (mkF m 10 #[.val (.int ch)] [(.int (1 : Int32))])) _
  have Nc410 := Fr.app (Fr.nil n0) N410
  refine OGo.step (fun _ kk => XS.ifNo X410.here hx rfl (hb hby own_d_jdk_42_method_139_code_10) rfl ((if0 _ _).trans (feq (by decide)).1) kk) ?_
  show OGo p e below (T410.setTop (mkF m 13 #[.val (.int ch)] [])) _
  obtain ⟨T411, h411, X411, e411, E411, A411, D411, U411, st411⟩ := newO X410 hx hZ hown (hw _ (List.mem_of_getElem? (i := 20) rfl)) (hw _ (List.mem_of_getElem? (i := 6) rfl)) (hw _ (List.mem_of_getElem? (i := 5) rfl)) e410 (g := (mkF m 13 #[.val (.int ch)] [])) rfl (hb hby own_d_jdk_42_method_139_code_13) (by decide) (by decide)
  obtain ⟨x, g411⟩ : ∃ z, z = h0.size := ⟨_, rfl⟩
  rw [← g411] at A411 D411 U411 st411
  refine OGo.step st411 ?_
  show OGo p e below (T411.setTop (mkF m 16 #[.val (.int ch)] [(.ref x)])) _
  have gf_x : n0 ≤ x := Nat.le_trans Z0 (Nat.le_of_eq g411.symm)
  have sz411 : n0 ≤ h411.size := Nat.le_trans Z0 E411.1
  have F411_value : Fld Z h411 x "java/lang/String" "value" "[B" .null := D411 (Or.inr (hw _ (List.mem_of_getElem? (i := 8) rfl))) (ty := (.array .byte)) (by decide)
  have F411_coder : Fld Z h411 x "java/lang/String" "coder" "B" (.int (0 : Int32)) := D411 (Or.inr (hw _ (List.mem_of_getElem? (i := 9) rfl))) (ty := .byte) (by decide)
  refine OGo.step (fun _ kk => XS.dup X411.here hx rfl (hb hby own_d_jdk_42_method_139_code_16) rfl rfl kk) ?_
  refine OGo.step (fun _ kk => XS.iloadN X411.here hx rfl (hb hby own_d_jdk_42_method_139_code_17) rfl kk) ?_
  show OGo p e below (T411.setTop (mkF m 18 #[.val (.int ch)] [(.int ch), (.ref x), (.ref x)])) _
  refine own_callS X411 hx hZ (y := (⟨"java/lang/StringLatin1", "toBytes", "(C)[B"⟩ : MethodName)) hown (hw _ (List.mem_of_getElem? (i := 21) rfl)) (hw _ (List.mem_of_getElem? (i := 22) rfl)) (hw _ (List.mem_of_getElem? (i := 18) rfl)) (hw _ (List.mem_of_getElem? (i := 23) rfl)) (by decide) (W := 2) (own_l1b l Z a0 hw [] ch h411 n0 sz411) e411  (pc := 18) (Ls := #[.val (.int ch)]) (argsL := [(.int ch)]) (rest := [(.ref x), (.ref x)]) (by rw [hml]; rfl) (lenOf own_pd16 rfl) rfl (hb hby own_d_jdk_42_method_139_code_18) (by decide) (by decide) (by decide) (by decide) ?_
  intro v412 T412 L412 X412 hQ412
  obtain ⟨t, kb412, rfl, N412, Xe412, gt412, Va412⟩ := hQ412
  show OGo p e below (T412.setTop (mkF m 21 #[.val (.int ch)] [(.ref t), (.ref x), (.ref x)])) _
  have nxt : x ≠ t := Nat.ne_of_lt (Nat.lt_of_lt_of_le (A411).lt gt412)
  have Nc412 := Fr.app Nc410 N412
  have sz412 : n0 ≤ T412.heap.size := Nat.le_trans sz411 Xe412.1
  refine OGo.step (fun _ kk => XS.iconst X412.here hx rfl (hb hby own_d_jdk_42_method_139_code_21) kk) ?_
  show OGo p e below (T412.setTop (mkF m 22 #[.val (.int ch)] [(.int (0 : Int32)), (.ref t), (.ref x), (.ref x)])) _
  have fc413 := (A411.ext Xe412)
  have fc414 := (F411_value.ext Xe412)
  have fc415 := (F411_coder.ext Xe412)
  refine own_special X412 hx hZ (y := (⟨"java/lang/String", "<init>", "([BB)V"⟩ : MethodName)) rfl hown (hw _ (List.mem_of_getElem? (i := 24) rfl)) (hw _ (List.mem_of_getElem? (i := 25) rfl)) (hw _ (List.mem_of_getElem? (i := 27) rfl)) (hw _ (List.mem_of_getElem? (i := 5) rfl)) (by decide) (a := x) (W := 1) (own_initBB0 l Z a0 hw [] x t T412.heap n0 sz412 fc413 fc414 fc415 gf_x) rfl  (pc := 22) (Ls := #[.val (.int ch)]) (argsL := [(.ref t), (.int (0 : Int32))]) (rest := [(.ref x)]) (by rw [hml]; rfl) (lenOf own_pd17 rfl) rfl (hb hby own_d_jdk_42_method_139_code_22) (by decide) (by decide) (by decide) (by decide) ?_
  intro v416 T416 L416 X416 hQ416
  obtain ⟨rfl, N416, K416, Ex416, Fv416, Fc416⟩ := hQ416
  show OGo p e below (T416.setTop (mkF m 25 #[.val (.int ch)] [(.ref x)])) _
  have Nc416 := Fr.app Nc412 N416
  have sz416 : n0 ≤ T416.heap.size := Nat.le_trans sz412 K416.1
  have fc417 := (Va412.keep K416 (ninS (Ne.symm nxt) nin0))
  have xt418 := (own_ext_trans E411 Xe412)
  have xt419 := (own_ext_keep xt418 K416 (allS (Nat.le_of_eq g411.symm) all0))
  have HO : OStr Z T416.heap x [ch] := ⟨t, _, 0, (1 : Int32), _, Ex416, Fv416, Fc416, fc417, StrChars.Road.codOf (cs := [ch]) (n := 1) rfl (own_allS hc.2 own_all0), own_up _ (own_allS hc own_all0), Nat.le_of_ble_eq_true rfl⟩
  exact own_ret X416 hx hlk hret rfl (Or.inr (Or.inr (Or.inr (Or.inr ⟨rfl, rfl, rfl⟩)))) (hb hby own_d_jdk_42_method_139_code_25) ⟨x, rfl, Nc416, xt419, HO⟩ (by decide) (by decide)

set_option maxRecDepth 65536 in
set_option maxHeartbeats 40000000 in
theorem own_fifth (l : Launch) (Z : State) (a0 : Array Value) (hw : ∀ d ∈ tables_1, d.before a0 Z = true) (ws : List Jvm.Cond) (p1 p2 p3 p4 zc : Int32) (h0 : Heap) (n0 : Nat) (Z0 : n0 ≤ h0.size) (SC : Sta Z h0 "java/lang/String" "COMPACT_STRINGS" "Z" (.int zc)) (hzc : ¬ zc = 0) :
    OMetW l Z consts_1 (⟨"com/example/tags_to_grants/tagstogrants/cli/TagsToGrantsIsOneRequestPinLaw", "fifth", "(IIII)Ljava/lang/String;"⟩ : MethodName) method_3_code 13 (some (.object "java/lang/String")) ws ({ frames := 4, cells := 3, slots := 20, locals := 66 } : Room) #[(.int p1), (.int p2), (.int p3), (.int p4)] h0 (fun v h L => ∃ (x : Addr) (cs : List Int32), v = some (.ref x) ∧ Fr n0 L ∧ Ext h0 h ∧ OStr Z h x cs ∧ ∀ c ∈ cs, ¬ c < 0 ∧ ¬ (255 : Int32) < c) := by
  refine OMetW.body (plainFor_of_name own_pn0) ?_
  intro p e s m below meth c s₁ hx hby hml hown hnm hret hlk hZ X0 e0 OW0
  have hEL := own_hEL hw
  have wS := own_wS hw
  refine OGo.step (fun _ kk => castTop (show entryFrame m #[(.int p1), (.int p2), (.int p3), (.int p4)] 13 = (mkF m 0 #[.val (.int p1), .val (.int p2), .val (.int p3), .val (.int p4), .unset, .unset, .unset, .unset, .unset, .unset, .unset, .unset, .unset] []) from by first | (simp [entryFrame, mkF, argsToLocals, Value.category]; done) | rfl) kk) ?_
  show OGo p e below (s₁.setTop (mkF m 0 #[.val (.int p1), .val (.int p2), .val (.int p3), .val (.int p4), .unset, .unset, .unset, .unset, .unset, .unset, .unset, .unset, .unset] [])) _
  refine OGo.step (fun _ kk => XS.iloadN X0.here hx rfl (hb hby own_d_method_3_code_0) rfl kk) ?_
  refine OGo.step (fun _ kk => XS.sipush X0.here hx rfl (hb hby own_d_method_3_code_1) kk) ?_
  refine OGo.step (fun _ kk => XS.iand X0.here hx rfl (hb hby own_d_method_3_code_4) rfl kk) ?_
  refine OGo.step (fun _ kk => XS.i2c X0.here hx rfl (hb hby own_d_method_3_code_5) rfl kk) ?_
  refine OGo.step (fun _ kk => XS.istore X0.here hx rfl (hb hby own_d_method_3_code_6) rfl (l' := #[.val (.int p1), .val (.int p2), .val (.int p3), .val (.int p4), .val (.int ((p3 &&& (255 : Int32)).toUInt32.toUInt16.toUInt32.toInt32)), .unset, .unset, .unset, .unset, .unset, .unset, .unset, .unset]) rfl kk) ?_
  refine OGo.step (fun _ kk => XS.iloadN X0.here hx rfl (hb hby own_d_method_3_code_8) rfl kk) ?_
  refine OGo.step (fun _ kk => XS.bipush X0.here hx rfl (hb hby own_d_method_3_code_9) kk) ?_
  refine OGo.step (fun _ kk => XS.iushr X0.here hx rfl (hb hby own_d_method_3_code_11) rfl kk) ?_
  refine OGo.step (fun _ kk => XS.sipush X0.here hx rfl (hb hby own_d_method_3_code_12) kk) ?_
  refine OGo.step (fun _ kk => XS.iand X0.here hx rfl (hb hby own_d_method_3_code_15) rfl kk) ?_
  refine OGo.step (fun _ kk => XS.i2c X0.here hx rfl (hb hby own_d_method_3_code_16) rfl kk) ?_
  refine OGo.step (fun _ kk => XS.istore X0.here hx rfl (hb hby own_d_method_3_code_17) rfl (l' := #[.val (.int p1), .val (.int p2), .val (.int p3), .val (.int p4), .val (.int ((p3 &&& (255 : Int32)).toUInt32.toUInt16.toUInt32.toInt32)), .val (.int ((((p3.toUInt32 >>> ((8 : Int32) &&& 31).toUInt32).toInt32) &&& (255 : Int32)).toUInt32.toUInt16.toUInt32.toInt32)), .unset, .unset, .unset, .unset, .unset, .unset, .unset]) rfl kk) ?_
  refine OGo.step (fun _ kk => XS.iloadN X0.here hx rfl (hb hby own_d_method_3_code_19) rfl kk) ?_
  refine OGo.step (fun _ kk => XS.bipush X0.here hx rfl (hb hby own_d_method_3_code_20) kk) ?_
  refine OGo.step (fun _ kk => XS.iushr X0.here hx rfl (hb hby own_d_method_3_code_22) rfl kk) ?_
  refine OGo.step (fun _ kk => XS.sipush X0.here hx rfl (hb hby own_d_method_3_code_23) kk) ?_
  refine OGo.step (fun _ kk => XS.iand X0.here hx rfl (hb hby own_d_method_3_code_26) rfl kk) ?_
  refine OGo.step (fun _ kk => XS.i2c X0.here hx rfl (hb hby own_d_method_3_code_27) rfl kk) ?_
  refine OGo.step (fun _ kk => XS.istore X0.here hx rfl (hb hby own_d_method_3_code_28) rfl (l' := #[.val (.int p1), .val (.int p2), .val (.int p3), .val (.int p4), .val (.int ((p3 &&& (255 : Int32)).toUInt32.toUInt16.toUInt32.toInt32)), .val (.int ((((p3.toUInt32 >>> ((8 : Int32) &&& 31).toUInt32).toInt32) &&& (255 : Int32)).toUInt32.toUInt16.toUInt32.toInt32)), .val (.int ((((p3.toUInt32 >>> ((16 : Int32) &&& 31).toUInt32).toInt32) &&& (255 : Int32)).toUInt32.toUInt16.toUInt32.toInt32)), .unset, .unset, .unset, .unset, .unset, .unset]) rfl kk) ?_
  refine OGo.step (fun _ kk => XS.iloadN X0.here hx rfl (hb hby own_d_method_3_code_30) rfl kk) ?_
  refine OGo.step (fun _ kk => XS.bipush X0.here hx rfl (hb hby own_d_method_3_code_31) kk) ?_
  refine OGo.step (fun _ kk => XS.iushr X0.here hx rfl (hb hby own_d_method_3_code_33) rfl kk) ?_
  refine OGo.step (fun _ kk => XS.sipush X0.here hx rfl (hb hby own_d_method_3_code_34) kk) ?_
  refine OGo.step (fun _ kk => XS.iand X0.here hx rfl (hb hby own_d_method_3_code_37) rfl kk) ?_
  refine OGo.step (fun _ kk => XS.i2c X0.here hx rfl (hb hby own_d_method_3_code_38) rfl kk) ?_
  refine OGo.step (fun _ kk => XS.istore X0.here hx rfl (hb hby own_d_method_3_code_39) rfl (l' := #[.val (.int p1), .val (.int p2), .val (.int p3), .val (.int p4), .val (.int ((p3 &&& (255 : Int32)).toUInt32.toUInt16.toUInt32.toInt32)), .val (.int ((((p3.toUInt32 >>> ((8 : Int32) &&& 31).toUInt32).toInt32) &&& (255 : Int32)).toUInt32.toUInt16.toUInt32.toInt32)), .val (.int ((((p3.toUInt32 >>> ((16 : Int32) &&& 31).toUInt32).toInt32) &&& (255 : Int32)).toUInt32.toUInt16.toUInt32.toInt32)), .val (.int ((((p3.toUInt32 >>> ((24 : Int32) &&& 31).toUInt32).toInt32) &&& (255 : Int32)).toUInt32.toUInt16.toUInt32.toInt32)), .unset, .unset, .unset, .unset, .unset]) rfl kk) ?_
  refine OGo.step (fun _ kk => XS.iloadN X0.here hx rfl (hb hby own_d_method_3_code_41) rfl kk) ?_
  refine OGo.step (fun _ kk => XS.sipush X0.here hx rfl (hb hby own_d_method_3_code_42) kk) ?_
  refine OGo.step (fun _ kk => XS.iand X0.here hx rfl (hb hby own_d_method_3_code_45) rfl kk) ?_
  refine OGo.step (fun _ kk => XS.i2c X0.here hx rfl (hb hby own_d_method_3_code_46) rfl kk) ?_
  refine OGo.step (fun _ kk => XS.istore X0.here hx rfl (hb hby own_d_method_3_code_47) rfl (l' := #[.val (.int p1), .val (.int p2), .val (.int p3), .val (.int p4), .val (.int ((p3 &&& (255 : Int32)).toUInt32.toUInt16.toUInt32.toInt32)), .val (.int ((((p3.toUInt32 >>> ((8 : Int32) &&& 31).toUInt32).toInt32) &&& (255 : Int32)).toUInt32.toUInt16.toUInt32.toInt32)), .val (.int ((((p3.toUInt32 >>> ((16 : Int32) &&& 31).toUInt32).toInt32) &&& (255 : Int32)).toUInt32.toUInt16.toUInt32.toInt32)), .val (.int ((((p3.toUInt32 >>> ((24 : Int32) &&& 31).toUInt32).toInt32) &&& (255 : Int32)).toUInt32.toUInt16.toUInt32.toInt32)), .val (.int ((p4 &&& (255 : Int32)).toUInt32.toUInt16.toUInt32.toInt32)), .unset, .unset, .unset, .unset]) rfl kk) ?_
  refine OGo.step (fun _ kk => XS.iloadN X0.here hx rfl (hb hby own_d_method_3_code_49) rfl kk) ?_
  show OGo p e below (s₁.setTop (mkF m 50 #[.val (.int p1), .val (.int p2), .val (.int p3), .val (.int p4), .val (.int ((p3 &&& (255 : Int32)).toUInt32.toUInt16.toUInt32.toInt32)), .val (.int ((((p3.toUInt32 >>> ((8 : Int32) &&& 31).toUInt32).toInt32) &&& (255 : Int32)).toUInt32.toUInt16.toUInt32.toInt32)), .val (.int ((((p3.toUInt32 >>> ((16 : Int32) &&& 31).toUInt32).toInt32) &&& (255 : Int32)).toUInt32.toUInt16.toUInt32.toInt32)), .val (.int ((((p3.toUInt32 >>> ((24 : Int32) &&& 31).toUInt32).toInt32) &&& (255 : Int32)).toUInt32.toUInt16.toUInt32.toInt32)), .val (.int ((p4 &&& (255 : Int32)).toUInt32.toUInt16.toUInt32.toInt32)), .unset, .unset, .unset, .unset] [(.int p1)])) _
  have hb4 : (¬ ((p3 &&& (255 : Int32)).toUInt32.toUInt16.toUInt32.toInt32) < 0 ∧ ¬ (255 : Int32) < ((p3 &&& (255 : Int32)).toUInt32.toUInt16.toUInt32.toInt32)) := own_c255 _
  have hb5 : (¬ ((((p3.toUInt32 >>> ((8 : Int32) &&& 31).toUInt32).toInt32) &&& (255 : Int32)).toUInt32.toUInt16.toUInt32.toInt32) < 0 ∧ ¬ (255 : Int32) < ((((p3.toUInt32 >>> ((8 : Int32) &&& 31).toUInt32).toInt32) &&& (255 : Int32)).toUInt32.toUInt16.toUInt32.toInt32)) := own_c255 _
  have hb6 : (¬ ((((p3.toUInt32 >>> ((16 : Int32) &&& 31).toUInt32).toInt32) &&& (255 : Int32)).toUInt32.toUInt16.toUInt32.toInt32) < 0 ∧ ¬ (255 : Int32) < ((((p3.toUInt32 >>> ((16 : Int32) &&& 31).toUInt32).toInt32) &&& (255 : Int32)).toUInt32.toUInt16.toUInt32.toInt32)) := own_c255 _
  have hb7 : (¬ ((((p3.toUInt32 >>> ((24 : Int32) &&& 31).toUInt32).toInt32) &&& (255 : Int32)).toUInt32.toUInt16.toUInt32.toInt32) < 0 ∧ ¬ (255 : Int32) < ((((p3.toUInt32 >>> ((24 : Int32) &&& 31).toUInt32).toInt32) &&& (255 : Int32)).toUInt32.toUInt16.toUInt32.toInt32)) := own_c255 _
  have hb8 : (¬ ((p4 &&& (255 : Int32)).toUInt32.toUInt16.toUInt32.toInt32) < 0 ∧ ¬ (255 : Int32) < ((p4 &&& (255 : Int32)).toUInt32.toUInt16.toUInt32.toInt32)) := own_c255 _
  by_cases q0 : p1 = (0 : Int32)
  · refine OGo.step (fun _ kk => XS.ifNo X0.here hx rfl (hb hby own_d_method_3_code_50) rfl ((if0 _ _).trans (teq q0).2) kk) ?_
    show OGo p e below (s₁.setTop (mkF m 53 #[.val (.int p1), .val (.int p2), .val (.int p3), .val (.int p4), .val (.int ((p3 &&& (255 : Int32)).toUInt32.toUInt16.toUInt32.toInt32)), .val (.int ((((p3.toUInt32 >>> ((8 : Int32) &&& 31).toUInt32).toInt32) &&& (255 : Int32)).toUInt32.toUInt16.toUInt32.toInt32)), .val (.int ((((p3.toUInt32 >>> ((16 : Int32) &&& 31).toUInt32).toInt32) &&& (255 : Int32)).toUInt32.toUInt16.toUInt32.toInt32)), .val (.int ((((p3.toUInt32 >>> ((24 : Int32) &&& 31).toUInt32).toInt32) &&& (255 : Int32)).toUInt32.toUInt16.toUInt32.toInt32)), .val (.int ((p4 &&& (255 : Int32)).toUInt32.toUInt16.toUInt32.toInt32)), .unset, .unset, .unset, .unset] [])) _
    refine own_ldcW X0 hx hown (hw _ (List.mem_of_getElem? (i := 4) rfl)) wS hEL OW0 e0 (by decide) (vs := [.int (45 : Int32), .int (45 : Int32), .int (97 : Int32), .int (115 : Int32)]) (z := (4 : Int32)) ⟨by decide, by decide⟩ (by decide) (by decide) (pc := 53) (Ls := #[.val (.int p1), .val (.int p2), .val (.int p3), .val (.int p4), .val (.int ((p3 &&& (255 : Int32)).toUInt32.toUInt16.toUInt32.toInt32)), .val (.int ((((p3.toUInt32 >>> ((8 : Int32) &&& 31).toUInt32).toInt32) &&& (255 : Int32)).toUInt32.toUInt16.toUInt32.toInt32)), .val (.int ((((p3.toUInt32 >>> ((16 : Int32) &&& 31).toUInt32).toInt32) &&& (255 : Int32)).toUInt32.toUInt16.toUInt32.toInt32)), .val (.int ((((p3.toUInt32 >>> ((24 : Int32) &&& 31).toUInt32).toInt32) &&& (255 : Int32)).toUInt32.toUInt16.toUInt32.toInt32)), .val (.int ((p4 &&& (255 : Int32)).toUInt32.toUInt16.toUInt32.toInt32)), .unset, .unset, .unset, .unset]) (st := []) (hb hby own_d_method_3_code_53) (n := 16) (by decide) (by decide) (by decide) (by decide) ?_
    intro x xb kb1 T1 X1 E1 OW1 hZ hown CH1 Es1 Fc1 Fv1 Av1 Ns1
    have sz1 : n0 ≤ T1.heap.size := Nat.le_trans Z0 E1.1
    show OGo p e below (T1.setTop (mkF m 55 #[.val (.int p1), .val (.int p2), .val (.int p3), .val (.int p4), .val (.int ((p3 &&& (255 : Int32)).toUInt32.toUInt16.toUInt32.toInt32)), .val (.int ((((p3.toUInt32 >>> ((8 : Int32) &&& 31).toUInt32).toInt32) &&& (255 : Int32)).toUInt32.toUInt16.toUInt32.toInt32)), .val (.int ((((p3.toUInt32 >>> ((16 : Int32) &&& 31).toUInt32).toInt32) &&& (255 : Int32)).toUInt32.toUInt16.toUInt32.toInt32)), .val (.int ((((p3.toUInt32 >>> ((24 : Int32) &&& 31).toUInt32).toInt32) &&& (255 : Int32)).toUInt32.toUInt16.toUInt32.toInt32)), .val (.int ((p4 &&& (255 : Int32)).toUInt32.toUInt16.toUInt32.toInt32)), .unset, .unset, .unset, .unset] [(.ref x)])) _
    have cd1 : StrChars.Road.CodA ([45, 45, 97, 115] : List Int32) 0 (4 : Int32) [.int (45 : Int32), .int (45 : Int32), .int (97 : Int32), .int (115 : Int32)] := StrChars.Road.codOf (cs := [45, 45, 97, 115]) (n := 4) rfl (by decide)
    have O1 : OStr Z T1.heap x ([45, 45, 97, 115] : List Int32) := ⟨xb, kb1, 0, (4 : Int32), _, Es1, Fv1, Fc1, Av1, cd1, by decide, by decide⟩
    exact own_retW X1 hx hlk hEL OW1 rfl hret rfl (Or.inr (Or.inr (Or.inr (Or.inr ⟨rfl, rfl, rfl⟩)))) (hb hby own_d_method_3_code_55) ⟨x, _, rfl, (Fr.nil n0), E1, O1, by decide⟩ (by decide) (by decide)
  · refine OGo.step (fun _ kk => XS.ifYes X0.here hx rfl (pc0 := 50) (pc' := 56) rfl (hb hby own_d_method_3_code_50) rfl ((if0 _ _).trans (feq q0).2) (by decide) (by decide) kk) ?_
    show OGo p e below (s₁.setTop (mkF m 56 #[.val (.int p1), .val (.int p2), .val (.int p3), .val (.int p4), .val (.int ((p3 &&& (255 : Int32)).toUInt32.toUInt16.toUInt32.toInt32)), .val (.int ((((p3.toUInt32 >>> ((8 : Int32) &&& 31).toUInt32).toInt32) &&& (255 : Int32)).toUInt32.toUInt16.toUInt32.toInt32)), .val (.int ((((p3.toUInt32 >>> ((16 : Int32) &&& 31).toUInt32).toInt32) &&& (255 : Int32)).toUInt32.toUInt16.toUInt32.toInt32)), .val (.int ((((p3.toUInt32 >>> ((24 : Int32) &&& 31).toUInt32).toInt32) &&& (255 : Int32)).toUInt32.toUInt16.toUInt32.toInt32)), .val (.int ((p4 &&& (255 : Int32)).toUInt32.toUInt16.toUInt32.toInt32)), .unset, .unset, .unset, .unset] [])) _
    refine OGo.step (fun _ kk => XS.iloadN X0.here hx rfl (hb hby own_d_method_3_code_56) rfl kk) ?_
    refine OGo.step (fun _ kk => XS.iconst X0.here hx rfl (hb hby own_d_method_3_code_57) kk) ?_
    show OGo p e below (s₁.setTop (mkF m 58 #[.val (.int p1), .val (.int p2), .val (.int p3), .val (.int p4), .val (.int ((p3 &&& (255 : Int32)).toUInt32.toUInt16.toUInt32.toInt32)), .val (.int ((((p3.toUInt32 >>> ((8 : Int32) &&& 31).toUInt32).toInt32) &&& (255 : Int32)).toUInt32.toUInt16.toUInt32.toInt32)), .val (.int ((((p3.toUInt32 >>> ((16 : Int32) &&& 31).toUInt32).toInt32) &&& (255 : Int32)).toUInt32.toUInt16.toUInt32.toInt32)), .val (.int ((((p3.toUInt32 >>> ((24 : Int32) &&& 31).toUInt32).toInt32) &&& (255 : Int32)).toUInt32.toUInt16.toUInt32.toInt32)), .val (.int ((p4 &&& (255 : Int32)).toUInt32.toUInt16.toUInt32.toInt32)), .unset, .unset, .unset, .unset] [(.int (2 : Int32)), (.int p1)])) _
    by_cases q2 : p1 = (2 : Int32)
    · refine OGo.step (fun _ kk => XS.icmpNo X0.here hx rfl (hb hby own_d_method_3_code_58) rfl (teq q2).2 kk) ?_
      show OGo p e below (s₁.setTop (mkF m 61 #[.val (.int p1), .val (.int p2), .val (.int p3), .val (.int p4), .val (.int ((p3 &&& (255 : Int32)).toUInt32.toUInt16.toUInt32.toInt32)), .val (.int ((((p3.toUInt32 >>> ((8 : Int32) &&& 31).toUInt32).toInt32) &&& (255 : Int32)).toUInt32.toUInt16.toUInt32.toInt32)), .val (.int ((((p3.toUInt32 >>> ((16 : Int32) &&& 31).toUInt32).toInt32) &&& (255 : Int32)).toUInt32.toUInt16.toUInt32.toInt32)), .val (.int ((((p3.toUInt32 >>> ((24 : Int32) &&& 31).toUInt32).toInt32) &&& (255 : Int32)).toUInt32.toUInt16.toUInt32.toInt32)), .val (.int ((p4 &&& (255 : Int32)).toUInt32.toUInt16.toUInt32.toInt32)), .unset, .unset, .unset, .unset] [])) _
      obtain ⟨T2, h2, X2, e2, E2, A2, D2, U2, st2⟩ := newO X0 hx hZ hown (hw _ (List.mem_of_getElem? (i := 104) rfl)) (hw _ (List.mem_of_getElem? (i := 6) rfl)) (hw _ (List.mem_of_getElem? (i := 5) rfl)) e0 (g := (mkF m 61 #[.val (.int p1), .val (.int p2), .val (.int p3), .val (.int p4), .val (.int ((p3 &&& (255 : Int32)).toUInt32.toUInt16.toUInt32.toInt32)), .val (.int ((((p3.toUInt32 >>> ((8 : Int32) &&& 31).toUInt32).toInt32) &&& (255 : Int32)).toUInt32.toUInt16.toUInt32.toInt32)), .val (.int ((((p3.toUInt32 >>> ((16 : Int32) &&& 31).toUInt32).toInt32) &&& (255 : Int32)).toUInt32.toUInt16.toUInt32.toInt32)), .val (.int ((((p3.toUInt32 >>> ((24 : Int32) &&& 31).toUInt32).toInt32) &&& (255 : Int32)).toUInt32.toUInt16.toUInt32.toInt32)), .val (.int ((p4 &&& (255 : Int32)).toUInt32.toUInt16.toUInt32.toInt32)), .unset, .unset, .unset, .unset] [])) rfl (hb hby own_d_method_3_code_61) (by decide) (by decide)
      obtain ⟨x, g2⟩ : ∃ z, z = h0.size := ⟨_, rfl⟩
      rw [← g2] at A2 D2 U2 st2
      refine OGo.step st2 ?_
      show OGo p e below (T2.setTop (mkF m 64 #[.val (.int p1), .val (.int p2), .val (.int p3), .val (.int p4), .val (.int ((p3 &&& (255 : Int32)).toUInt32.toUInt16.toUInt32.toInt32)), .val (.int ((((p3.toUInt32 >>> ((8 : Int32) &&& 31).toUInt32).toInt32) &&& (255 : Int32)).toUInt32.toUInt16.toUInt32.toInt32)), .val (.int ((((p3.toUInt32 >>> ((16 : Int32) &&& 31).toUInt32).toInt32) &&& (255 : Int32)).toUInt32.toUInt16.toUInt32.toInt32)), .val (.int ((((p3.toUInt32 >>> ((24 : Int32) &&& 31).toUInt32).toInt32) &&& (255 : Int32)).toUInt32.toUInt16.toUInt32.toInt32)), .val (.int ((p4 &&& (255 : Int32)).toUInt32.toUInt16.toUInt32.toInt32)), .unset, .unset, .unset, .unset] [(.ref x)])) _
      have gf_x : n0 ≤ x := Nat.le_trans Z0 (Nat.le_of_eq g2.symm)
      have sz2 : n0 ≤ h2.size := Nat.le_trans Z0 E2.1
      have OW3 := OW0.ext E2
      have F2_value : Fld Z h2 x "java/lang/String" "value" "[B" .null := D2 (Or.inr (hw _ (List.mem_of_getElem? (i := 8) rfl))) (ty := (.array .byte)) (by decide)
      have F2_coder : Fld Z h2 x "java/lang/String" "coder" "B" (.int (0 : Int32)) := D2 (Or.inr (hw _ (List.mem_of_getElem? (i := 9) rfl))) (ty := .byte) (by decide)
      have sf4 := own_safe_null (EL := consts_1) OW3.2.1.alike A2 F2_value
      refine OGo.step (fun _ kk => XS.dup X2.here hx rfl (hb hby own_d_method_3_code_64) rfl rfl kk) ?_
      refine OGo.step (fun _ kk => XS.iconst X2.here hx rfl (hb hby own_d_method_3_code_65) kk) ?_
      show OGo p e below (T2.setTop (mkF m 66 #[.val (.int p1), .val (.int p2), .val (.int p3), .val (.int p4), .val (.int ((p3 &&& (255 : Int32)).toUInt32.toUInt16.toUInt32.toInt32)), .val (.int ((((p3.toUInt32 >>> ((8 : Int32) &&& 31).toUInt32).toInt32) &&& (255 : Int32)).toUInt32.toUInt16.toUInt32.toInt32)), .val (.int ((((p3.toUInt32 >>> ((16 : Int32) &&& 31).toUInt32).toInt32) &&& (255 : Int32)).toUInt32.toUInt16.toUInt32.toInt32)), .val (.int ((((p3.toUInt32 >>> ((24 : Int32) &&& 31).toUInt32).toInt32) &&& (255 : Int32)).toUInt32.toUInt16.toUInt32.toInt32)), .val (.int ((p4 &&& (255 : Int32)).toUInt32.toUInt16.toUInt32.toInt32)), .unset, .unset, .unset, .unset] [(.int (5 : Int32)), (.ref x), (.ref x)])) _
      obtain ⟨T5, h5, k5, X5, e5, E5, A5, st5⟩ := newP X2 hx hZ (hw _ (List.mem_of_getElem? (i := 105) rfl)) e2 (g := (mkF m 66 #[.val (.int p1), .val (.int p2), .val (.int p3), .val (.int p4), .val (.int ((p3 &&& (255 : Int32)).toUInt32.toUInt16.toUInt32.toInt32)), .val (.int ((((p3.toUInt32 >>> ((8 : Int32) &&& 31).toUInt32).toInt32) &&& (255 : Int32)).toUInt32.toUInt16.toUInt32.toInt32)), .val (.int ((((p3.toUInt32 >>> ((16 : Int32) &&& 31).toUInt32).toInt32) &&& (255 : Int32)).toUInt32.toUInt16.toUInt32.toInt32)), .val (.int ((((p3.toUInt32 >>> ((24 : Int32) &&& 31).toUInt32).toInt32) &&& (255 : Int32)).toUInt32.toUInt16.toUInt32.toInt32)), .val (.int ((p4 &&& (255 : Int32)).toUInt32.toUInt16.toUInt32.toInt32)), .unset, .unset, .unset, .unset] [(.int (5 : Int32)), (.ref x), (.ref x)])) rfl (hb hby own_d_method_3_code_66) rfl (by decide) (cap := 5) (by decide) (by decide) (by decide) (by decide)
      obtain ⟨b, g5⟩ : ∃ z, z = h2.size := ⟨_, rfl⟩
      rw [← g5] at A5 st5
      refine OGo.step st5 ?_
      show OGo p e below (T5.setTop (mkF m 68 #[.val (.int p1), .val (.int p2), .val (.int p3), .val (.int p4), .val (.int ((p3 &&& (255 : Int32)).toUInt32.toUInt16.toUInt32.toInt32)), .val (.int ((((p3.toUInt32 >>> ((8 : Int32) &&& 31).toUInt32).toInt32) &&& (255 : Int32)).toUInt32.toUInt16.toUInt32.toInt32)), .val (.int ((((p3.toUInt32 >>> ((16 : Int32) &&& 31).toUInt32).toInt32) &&& (255 : Int32)).toUInt32.toUInt16.toUInt32.toInt32)), .val (.int ((((p3.toUInt32 >>> ((24 : Int32) &&& 31).toUInt32).toInt32) &&& (255 : Int32)).toUInt32.toUInt16.toUInt32.toInt32)), .val (.int ((p4 &&& (255 : Int32)).toUInt32.toUInt16.toUInt32.toInt32)), .unset, .unset, .unset, .unset] [(.ref b), (.ref x), (.ref x)])) _
      have ne_x_b : x ≠ b := Nat.ne_of_lt (Nat.lt_of_lt_of_le A2.lt (Nat.le_of_eq g5.symm))
      have gf_b : n0 ≤ b := Nat.le_trans sz2 (Nat.le_of_eq g5.symm)
      have sz5 : n0 ≤ h5.size := Nat.le_trans sz2 E5.1
      have sf6 := Safe.ext E5 OW3.chv sf4
      have OW7 := OW3.ext E5
      have Va8 : Arv Z h5 b k5 .char (5 : Int32) [(.int (0 : Int32)), (.int (0 : Int32)), (.int (0 : Int32)), (.int (0 : Int32)), (.int (0 : Int32))] (.int (0 : Int32)) := (Arv.new A5 (by decide)).pad (pad_rep [] (.int (0 : Int32)) 5)
      refine OGo.step (fun _ kk => XS.dup X5.here hx rfl (hb hby own_d_method_3_code_68) rfl rfl kk) ?_
      refine OGo.step (fun _ kk => XS.iconst X5.here hx rfl (hb hby own_d_method_3_code_69) kk) ?_
      refine OGo.step (fun _ kk => XS.bipush X5.here hx rfl (hb hby own_d_method_3_code_70) kk) ?_
      show OGo p e below (T5.setTop (mkF m 72 #[.val (.int p1), .val (.int p2), .val (.int p3), .val (.int p4), .val (.int ((p3 &&& (255 : Int32)).toUInt32.toUInt16.toUInt32.toInt32)), .val (.int ((((p3.toUInt32 >>> ((8 : Int32) &&& 31).toUInt32).toInt32) &&& (255 : Int32)).toUInt32.toUInt16.toUInt32.toInt32)), .val (.int ((((p3.toUInt32 >>> ((16 : Int32) &&& 31).toUInt32).toInt32) &&& (255 : Int32)).toUInt32.toUInt16.toUInt32.toInt32)), .val (.int ((((p3.toUInt32 >>> ((24 : Int32) &&& 31).toUInt32).toInt32) &&& (255 : Int32)).toUInt32.toUInt16.toUInt32.toInt32)), .val (.int ((p4 &&& (255 : Int32)).toUInt32.toUInt16.toUInt32.toInt32)), .unset, .unset, .unset, .unset] [(.int (45 : Int32)), (.int (0 : Int32)), (.ref b), (.ref b), (.ref x), (.ref x)])) _
      obtain ⟨cA9, A9, q9, S9, M9, H9, G9⟩ := Va8
      obtain ⟨T10, h10, X10, e10, W10, st10⟩ := stC X5 hx hZ e5 A9 (j := (0 : Int32)) (inb_of S9 ⟨by decide, by decide⟩) (g := (mkF m 72 #[.val (.int p1), .val (.int p2), .val (.int p3), .val (.int p4), .val (.int ((p3 &&& (255 : Int32)).toUInt32.toUInt16.toUInt32.toInt32)), .val (.int ((((p3.toUInt32 >>> ((8 : Int32) &&& 31).toUInt32).toInt32) &&& (255 : Int32)).toUInt32.toUInt16.toUInt32.toInt32)), .val (.int ((((p3.toUInt32 >>> ((16 : Int32) &&& 31).toUInt32).toInt32) &&& (255 : Int32)).toUInt32.toUInt16.toUInt32.toInt32)), .val (.int ((((p3.toUInt32 >>> ((24 : Int32) &&& 31).toUInt32).toInt32) &&& (255 : Int32)).toUInt32.toUInt16.toUInt32.toInt32)), .val (.int ((p4 &&& (255 : Int32)).toUInt32.toUInt16.toUInt32.toInt32)), .unset, .unset, .unset, .unset] [(.int (45 : Int32)), (.int (0 : Int32)), (.ref b), (.ref b), (.ref x), (.ref x)])) rfl rfl (hb hby own_d_method_3_code_72)
      refine OGo.step st10 ?_
      show OGo p e below (T10.setTop (mkF m 73 #[.val (.int p1), .val (.int p2), .val (.int p3), .val (.int p4), .val (.int ((p3 &&& (255 : Int32)).toUInt32.toUInt16.toUInt32.toInt32)), .val (.int ((((p3.toUInt32 >>> ((8 : Int32) &&& 31).toUInt32).toInt32) &&& (255 : Int32)).toUInt32.toUInt16.toUInt32.toInt32)), .val (.int ((((p3.toUInt32 >>> ((16 : Int32) &&& 31).toUInt32).toInt32) &&& (255 : Int32)).toUInt32.toUInt16.toUInt32.toInt32)), .val (.int ((((p3.toUInt32 >>> ((24 : Int32) &&& 31).toUInt32).toInt32) &&& (255 : Int32)).toUInt32.toUInt16.toUInt32.toInt32)), .val (.int ((p4 &&& (255 : Int32)).toUInt32.toUInt16.toUInt32.toInt32)), .unset, .unset, .unset, .unset] [(.ref b), (.ref x), (.ref x)])) _
      have Va9 : Arv Z h10 b k5 .char (5 : Int32) [(.int (nar .char (45 : Int32))), (.int (0 : Int32)), (.int (0 : Int32)), (.int (0 : Int32)), (.int (0 : Int32))] (.int (0 : Int32)) := Arv.set A9 q9 S9 M9 H9 G9 (fits_nar_char _) W10 0 rfl (Nat.le_of_ble_eq_true rfl)
      have Nf10 := Fr.snoc X10 (Fr.nil n0) gf_b
      have sz10 : n0 ≤ h10.size := by rw [W10.size]; exact sz5
      have sw11 := (Safe.arr (EL := consts_1) OW7.2.1.alike A9 (by decide))
      have sf12 := Safe.wr W10 sw11 OW7.chv sf6
      have OW13 := OW7.wr W10 sw11
      refine OGo.step (fun _ kk => XS.dup X10.here hx rfl (hb hby own_d_method_3_code_73) rfl rfl kk) ?_
      refine OGo.step (fun _ kk => XS.iconst X10.here hx rfl (hb hby own_d_method_3_code_74) kk) ?_
      refine OGo.step (fun _ kk => XS.bipush X10.here hx rfl (hb hby own_d_method_3_code_75) kk) ?_
      show OGo p e below (T10.setTop (mkF m 77 #[.val (.int p1), .val (.int p2), .val (.int p3), .val (.int p4), .val (.int ((p3 &&& (255 : Int32)).toUInt32.toUInt16.toUInt32.toInt32)), .val (.int ((((p3.toUInt32 >>> ((8 : Int32) &&& 31).toUInt32).toInt32) &&& (255 : Int32)).toUInt32.toUInt16.toUInt32.toInt32)), .val (.int ((((p3.toUInt32 >>> ((16 : Int32) &&& 31).toUInt32).toInt32) &&& (255 : Int32)).toUInt32.toUInt16.toUInt32.toInt32)), .val (.int ((((p3.toUInt32 >>> ((24 : Int32) &&& 31).toUInt32).toInt32) &&& (255 : Int32)).toUInt32.toUInt16.toUInt32.toInt32)), .val (.int ((p4 &&& (255 : Int32)).toUInt32.toUInt16.toUInt32.toInt32)), .unset, .unset, .unset, .unset] [(.int (45 : Int32)), (.int (1 : Int32)), (.ref b), (.ref b), (.ref x), (.ref x)])) _
      obtain ⟨cA14, A14, q14, S14, M14, H14, G14⟩ := Va9
      obtain ⟨T15, h15, X15, e15, W15, st15⟩ := stC X10 hx hZ e10 A14 (j := (1 : Int32)) (inb_of S14 ⟨by decide, by decide⟩) (g := (mkF m 77 #[.val (.int p1), .val (.int p2), .val (.int p3), .val (.int p4), .val (.int ((p3 &&& (255 : Int32)).toUInt32.toUInt16.toUInt32.toInt32)), .val (.int ((((p3.toUInt32 >>> ((8 : Int32) &&& 31).toUInt32).toInt32) &&& (255 : Int32)).toUInt32.toUInt16.toUInt32.toInt32)), .val (.int ((((p3.toUInt32 >>> ((16 : Int32) &&& 31).toUInt32).toInt32) &&& (255 : Int32)).toUInt32.toUInt16.toUInt32.toInt32)), .val (.int ((((p3.toUInt32 >>> ((24 : Int32) &&& 31).toUInt32).toInt32) &&& (255 : Int32)).toUInt32.toUInt16.toUInt32.toInt32)), .val (.int ((p4 &&& (255 : Int32)).toUInt32.toUInt16.toUInt32.toInt32)), .unset, .unset, .unset, .unset] [(.int (45 : Int32)), (.int (1 : Int32)), (.ref b), (.ref b), (.ref x), (.ref x)])) rfl rfl (hb hby own_d_method_3_code_77)
      refine OGo.step st15 ?_
      show OGo p e below (T15.setTop (mkF m 78 #[.val (.int p1), .val (.int p2), .val (.int p3), .val (.int p4), .val (.int ((p3 &&& (255 : Int32)).toUInt32.toUInt16.toUInt32.toInt32)), .val (.int ((((p3.toUInt32 >>> ((8 : Int32) &&& 31).toUInt32).toInt32) &&& (255 : Int32)).toUInt32.toUInt16.toUInt32.toInt32)), .val (.int ((((p3.toUInt32 >>> ((16 : Int32) &&& 31).toUInt32).toInt32) &&& (255 : Int32)).toUInt32.toUInt16.toUInt32.toInt32)), .val (.int ((((p3.toUInt32 >>> ((24 : Int32) &&& 31).toUInt32).toInt32) &&& (255 : Int32)).toUInt32.toUInt16.toUInt32.toInt32)), .val (.int ((p4 &&& (255 : Int32)).toUInt32.toUInt16.toUInt32.toInt32)), .unset, .unset, .unset, .unset] [(.ref b), (.ref x), (.ref x)])) _
      have Va14 : Arv Z h15 b k5 .char (5 : Int32) [(.int (nar .char (45 : Int32))), (.int (nar .char (45 : Int32))), (.int (0 : Int32)), (.int (0 : Int32)), (.int (0 : Int32))] (.int (0 : Int32)) := Arv.set A14 q14 S14 M14 H14 G14 (fits_nar_char _) W15 1 rfl (Nat.le_of_ble_eq_true rfl)
      have Nf15 := Fr.snoc X15 Nf10 gf_b
      have sz15 : n0 ≤ h15.size := by rw [W15.size]; exact sz10
      have sw16 := (Safe.arr (EL := consts_1) OW13.2.1.alike A14 (by decide))
      have sf17 := Safe.wr W15 sw16 OW13.chv sf12
      have OW18 := OW13.wr W15 sw16
      refine OGo.step (fun _ kk => XS.dup X15.here hx rfl (hb hby own_d_method_3_code_78) rfl rfl kk) ?_
      refine OGo.step (fun _ kk => XS.iconst X15.here hx rfl (hb hby own_d_method_3_code_79) kk) ?_
      refine OGo.step (fun _ kk => XS.bipush X15.here hx rfl (hb hby own_d_method_3_code_80) kk) ?_
      show OGo p e below (T15.setTop (mkF m 82 #[.val (.int p1), .val (.int p2), .val (.int p3), .val (.int p4), .val (.int ((p3 &&& (255 : Int32)).toUInt32.toUInt16.toUInt32.toInt32)), .val (.int ((((p3.toUInt32 >>> ((8 : Int32) &&& 31).toUInt32).toInt32) &&& (255 : Int32)).toUInt32.toUInt16.toUInt32.toInt32)), .val (.int ((((p3.toUInt32 >>> ((16 : Int32) &&& 31).toUInt32).toInt32) &&& (255 : Int32)).toUInt32.toUInt16.toUInt32.toInt32)), .val (.int ((((p3.toUInt32 >>> ((24 : Int32) &&& 31).toUInt32).toInt32) &&& (255 : Int32)).toUInt32.toUInt16.toUInt32.toInt32)), .val (.int ((p4 &&& (255 : Int32)).toUInt32.toUInt16.toUInt32.toInt32)), .unset, .unset, .unset, .unset] [(.int (97 : Int32)), (.int (2 : Int32)), (.ref b), (.ref b), (.ref x), (.ref x)])) _
      obtain ⟨cA19, A19, q19, S19, M19, H19, G19⟩ := Va14
      obtain ⟨T20, h20, X20, e20, W20, st20⟩ := stC X15 hx hZ e15 A19 (j := (2 : Int32)) (inb_of S19 ⟨by decide, by decide⟩) (g := (mkF m 82 #[.val (.int p1), .val (.int p2), .val (.int p3), .val (.int p4), .val (.int ((p3 &&& (255 : Int32)).toUInt32.toUInt16.toUInt32.toInt32)), .val (.int ((((p3.toUInt32 >>> ((8 : Int32) &&& 31).toUInt32).toInt32) &&& (255 : Int32)).toUInt32.toUInt16.toUInt32.toInt32)), .val (.int ((((p3.toUInt32 >>> ((16 : Int32) &&& 31).toUInt32).toInt32) &&& (255 : Int32)).toUInt32.toUInt16.toUInt32.toInt32)), .val (.int ((((p3.toUInt32 >>> ((24 : Int32) &&& 31).toUInt32).toInt32) &&& (255 : Int32)).toUInt32.toUInt16.toUInt32.toInt32)), .val (.int ((p4 &&& (255 : Int32)).toUInt32.toUInt16.toUInt32.toInt32)), .unset, .unset, .unset, .unset] [(.int (97 : Int32)), (.int (2 : Int32)), (.ref b), (.ref b), (.ref x), (.ref x)])) rfl rfl (hb hby own_d_method_3_code_82)
      refine OGo.step st20 ?_
      show OGo p e below (T20.setTop (mkF m 83 #[.val (.int p1), .val (.int p2), .val (.int p3), .val (.int p4), .val (.int ((p3 &&& (255 : Int32)).toUInt32.toUInt16.toUInt32.toInt32)), .val (.int ((((p3.toUInt32 >>> ((8 : Int32) &&& 31).toUInt32).toInt32) &&& (255 : Int32)).toUInt32.toUInt16.toUInt32.toInt32)), .val (.int ((((p3.toUInt32 >>> ((16 : Int32) &&& 31).toUInt32).toInt32) &&& (255 : Int32)).toUInt32.toUInt16.toUInt32.toInt32)), .val (.int ((((p3.toUInt32 >>> ((24 : Int32) &&& 31).toUInt32).toInt32) &&& (255 : Int32)).toUInt32.toUInt16.toUInt32.toInt32)), .val (.int ((p4 &&& (255 : Int32)).toUInt32.toUInt16.toUInt32.toInt32)), .unset, .unset, .unset, .unset] [(.ref b), (.ref x), (.ref x)])) _
      have Va19 : Arv Z h20 b k5 .char (5 : Int32) [(.int (nar .char (45 : Int32))), (.int (nar .char (45 : Int32))), (.int (nar .char (97 : Int32))), (.int (0 : Int32)), (.int (0 : Int32))] (.int (0 : Int32)) := Arv.set A19 q19 S19 M19 H19 G19 (fits_nar_char _) W20 2 rfl (Nat.le_of_ble_eq_true rfl)
      have Nf20 := Fr.snoc X20 Nf15 gf_b
      have sz20 : n0 ≤ h20.size := by rw [W20.size]; exact sz15
      have sw21 := (Safe.arr (EL := consts_1) OW18.2.1.alike A19 (by decide))
      have sf22 := Safe.wr W20 sw21 OW18.chv sf17
      have OW23 := OW18.wr W20 sw21
      refine OGo.step (fun _ kk => XS.dup X20.here hx rfl (hb hby own_d_method_3_code_83) rfl rfl kk) ?_
      refine OGo.step (fun _ kk => XS.iconst X20.here hx rfl (hb hby own_d_method_3_code_84) kk) ?_
      refine OGo.step (fun _ kk => XS.bipush X20.here hx rfl (hb hby own_d_method_3_code_85) kk) ?_
      show OGo p e below (T20.setTop (mkF m 87 #[.val (.int p1), .val (.int p2), .val (.int p3), .val (.int p4), .val (.int ((p3 &&& (255 : Int32)).toUInt32.toUInt16.toUInt32.toInt32)), .val (.int ((((p3.toUInt32 >>> ((8 : Int32) &&& 31).toUInt32).toInt32) &&& (255 : Int32)).toUInt32.toUInt16.toUInt32.toInt32)), .val (.int ((((p3.toUInt32 >>> ((16 : Int32) &&& 31).toUInt32).toInt32) &&& (255 : Int32)).toUInt32.toUInt16.toUInt32.toInt32)), .val (.int ((((p3.toUInt32 >>> ((24 : Int32) &&& 31).toUInt32).toInt32) &&& (255 : Int32)).toUInt32.toUInt16.toUInt32.toInt32)), .val (.int ((p4 &&& (255 : Int32)).toUInt32.toUInt16.toUInt32.toInt32)), .unset, .unset, .unset, .unset] [(.int (115 : Int32)), (.int (3 : Int32)), (.ref b), (.ref b), (.ref x), (.ref x)])) _
      obtain ⟨cA24, A24, q24, S24, M24, H24, G24⟩ := Va19
      obtain ⟨T25, h25, X25, e25, W25, st25⟩ := stC X20 hx hZ e20 A24 (j := (3 : Int32)) (inb_of S24 ⟨by decide, by decide⟩) (g := (mkF m 87 #[.val (.int p1), .val (.int p2), .val (.int p3), .val (.int p4), .val (.int ((p3 &&& (255 : Int32)).toUInt32.toUInt16.toUInt32.toInt32)), .val (.int ((((p3.toUInt32 >>> ((8 : Int32) &&& 31).toUInt32).toInt32) &&& (255 : Int32)).toUInt32.toUInt16.toUInt32.toInt32)), .val (.int ((((p3.toUInt32 >>> ((16 : Int32) &&& 31).toUInt32).toInt32) &&& (255 : Int32)).toUInt32.toUInt16.toUInt32.toInt32)), .val (.int ((((p3.toUInt32 >>> ((24 : Int32) &&& 31).toUInt32).toInt32) &&& (255 : Int32)).toUInt32.toUInt16.toUInt32.toInt32)), .val (.int ((p4 &&& (255 : Int32)).toUInt32.toUInt16.toUInt32.toInt32)), .unset, .unset, .unset, .unset] [(.int (115 : Int32)), (.int (3 : Int32)), (.ref b), (.ref b), (.ref x), (.ref x)])) rfl rfl (hb hby own_d_method_3_code_87)
      refine OGo.step st25 ?_
      show OGo p e below (T25.setTop (mkF m 88 #[.val (.int p1), .val (.int p2), .val (.int p3), .val (.int p4), .val (.int ((p3 &&& (255 : Int32)).toUInt32.toUInt16.toUInt32.toInt32)), .val (.int ((((p3.toUInt32 >>> ((8 : Int32) &&& 31).toUInt32).toInt32) &&& (255 : Int32)).toUInt32.toUInt16.toUInt32.toInt32)), .val (.int ((((p3.toUInt32 >>> ((16 : Int32) &&& 31).toUInt32).toInt32) &&& (255 : Int32)).toUInt32.toUInt16.toUInt32.toInt32)), .val (.int ((((p3.toUInt32 >>> ((24 : Int32) &&& 31).toUInt32).toInt32) &&& (255 : Int32)).toUInt32.toUInt16.toUInt32.toInt32)), .val (.int ((p4 &&& (255 : Int32)).toUInt32.toUInt16.toUInt32.toInt32)), .unset, .unset, .unset, .unset] [(.ref b), (.ref x), (.ref x)])) _
      have Va24 : Arv Z h25 b k5 .char (5 : Int32) [(.int (nar .char (45 : Int32))), (.int (nar .char (45 : Int32))), (.int (nar .char (97 : Int32))), (.int (nar .char (115 : Int32))), (.int (0 : Int32))] (.int (0 : Int32)) := Arv.set A24 q24 S24 M24 H24 G24 (fits_nar_char _) W25 3 rfl (Nat.le_of_ble_eq_true rfl)
      have Nf25 := Fr.snoc X25 Nf20 gf_b
      have sz25 : n0 ≤ h25.size := by rw [W25.size]; exact sz20
      have sw26 := (Safe.arr (EL := consts_1) OW23.2.1.alike A24 (by decide))
      have sf27 := Safe.wr W25 sw26 OW23.chv sf22
      have OW28 := OW23.wr W25 sw26
      refine OGo.step (fun _ kk => XS.dup X25.here hx rfl (hb hby own_d_method_3_code_88) rfl rfl kk) ?_
      refine OGo.step (fun _ kk => XS.iconst X25.here hx rfl (hb hby own_d_method_3_code_89) kk) ?_
      refine OGo.step (fun _ kk => XS.iload X25.here hx rfl (hb hby own_d_method_3_code_90) rfl kk) ?_
      show OGo p e below (T25.setTop (mkF m 92 #[.val (.int p1), .val (.int p2), .val (.int p3), .val (.int p4), .val (.int ((p3 &&& (255 : Int32)).toUInt32.toUInt16.toUInt32.toInt32)), .val (.int ((((p3.toUInt32 >>> ((8 : Int32) &&& 31).toUInt32).toInt32) &&& (255 : Int32)).toUInt32.toUInt16.toUInt32.toInt32)), .val (.int ((((p3.toUInt32 >>> ((16 : Int32) &&& 31).toUInt32).toInt32) &&& (255 : Int32)).toUInt32.toUInt16.toUInt32.toInt32)), .val (.int ((((p3.toUInt32 >>> ((24 : Int32) &&& 31).toUInt32).toInt32) &&& (255 : Int32)).toUInt32.toUInt16.toUInt32.toInt32)), .val (.int ((p4 &&& (255 : Int32)).toUInt32.toUInt16.toUInt32.toInt32)), .unset, .unset, .unset, .unset] [(.int ((p4 &&& (255 : Int32)).toUInt32.toUInt16.toUInt32.toInt32)), (.int (4 : Int32)), (.ref b), (.ref b), (.ref x), (.ref x)])) _
      obtain ⟨cA29, A29, q29, S29, M29, H29, G29⟩ := Va24
      obtain ⟨T30, h30, X30, e30, W30, st30⟩ := stC X25 hx hZ e25 A29 (j := (4 : Int32)) (inb_of S29 ⟨by decide, by decide⟩) (g := (mkF m 92 #[.val (.int p1), .val (.int p2), .val (.int p3), .val (.int p4), .val (.int ((p3 &&& (255 : Int32)).toUInt32.toUInt16.toUInt32.toInt32)), .val (.int ((((p3.toUInt32 >>> ((8 : Int32) &&& 31).toUInt32).toInt32) &&& (255 : Int32)).toUInt32.toUInt16.toUInt32.toInt32)), .val (.int ((((p3.toUInt32 >>> ((16 : Int32) &&& 31).toUInt32).toInt32) &&& (255 : Int32)).toUInt32.toUInt16.toUInt32.toInt32)), .val (.int ((((p3.toUInt32 >>> ((24 : Int32) &&& 31).toUInt32).toInt32) &&& (255 : Int32)).toUInt32.toUInt16.toUInt32.toInt32)), .val (.int ((p4 &&& (255 : Int32)).toUInt32.toUInt16.toUInt32.toInt32)), .unset, .unset, .unset, .unset] [(.int ((p4 &&& (255 : Int32)).toUInt32.toUInt16.toUInt32.toInt32)), (.int (4 : Int32)), (.ref b), (.ref b), (.ref x), (.ref x)])) rfl rfl (hb hby own_d_method_3_code_92)
      refine OGo.step st30 ?_
      show OGo p e below (T30.setTop (mkF m 93 #[.val (.int p1), .val (.int p2), .val (.int p3), .val (.int p4), .val (.int ((p3 &&& (255 : Int32)).toUInt32.toUInt16.toUInt32.toInt32)), .val (.int ((((p3.toUInt32 >>> ((8 : Int32) &&& 31).toUInt32).toInt32) &&& (255 : Int32)).toUInt32.toUInt16.toUInt32.toInt32)), .val (.int ((((p3.toUInt32 >>> ((16 : Int32) &&& 31).toUInt32).toInt32) &&& (255 : Int32)).toUInt32.toUInt16.toUInt32.toInt32)), .val (.int ((((p3.toUInt32 >>> ((24 : Int32) &&& 31).toUInt32).toInt32) &&& (255 : Int32)).toUInt32.toUInt16.toUInt32.toInt32)), .val (.int ((p4 &&& (255 : Int32)).toUInt32.toUInt16.toUInt32.toInt32)), .unset, .unset, .unset, .unset] [(.ref b), (.ref x), (.ref x)])) _
      have Va29 : Arv Z h30 b k5 .char (5 : Int32) [(.int (nar .char (45 : Int32))), (.int (nar .char (45 : Int32))), (.int (nar .char (97 : Int32))), (.int (nar .char (115 : Int32))), (.int (nar .char ((p4 &&& (255 : Int32)).toUInt32.toUInt16.toUInt32.toInt32)))] (.int (0 : Int32)) := Arv.set A29 q29 S29 M29 H29 G29 (fits_nar_char _) W30 4 rfl (Nat.le_of_ble_eq_true rfl)
      have Nf30 := Fr.snoc X30 Nf25 gf_b
      have sz30 : n0 ≤ h30.size := by rw [W30.size]; exact sz25
      have sw31 := (Safe.arr (EL := consts_1) OW28.2.1.alike A29 (by decide))
      have sf32 := Safe.wr W30 sw31 OW28.chv sf27
      have OW33 := OW28.wr W30 sw31
      have fc34 := ((((((A2.ext E5).wr W10).wr W15).wr W20).wr W25).wr W30)
      have fc35 := ((((((F2_value.ext E5).other W10 (Or.inl ne_x_b)).other W15 (Or.inl ne_x_b)).other W20 (Or.inl ne_x_b)).other W25 (Or.inl ne_x_b)).other W30 (Or.inl ne_x_b))
      have fc36 := ((((((F2_coder.ext E5).other W10 (Or.inl ne_x_b)).other W15 (Or.inl ne_x_b)).other W20 (Or.inl ne_x_b)).other W25 (Or.inl ne_x_b)).other W30 (Or.inl ne_x_b))
      have hpx : ∀ c ∈ ([(nar .char (45 : Int32)), (nar .char (45 : Int32)), (nar .char (97 : Int32)), (nar .char (115 : Int32)), (nar .char ((p4 &&& (255 : Int32)).toUInt32.toUInt16.toUInt32.toInt32))] : List Int32), ¬ c < 0 ∧ ¬ (255 : Int32) < c := (own_allS (own_nc (by decide)) (own_allS (own_nc (by decide)) (own_allS (own_nc (by decide)) (own_allS (own_nc (by decide)) (own_allS (own_nc hb8) own_all0)))))
      have xt37 := (own_ext_trans E2 E5)
      have xt38 := (own_ext_wr xt37 W10 (Nat.le_trans E2.1 (Nat.le_of_eq g5.symm)))
      have xt39 := (own_ext_wr xt38 W15 (Nat.le_trans E2.1 (Nat.le_of_eq g5.symm)))
      have xt40 := (own_ext_wr xt39 W20 (Nat.le_trans E2.1 (Nat.le_of_eq g5.symm)))
      have xt41 := (own_ext_wr xt40 W25 (Nat.le_trans E2.1 (Nat.le_of_eq g5.symm)))
      have xt42 := (own_ext_wr xt41 W30 (Nat.le_trans E2.1 (Nat.le_of_eq g5.symm)))
      have fx43 := SC.ext xt42
      refine own_specialK X30 hx hZ (y := (⟨"java/lang/String", "<init>", "([C)V"⟩ : MethodName)) rfl hown (hw _ (List.mem_of_getElem? (i := 106) rfl)) (hw _ (List.mem_of_getElem? (i := 107) rfl)) (hw _ (List.mem_of_getElem? (i := 108) rfl)) (by decide) (a := x) (W := 1) (StrChars.Road.backV (W := 1) hZ (fun d hd => hw d ((by decide +kernel : ∀ d ∈ StrChars.Road.words, d ∈ tables_1) d hd)) (kI := 4) (hw _ (List.mem_of_getElem? (i := 6) rfl)) (cs := ([(nar .char (45 : Int32)), (nar .char (45 : Int32)), (nar .char (97 : Int32)), (nar .char (115 : Int32)), (nar .char ((p4 &&& (255 : Int32)).toUInt32.toUInt16.toUInt32.toInt32))] : List Int32)) (bs := (([(nar .char (45 : Int32)), (nar .char (45 : Int32)), (nar .char (97 : Int32)), (nar .char (115 : Int32)), (nar .char ((p4 &&& (255 : Int32)).toUInt32.toUInt16.toUInt32.toInt32))] : List Int32)).map (fun c => c.toInt8.toInt32)) (n := 5) gf_x sz30 fc34 fc35 fc36 Va29 fx43 hzc rfl rfl (by decide) (by decide) hpx rfl (by decide) (by decide)) e30 (pc := 93) (Ls := #[.val (.int p1), .val (.int p2), .val (.int p3), .val (.int p4), .val (.int ((p3 &&& (255 : Int32)).toUInt32.toUInt16.toUInt32.toInt32)), .val (.int ((((p3.toUInt32 >>> ((8 : Int32) &&& 31).toUInt32).toInt32) &&& (255 : Int32)).toUInt32.toUInt16.toUInt32.toInt32)), .val (.int ((((p3.toUInt32 >>> ((16 : Int32) &&& 31).toUInt32).toInt32) &&& (255 : Int32)).toUInt32.toUInt16.toUInt32.toInt32)), .val (.int ((((p3.toUInt32 >>> ((24 : Int32) &&& 31).toUInt32).toInt32) &&& (255 : Int32)).toUInt32.toUInt16.toUInt32.toInt32)), .val (.int ((p4 &&& (255 : Int32)).toUInt32.toUInt16.toUInt32.toInt32)), .unset, .unset, .unset, .unset]) (argsL := [(.ref b)]) (rest := [(.ref x)]) (by rw [hml]; rfl) (lenOf own_pd0 rfl) rfl (hb hby own_d_method_3_code_93) (by decide) (by decide) ?_
      intro v44 T44 L44 X44 hQ44
      obtain ⟨rfl, N44, K44, Ex44, Fc44, t44, kb44, u144, u244, u344, Fv44, Av44⟩ := hQ44
      show OGo p e below (T44.setTop (mkF m 96 #[.val (.int p1), .val (.int p2), .val (.int p3), .val (.int p4), .val (.int ((p3 &&& (255 : Int32)).toUInt32.toUInt16.toUInt32.toInt32)), .val (.int ((((p3.toUInt32 >>> ((8 : Int32) &&& 31).toUInt32).toInt32) &&& (255 : Int32)).toUInt32.toUInt16.toUInt32.toInt32)), .val (.int ((((p3.toUInt32 >>> ((16 : Int32) &&& 31).toUInt32).toInt32) &&& (255 : Int32)).toUInt32.toUInt16.toUInt32.toInt32)), .val (.int ((((p3.toUInt32 >>> ((24 : Int32) &&& 31).toUInt32).toInt32) &&& (255 : Int32)).toUInt32.toUInt16.toUInt32.toInt32)), .val (.int ((p4 &&& (255 : Int32)).toUInt32.toUInt16.toUInt32.toInt32)), .unset, .unset, .unset, .unset] [(.ref x)])) _
      have Nc44 := Fr.app Nf30 N44
      have sz44 : n0 ≤ T44.heap.size := Nat.le_trans sz30 K44.1
      have sf45 := Safe.keep K44 (sfS sf32 sf0) OW33.chv sf32
      have OW46 := OW33.keep K44 (sfS sf32 sf0)
      have O44 : OStr Z T44.heap x ([(nar .char (45 : Int32)), (nar .char (45 : Int32)), (nar .char (97 : Int32)), (nar .char (115 : Int32)), (nar .char ((p4 &&& (255 : Int32)).toUInt32.toUInt16.toUInt32.toInt32))] : List Int32) := ⟨t44, kb44, 0, (5 : Int32), _, Ex44, Fv44, Fc44, Av44, StrChars.Road.codOf (n := 5) rfl (fun c hc => (hpx c hc).2), own_up _ hpx, Nat.le_of_ble_eq_true rfl⟩
      have xt47 := (own_ext_keep xt42 K44 (allS (Nat.le_of_eq g2.symm) all0))
      exact own_retW X44 hx hlk hEL OW46 rfl hret rfl (Or.inr (Or.inr (Or.inr (Or.inr ⟨rfl, rfl, rfl⟩)))) (hb hby own_d_method_3_code_96) ⟨x, _, rfl, Nc44, xt47, O44, hpx⟩ (by decide) (by decide)
    · refine OGo.step (fun _ kk => XS.icmpYes X0.here hx rfl (pc0 := 58) (pc' := 97) rfl (hb hby own_d_method_3_code_58) rfl (feq q2).2 (by decide) (by decide) kk) ?_
      show OGo p e below (s₁.setTop (mkF m 97 #[.val (.int p1), .val (.int p2), .val (.int p3), .val (.int p4), .val (.int ((p3 &&& (255 : Int32)).toUInt32.toUInt16.toUInt32.toInt32)), .val (.int ((((p3.toUInt32 >>> ((8 : Int32) &&& 31).toUInt32).toInt32) &&& (255 : Int32)).toUInt32.toUInt16.toUInt32.toInt32)), .val (.int ((((p3.toUInt32 >>> ((16 : Int32) &&& 31).toUInt32).toInt32) &&& (255 : Int32)).toUInt32.toUInt16.toUInt32.toInt32)), .val (.int ((((p3.toUInt32 >>> ((24 : Int32) &&& 31).toUInt32).toInt32) &&& (255 : Int32)).toUInt32.toUInt16.toUInt32.toInt32)), .val (.int ((p4 &&& (255 : Int32)).toUInt32.toUInt16.toUInt32.toInt32)), .unset, .unset, .unset, .unset] [])) _
      refine OGo.step (fun _ kk => XS.iloadN X0.here hx rfl (hb hby own_d_method_3_code_97) rfl kk) ?_
      refine OGo.step (fun _ kk => XS.iconst X0.here hx rfl (hb hby own_d_method_3_code_98) kk) ?_
      show OGo p e below (s₁.setTop (mkF m 99 #[.val (.int p1), .val (.int p2), .val (.int p3), .val (.int p4), .val (.int ((p3 &&& (255 : Int32)).toUInt32.toUInt16.toUInt32.toInt32)), .val (.int ((((p3.toUInt32 >>> ((8 : Int32) &&& 31).toUInt32).toInt32) &&& (255 : Int32)).toUInt32.toUInt16.toUInt32.toInt32)), .val (.int ((((p3.toUInt32 >>> ((16 : Int32) &&& 31).toUInt32).toInt32) &&& (255 : Int32)).toUInt32.toUInt16.toUInt32.toInt32)), .val (.int ((((p3.toUInt32 >>> ((24 : Int32) &&& 31).toUInt32).toInt32) &&& (255 : Int32)).toUInt32.toUInt16.toUInt32.toInt32)), .val (.int ((p4 &&& (255 : Int32)).toUInt32.toUInt16.toUInt32.toInt32)), .unset, .unset, .unset, .unset] [(.int (3 : Int32)), (.int p1)])) _
      by_cases q3 : p1 = (3 : Int32)
      · refine OGo.step (fun _ kk => XS.icmpNo X0.here hx rfl (hb hby own_d_method_3_code_99) rfl (teq q3).2 kk) ?_
        show OGo p e below (s₁.setTop (mkF m 102 #[.val (.int p1), .val (.int p2), .val (.int p3), .val (.int p4), .val (.int ((p3 &&& (255 : Int32)).toUInt32.toUInt16.toUInt32.toInt32)), .val (.int ((((p3.toUInt32 >>> ((8 : Int32) &&& 31).toUInt32).toInt32) &&& (255 : Int32)).toUInt32.toUInt16.toUInt32.toInt32)), .val (.int ((((p3.toUInt32 >>> ((16 : Int32) &&& 31).toUInt32).toInt32) &&& (255 : Int32)).toUInt32.toUInt16.toUInt32.toInt32)), .val (.int ((((p3.toUInt32 >>> ((24 : Int32) &&& 31).toUInt32).toInt32) &&& (255 : Int32)).toUInt32.toUInt16.toUInt32.toInt32)), .val (.int ((p4 &&& (255 : Int32)).toUInt32.toUInt16.toUInt32.toInt32)), .unset, .unset, .unset, .unset] [])) _
        obtain ⟨T48, h48, X48, e48, E48, A48, D48, U48, st48⟩ := newO X0 hx hZ hown (hw _ (List.mem_of_getElem? (i := 104) rfl)) (hw _ (List.mem_of_getElem? (i := 6) rfl)) (hw _ (List.mem_of_getElem? (i := 5) rfl)) e0 (g := (mkF m 102 #[.val (.int p1), .val (.int p2), .val (.int p3), .val (.int p4), .val (.int ((p3 &&& (255 : Int32)).toUInt32.toUInt16.toUInt32.toInt32)), .val (.int ((((p3.toUInt32 >>> ((8 : Int32) &&& 31).toUInt32).toInt32) &&& (255 : Int32)).toUInt32.toUInt16.toUInt32.toInt32)), .val (.int ((((p3.toUInt32 >>> ((16 : Int32) &&& 31).toUInt32).toInt32) &&& (255 : Int32)).toUInt32.toUInt16.toUInt32.toInt32)), .val (.int ((((p3.toUInt32 >>> ((24 : Int32) &&& 31).toUInt32).toInt32) &&& (255 : Int32)).toUInt32.toUInt16.toUInt32.toInt32)), .val (.int ((p4 &&& (255 : Int32)).toUInt32.toUInt16.toUInt32.toInt32)), .unset, .unset, .unset, .unset] [])) rfl (hb hby own_d_method_3_code_102) (by decide) (by decide)
        obtain ⟨x, g48⟩ : ∃ z, z = h0.size := ⟨_, rfl⟩
        rw [← g48] at A48 D48 U48 st48
        refine OGo.step st48 ?_
        show OGo p e below (T48.setTop (mkF m 105 #[.val (.int p1), .val (.int p2), .val (.int p3), .val (.int p4), .val (.int ((p3 &&& (255 : Int32)).toUInt32.toUInt16.toUInt32.toInt32)), .val (.int ((((p3.toUInt32 >>> ((8 : Int32) &&& 31).toUInt32).toInt32) &&& (255 : Int32)).toUInt32.toUInt16.toUInt32.toInt32)), .val (.int ((((p3.toUInt32 >>> ((16 : Int32) &&& 31).toUInt32).toInt32) &&& (255 : Int32)).toUInt32.toUInt16.toUInt32.toInt32)), .val (.int ((((p3.toUInt32 >>> ((24 : Int32) &&& 31).toUInt32).toInt32) &&& (255 : Int32)).toUInt32.toUInt16.toUInt32.toInt32)), .val (.int ((p4 &&& (255 : Int32)).toUInt32.toUInt16.toUInt32.toInt32)), .unset, .unset, .unset, .unset] [(.ref x)])) _
        have gf_x : n0 ≤ x := Nat.le_trans Z0 (Nat.le_of_eq g48.symm)
        have sz48 : n0 ≤ h48.size := Nat.le_trans Z0 E48.1
        have OW49 := OW0.ext E48
        have F48_value : Fld Z h48 x "java/lang/String" "value" "[B" .null := D48 (Or.inr (hw _ (List.mem_of_getElem? (i := 8) rfl))) (ty := (.array .byte)) (by decide)
        have F48_coder : Fld Z h48 x "java/lang/String" "coder" "B" (.int (0 : Int32)) := D48 (Or.inr (hw _ (List.mem_of_getElem? (i := 9) rfl))) (ty := .byte) (by decide)
        have sf50 := own_safe_null (EL := consts_1) OW49.2.1.alike A48 F48_value
        refine OGo.step (fun _ kk => XS.dup X48.here hx rfl (hb hby own_d_method_3_code_105) rfl rfl kk) ?_
        refine OGo.step (fun _ kk => XS.iconst X48.here hx rfl (hb hby own_d_method_3_code_106) kk) ?_
        show OGo p e below (T48.setTop (mkF m 107 #[.val (.int p1), .val (.int p2), .val (.int p3), .val (.int p4), .val (.int ((p3 &&& (255 : Int32)).toUInt32.toUInt16.toUInt32.toInt32)), .val (.int ((((p3.toUInt32 >>> ((8 : Int32) &&& 31).toUInt32).toInt32) &&& (255 : Int32)).toUInt32.toUInt16.toUInt32.toInt32)), .val (.int ((((p3.toUInt32 >>> ((16 : Int32) &&& 31).toUInt32).toInt32) &&& (255 : Int32)).toUInt32.toUInt16.toUInt32.toInt32)), .val (.int ((((p3.toUInt32 >>> ((24 : Int32) &&& 31).toUInt32).toInt32) &&& (255 : Int32)).toUInt32.toUInt16.toUInt32.toInt32)), .val (.int ((p4 &&& (255 : Int32)).toUInt32.toUInt16.toUInt32.toInt32)), .unset, .unset, .unset, .unset] [(.int (3 : Int32)), (.ref x), (.ref x)])) _
        obtain ⟨T51, h51, k51, X51, e51, E51, A51, st51⟩ := newP X48 hx hZ (hw _ (List.mem_of_getElem? (i := 105) rfl)) e48 (g := (mkF m 107 #[.val (.int p1), .val (.int p2), .val (.int p3), .val (.int p4), .val (.int ((p3 &&& (255 : Int32)).toUInt32.toUInt16.toUInt32.toInt32)), .val (.int ((((p3.toUInt32 >>> ((8 : Int32) &&& 31).toUInt32).toInt32) &&& (255 : Int32)).toUInt32.toUInt16.toUInt32.toInt32)), .val (.int ((((p3.toUInt32 >>> ((16 : Int32) &&& 31).toUInt32).toInt32) &&& (255 : Int32)).toUInt32.toUInt16.toUInt32.toInt32)), .val (.int ((((p3.toUInt32 >>> ((24 : Int32) &&& 31).toUInt32).toInt32) &&& (255 : Int32)).toUInt32.toUInt16.toUInt32.toInt32)), .val (.int ((p4 &&& (255 : Int32)).toUInt32.toUInt16.toUInt32.toInt32)), .unset, .unset, .unset, .unset] [(.int (3 : Int32)), (.ref x), (.ref x)])) rfl (hb hby own_d_method_3_code_107) rfl (by decide) (cap := 3) (by decide) (by decide) (by decide) (by decide)
        obtain ⟨b, g51⟩ : ∃ z, z = h48.size := ⟨_, rfl⟩
        rw [← g51] at A51 st51
        refine OGo.step st51 ?_
        show OGo p e below (T51.setTop (mkF m 109 #[.val (.int p1), .val (.int p2), .val (.int p3), .val (.int p4), .val (.int ((p3 &&& (255 : Int32)).toUInt32.toUInt16.toUInt32.toInt32)), .val (.int ((((p3.toUInt32 >>> ((8 : Int32) &&& 31).toUInt32).toInt32) &&& (255 : Int32)).toUInt32.toUInt16.toUInt32.toInt32)), .val (.int ((((p3.toUInt32 >>> ((16 : Int32) &&& 31).toUInt32).toInt32) &&& (255 : Int32)).toUInt32.toUInt16.toUInt32.toInt32)), .val (.int ((((p3.toUInt32 >>> ((24 : Int32) &&& 31).toUInt32).toInt32) &&& (255 : Int32)).toUInt32.toUInt16.toUInt32.toInt32)), .val (.int ((p4 &&& (255 : Int32)).toUInt32.toUInt16.toUInt32.toInt32)), .unset, .unset, .unset, .unset] [(.ref b), (.ref x), (.ref x)])) _
        have ne_x_b : x ≠ b := Nat.ne_of_lt (Nat.lt_of_lt_of_le A48.lt (Nat.le_of_eq g51.symm))
        have gf_b : n0 ≤ b := Nat.le_trans sz48 (Nat.le_of_eq g51.symm)
        have sz51 : n0 ≤ h51.size := Nat.le_trans sz48 E51.1
        have sf52 := Safe.ext E51 OW49.chv sf50
        have OW53 := OW49.ext E51
        have Va54 : Arv Z h51 b k51 .char (3 : Int32) [(.int (0 : Int32)), (.int (0 : Int32)), (.int (0 : Int32))] (.int (0 : Int32)) := (Arv.new A51 (by decide)).pad (pad_rep [] (.int (0 : Int32)) 3)
        refine OGo.step (fun _ kk => XS.dup X51.here hx rfl (hb hby own_d_method_3_code_109) rfl rfl kk) ?_
        refine OGo.step (fun _ kk => XS.iconst X51.here hx rfl (hb hby own_d_method_3_code_110) kk) ?_
        refine OGo.step (fun _ kk => XS.bipush X51.here hx rfl (hb hby own_d_method_3_code_111) kk) ?_
        show OGo p e below (T51.setTop (mkF m 113 #[.val (.int p1), .val (.int p2), .val (.int p3), .val (.int p4), .val (.int ((p3 &&& (255 : Int32)).toUInt32.toUInt16.toUInt32.toInt32)), .val (.int ((((p3.toUInt32 >>> ((8 : Int32) &&& 31).toUInt32).toInt32) &&& (255 : Int32)).toUInt32.toUInt16.toUInt32.toInt32)), .val (.int ((((p3.toUInt32 >>> ((16 : Int32) &&& 31).toUInt32).toInt32) &&& (255 : Int32)).toUInt32.toUInt16.toUInt32.toInt32)), .val (.int ((((p3.toUInt32 >>> ((24 : Int32) &&& 31).toUInt32).toInt32) &&& (255 : Int32)).toUInt32.toUInt16.toUInt32.toInt32)), .val (.int ((p4 &&& (255 : Int32)).toUInt32.toUInt16.toUInt32.toInt32)), .unset, .unset, .unset, .unset] [(.int (45 : Int32)), (.int (0 : Int32)), (.ref b), (.ref b), (.ref x), (.ref x)])) _
        obtain ⟨cA55, A55, q55, S55, M55, H55, G55⟩ := Va54
        obtain ⟨T56, h56, X56, e56, W56, st56⟩ := stC X51 hx hZ e51 A55 (j := (0 : Int32)) (inb_of S55 ⟨by decide, by decide⟩) (g := (mkF m 113 #[.val (.int p1), .val (.int p2), .val (.int p3), .val (.int p4), .val (.int ((p3 &&& (255 : Int32)).toUInt32.toUInt16.toUInt32.toInt32)), .val (.int ((((p3.toUInt32 >>> ((8 : Int32) &&& 31).toUInt32).toInt32) &&& (255 : Int32)).toUInt32.toUInt16.toUInt32.toInt32)), .val (.int ((((p3.toUInt32 >>> ((16 : Int32) &&& 31).toUInt32).toInt32) &&& (255 : Int32)).toUInt32.toUInt16.toUInt32.toInt32)), .val (.int ((((p3.toUInt32 >>> ((24 : Int32) &&& 31).toUInt32).toInt32) &&& (255 : Int32)).toUInt32.toUInt16.toUInt32.toInt32)), .val (.int ((p4 &&& (255 : Int32)).toUInt32.toUInt16.toUInt32.toInt32)), .unset, .unset, .unset, .unset] [(.int (45 : Int32)), (.int (0 : Int32)), (.ref b), (.ref b), (.ref x), (.ref x)])) rfl rfl (hb hby own_d_method_3_code_113)
        refine OGo.step st56 ?_
        show OGo p e below (T56.setTop (mkF m 114 #[.val (.int p1), .val (.int p2), .val (.int p3), .val (.int p4), .val (.int ((p3 &&& (255 : Int32)).toUInt32.toUInt16.toUInt32.toInt32)), .val (.int ((((p3.toUInt32 >>> ((8 : Int32) &&& 31).toUInt32).toInt32) &&& (255 : Int32)).toUInt32.toUInt16.toUInt32.toInt32)), .val (.int ((((p3.toUInt32 >>> ((16 : Int32) &&& 31).toUInt32).toInt32) &&& (255 : Int32)).toUInt32.toUInt16.toUInt32.toInt32)), .val (.int ((((p3.toUInt32 >>> ((24 : Int32) &&& 31).toUInt32).toInt32) &&& (255 : Int32)).toUInt32.toUInt16.toUInt32.toInt32)), .val (.int ((p4 &&& (255 : Int32)).toUInt32.toUInt16.toUInt32.toInt32)), .unset, .unset, .unset, .unset] [(.ref b), (.ref x), (.ref x)])) _
        have Va55 : Arv Z h56 b k51 .char (3 : Int32) [(.int (nar .char (45 : Int32))), (.int (0 : Int32)), (.int (0 : Int32))] (.int (0 : Int32)) := Arv.set A55 q55 S55 M55 H55 G55 (fits_nar_char _) W56 0 rfl (Nat.le_of_ble_eq_true rfl)
        have Nf56 := Fr.snoc X56 (Fr.nil n0) gf_b
        have sz56 : n0 ≤ h56.size := by rw [W56.size]; exact sz51
        have sw57 := (Safe.arr (EL := consts_1) OW53.2.1.alike A55 (by decide))
        have sf58 := Safe.wr W56 sw57 OW53.chv sf52
        have OW59 := OW53.wr W56 sw57
        refine OGo.step (fun _ kk => XS.dup X56.here hx rfl (hb hby own_d_method_3_code_114) rfl rfl kk) ?_
        refine OGo.step (fun _ kk => XS.iconst X56.here hx rfl (hb hby own_d_method_3_code_115) kk) ?_
        refine OGo.step (fun _ kk => XS.bipush X56.here hx rfl (hb hby own_d_method_3_code_116) kk) ?_
        show OGo p e below (T56.setTop (mkF m 118 #[.val (.int p1), .val (.int p2), .val (.int p3), .val (.int p4), .val (.int ((p3 &&& (255 : Int32)).toUInt32.toUInt16.toUInt32.toInt32)), .val (.int ((((p3.toUInt32 >>> ((8 : Int32) &&& 31).toUInt32).toInt32) &&& (255 : Int32)).toUInt32.toUInt16.toUInt32.toInt32)), .val (.int ((((p3.toUInt32 >>> ((16 : Int32) &&& 31).toUInt32).toInt32) &&& (255 : Int32)).toUInt32.toUInt16.toUInt32.toInt32)), .val (.int ((((p3.toUInt32 >>> ((24 : Int32) &&& 31).toUInt32).toInt32) &&& (255 : Int32)).toUInt32.toUInt16.toUInt32.toInt32)), .val (.int ((p4 &&& (255 : Int32)).toUInt32.toUInt16.toUInt32.toInt32)), .unset, .unset, .unset, .unset] [(.int (45 : Int32)), (.int (1 : Int32)), (.ref b), (.ref b), (.ref x), (.ref x)])) _
        obtain ⟨cA60, A60, q60, S60, M60, H60, G60⟩ := Va55
        obtain ⟨T61, h61, X61, e61, W61, st61⟩ := stC X56 hx hZ e56 A60 (j := (1 : Int32)) (inb_of S60 ⟨by decide, by decide⟩) (g := (mkF m 118 #[.val (.int p1), .val (.int p2), .val (.int p3), .val (.int p4), .val (.int ((p3 &&& (255 : Int32)).toUInt32.toUInt16.toUInt32.toInt32)), .val (.int ((((p3.toUInt32 >>> ((8 : Int32) &&& 31).toUInt32).toInt32) &&& (255 : Int32)).toUInt32.toUInt16.toUInt32.toInt32)), .val (.int ((((p3.toUInt32 >>> ((16 : Int32) &&& 31).toUInt32).toInt32) &&& (255 : Int32)).toUInt32.toUInt16.toUInt32.toInt32)), .val (.int ((((p3.toUInt32 >>> ((24 : Int32) &&& 31).toUInt32).toInt32) &&& (255 : Int32)).toUInt32.toUInt16.toUInt32.toInt32)), .val (.int ((p4 &&& (255 : Int32)).toUInt32.toUInt16.toUInt32.toInt32)), .unset, .unset, .unset, .unset] [(.int (45 : Int32)), (.int (1 : Int32)), (.ref b), (.ref b), (.ref x), (.ref x)])) rfl rfl (hb hby own_d_method_3_code_118)
        refine OGo.step st61 ?_
        show OGo p e below (T61.setTop (mkF m 119 #[.val (.int p1), .val (.int p2), .val (.int p3), .val (.int p4), .val (.int ((p3 &&& (255 : Int32)).toUInt32.toUInt16.toUInt32.toInt32)), .val (.int ((((p3.toUInt32 >>> ((8 : Int32) &&& 31).toUInt32).toInt32) &&& (255 : Int32)).toUInt32.toUInt16.toUInt32.toInt32)), .val (.int ((((p3.toUInt32 >>> ((16 : Int32) &&& 31).toUInt32).toInt32) &&& (255 : Int32)).toUInt32.toUInt16.toUInt32.toInt32)), .val (.int ((((p3.toUInt32 >>> ((24 : Int32) &&& 31).toUInt32).toInt32) &&& (255 : Int32)).toUInt32.toUInt16.toUInt32.toInt32)), .val (.int ((p4 &&& (255 : Int32)).toUInt32.toUInt16.toUInt32.toInt32)), .unset, .unset, .unset, .unset] [(.ref b), (.ref x), (.ref x)])) _
        have Va60 : Arv Z h61 b k51 .char (3 : Int32) [(.int (nar .char (45 : Int32))), (.int (nar .char (45 : Int32))), (.int (0 : Int32))] (.int (0 : Int32)) := Arv.set A60 q60 S60 M60 H60 G60 (fits_nar_char _) W61 1 rfl (Nat.le_of_ble_eq_true rfl)
        have Nf61 := Fr.snoc X61 Nf56 gf_b
        have sz61 : n0 ≤ h61.size := by rw [W61.size]; exact sz56
        have sw62 := (Safe.arr (EL := consts_1) OW59.2.1.alike A60 (by decide))
        have sf63 := Safe.wr W61 sw62 OW59.chv sf58
        have OW64 := OW59.wr W61 sw62
        refine OGo.step (fun _ kk => XS.dup X61.here hx rfl (hb hby own_d_method_3_code_119) rfl rfl kk) ?_
        refine OGo.step (fun _ kk => XS.iconst X61.here hx rfl (hb hby own_d_method_3_code_120) kk) ?_
        refine OGo.step (fun _ kk => XS.iload X61.here hx rfl (hb hby own_d_method_3_code_121) rfl kk) ?_
        show OGo p e below (T61.setTop (mkF m 123 #[.val (.int p1), .val (.int p2), .val (.int p3), .val (.int p4), .val (.int ((p3 &&& (255 : Int32)).toUInt32.toUInt16.toUInt32.toInt32)), .val (.int ((((p3.toUInt32 >>> ((8 : Int32) &&& 31).toUInt32).toInt32) &&& (255 : Int32)).toUInt32.toUInt16.toUInt32.toInt32)), .val (.int ((((p3.toUInt32 >>> ((16 : Int32) &&& 31).toUInt32).toInt32) &&& (255 : Int32)).toUInt32.toUInt16.toUInt32.toInt32)), .val (.int ((((p3.toUInt32 >>> ((24 : Int32) &&& 31).toUInt32).toInt32) &&& (255 : Int32)).toUInt32.toUInt16.toUInt32.toInt32)), .val (.int ((p4 &&& (255 : Int32)).toUInt32.toUInt16.toUInt32.toInt32)), .unset, .unset, .unset, .unset] [(.int ((((p3.toUInt32 >>> ((16 : Int32) &&& 31).toUInt32).toInt32) &&& (255 : Int32)).toUInt32.toUInt16.toUInt32.toInt32)), (.int (2 : Int32)), (.ref b), (.ref b), (.ref x), (.ref x)])) _
        obtain ⟨cA65, A65, q65, S65, M65, H65, G65⟩ := Va60
        obtain ⟨T66, h66, X66, e66, W66, st66⟩ := stC X61 hx hZ e61 A65 (j := (2 : Int32)) (inb_of S65 ⟨by decide, by decide⟩) (g := (mkF m 123 #[.val (.int p1), .val (.int p2), .val (.int p3), .val (.int p4), .val (.int ((p3 &&& (255 : Int32)).toUInt32.toUInt16.toUInt32.toInt32)), .val (.int ((((p3.toUInt32 >>> ((8 : Int32) &&& 31).toUInt32).toInt32) &&& (255 : Int32)).toUInt32.toUInt16.toUInt32.toInt32)), .val (.int ((((p3.toUInt32 >>> ((16 : Int32) &&& 31).toUInt32).toInt32) &&& (255 : Int32)).toUInt32.toUInt16.toUInt32.toInt32)), .val (.int ((((p3.toUInt32 >>> ((24 : Int32) &&& 31).toUInt32).toInt32) &&& (255 : Int32)).toUInt32.toUInt16.toUInt32.toInt32)), .val (.int ((p4 &&& (255 : Int32)).toUInt32.toUInt16.toUInt32.toInt32)), .unset, .unset, .unset, .unset] [(.int ((((p3.toUInt32 >>> ((16 : Int32) &&& 31).toUInt32).toInt32) &&& (255 : Int32)).toUInt32.toUInt16.toUInt32.toInt32)), (.int (2 : Int32)), (.ref b), (.ref b), (.ref x), (.ref x)])) rfl rfl (hb hby own_d_method_3_code_123)
        refine OGo.step st66 ?_
        show OGo p e below (T66.setTop (mkF m 124 #[.val (.int p1), .val (.int p2), .val (.int p3), .val (.int p4), .val (.int ((p3 &&& (255 : Int32)).toUInt32.toUInt16.toUInt32.toInt32)), .val (.int ((((p3.toUInt32 >>> ((8 : Int32) &&& 31).toUInt32).toInt32) &&& (255 : Int32)).toUInt32.toUInt16.toUInt32.toInt32)), .val (.int ((((p3.toUInt32 >>> ((16 : Int32) &&& 31).toUInt32).toInt32) &&& (255 : Int32)).toUInt32.toUInt16.toUInt32.toInt32)), .val (.int ((((p3.toUInt32 >>> ((24 : Int32) &&& 31).toUInt32).toInt32) &&& (255 : Int32)).toUInt32.toUInt16.toUInt32.toInt32)), .val (.int ((p4 &&& (255 : Int32)).toUInt32.toUInt16.toUInt32.toInt32)), .unset, .unset, .unset, .unset] [(.ref b), (.ref x), (.ref x)])) _
        have Va65 : Arv Z h66 b k51 .char (3 : Int32) [(.int (nar .char (45 : Int32))), (.int (nar .char (45 : Int32))), (.int (nar .char ((((p3.toUInt32 >>> ((16 : Int32) &&& 31).toUInt32).toInt32) &&& (255 : Int32)).toUInt32.toUInt16.toUInt32.toInt32)))] (.int (0 : Int32)) := Arv.set A65 q65 S65 M65 H65 G65 (fits_nar_char _) W66 2 rfl (Nat.le_of_ble_eq_true rfl)
        have Nf66 := Fr.snoc X66 Nf61 gf_b
        have sz66 : n0 ≤ h66.size := by rw [W66.size]; exact sz61
        have sw67 := (Safe.arr (EL := consts_1) OW64.2.1.alike A65 (by decide))
        have sf68 := Safe.wr W66 sw67 OW64.chv sf63
        have OW69 := OW64.wr W66 sw67
        have fc70 := ((((A48.ext E51).wr W56).wr W61).wr W66)
        have fc71 := ((((F48_value.ext E51).other W56 (Or.inl ne_x_b)).other W61 (Or.inl ne_x_b)).other W66 (Or.inl ne_x_b))
        have fc72 := ((((F48_coder.ext E51).other W56 (Or.inl ne_x_b)).other W61 (Or.inl ne_x_b)).other W66 (Or.inl ne_x_b))
        have hpx : ∀ c ∈ ([(nar .char (45 : Int32)), (nar .char (45 : Int32)), (nar .char ((((p3.toUInt32 >>> ((16 : Int32) &&& 31).toUInt32).toInt32) &&& (255 : Int32)).toUInt32.toUInt16.toUInt32.toInt32))] : List Int32), ¬ c < 0 ∧ ¬ (255 : Int32) < c := (own_allS (own_nc (by decide)) (own_allS (own_nc (by decide)) (own_allS (own_nc hb6) own_all0)))
        have xt73 := (own_ext_trans E48 E51)
        have xt74 := (own_ext_wr xt73 W56 (Nat.le_trans E48.1 (Nat.le_of_eq g51.symm)))
        have xt75 := (own_ext_wr xt74 W61 (Nat.le_trans E48.1 (Nat.le_of_eq g51.symm)))
        have xt76 := (own_ext_wr xt75 W66 (Nat.le_trans E48.1 (Nat.le_of_eq g51.symm)))
        have fx77 := SC.ext xt76
        refine own_specialK X66 hx hZ (y := (⟨"java/lang/String", "<init>", "([C)V"⟩ : MethodName)) rfl hown (hw _ (List.mem_of_getElem? (i := 106) rfl)) (hw _ (List.mem_of_getElem? (i := 107) rfl)) (hw _ (List.mem_of_getElem? (i := 108) rfl)) (by decide) (a := x) (W := 1) (StrChars.Road.backV (W := 1) hZ (fun d hd => hw d ((by decide +kernel : ∀ d ∈ StrChars.Road.words, d ∈ tables_1) d hd)) (kI := 4) (hw _ (List.mem_of_getElem? (i := 6) rfl)) (cs := ([(nar .char (45 : Int32)), (nar .char (45 : Int32)), (nar .char ((((p3.toUInt32 >>> ((16 : Int32) &&& 31).toUInt32).toInt32) &&& (255 : Int32)).toUInt32.toUInt16.toUInt32.toInt32))] : List Int32)) (bs := (([(nar .char (45 : Int32)), (nar .char (45 : Int32)), (nar .char ((((p3.toUInt32 >>> ((16 : Int32) &&& 31).toUInt32).toInt32) &&& (255 : Int32)).toUInt32.toUInt16.toUInt32.toInt32))] : List Int32)).map (fun c => c.toInt8.toInt32)) (n := 3) gf_x sz66 fc70 fc71 fc72 Va65 fx77 hzc rfl rfl (by decide) (by decide) hpx rfl (by decide) (by decide)) e66 (pc := 124) (Ls := #[.val (.int p1), .val (.int p2), .val (.int p3), .val (.int p4), .val (.int ((p3 &&& (255 : Int32)).toUInt32.toUInt16.toUInt32.toInt32)), .val (.int ((((p3.toUInt32 >>> ((8 : Int32) &&& 31).toUInt32).toInt32) &&& (255 : Int32)).toUInt32.toUInt16.toUInt32.toInt32)), .val (.int ((((p3.toUInt32 >>> ((16 : Int32) &&& 31).toUInt32).toInt32) &&& (255 : Int32)).toUInt32.toUInt16.toUInt32.toInt32)), .val (.int ((((p3.toUInt32 >>> ((24 : Int32) &&& 31).toUInt32).toInt32) &&& (255 : Int32)).toUInt32.toUInt16.toUInt32.toInt32)), .val (.int ((p4 &&& (255 : Int32)).toUInt32.toUInt16.toUInt32.toInt32)), .unset, .unset, .unset, .unset]) (argsL := [(.ref b)]) (rest := [(.ref x)]) (by rw [hml]; rfl) (lenOf own_pd0 rfl) rfl (hb hby own_d_method_3_code_124) (by decide) (by decide) ?_
        intro v78 T78 L78 X78 hQ78
        obtain ⟨rfl, N78, K78, Ex78, Fc78, t78, kb78, u178, u278, u378, Fv78, Av78⟩ := hQ78
        show OGo p e below (T78.setTop (mkF m 127 #[.val (.int p1), .val (.int p2), .val (.int p3), .val (.int p4), .val (.int ((p3 &&& (255 : Int32)).toUInt32.toUInt16.toUInt32.toInt32)), .val (.int ((((p3.toUInt32 >>> ((8 : Int32) &&& 31).toUInt32).toInt32) &&& (255 : Int32)).toUInt32.toUInt16.toUInt32.toInt32)), .val (.int ((((p3.toUInt32 >>> ((16 : Int32) &&& 31).toUInt32).toInt32) &&& (255 : Int32)).toUInt32.toUInt16.toUInt32.toInt32)), .val (.int ((((p3.toUInt32 >>> ((24 : Int32) &&& 31).toUInt32).toInt32) &&& (255 : Int32)).toUInt32.toUInt16.toUInt32.toInt32)), .val (.int ((p4 &&& (255 : Int32)).toUInt32.toUInt16.toUInt32.toInt32)), .unset, .unset, .unset, .unset] [(.ref x)])) _
        have Nc78 := Fr.app Nf66 N78
        have sz78 : n0 ≤ T78.heap.size := Nat.le_trans sz66 K78.1
        have sf79 := Safe.keep K78 (sfS sf68 sf0) OW69.chv sf68
        have OW80 := OW69.keep K78 (sfS sf68 sf0)
        have O78 : OStr Z T78.heap x ([(nar .char (45 : Int32)), (nar .char (45 : Int32)), (nar .char ((((p3.toUInt32 >>> ((16 : Int32) &&& 31).toUInt32).toInt32) &&& (255 : Int32)).toUInt32.toUInt16.toUInt32.toInt32))] : List Int32) := ⟨t78, kb78, 0, (3 : Int32), _, Ex78, Fv78, Fc78, Av78, StrChars.Road.codOf (n := 3) rfl (fun c hc => (hpx c hc).2), own_up _ hpx, Nat.le_of_ble_eq_true rfl⟩
        have xt81 := (own_ext_keep xt76 K78 (allS (Nat.le_of_eq g48.symm) all0))
        exact own_retW X78 hx hlk hEL OW80 rfl hret rfl (Or.inr (Or.inr (Or.inr (Or.inr ⟨rfl, rfl, rfl⟩)))) (hb hby own_d_method_3_code_127) ⟨x, _, rfl, Nc78, xt81, O78, hpx⟩ (by decide) (by decide)
      · refine OGo.step (fun _ kk => XS.icmpYes X0.here hx rfl (pc0 := 99) (pc' := 128) rfl (hb hby own_d_method_3_code_99) rfl (feq q3).2 (by decide) (by decide) kk) ?_
        show OGo p e below (s₁.setTop (mkF m 128 #[.val (.int p1), .val (.int p2), .val (.int p3), .val (.int p4), .val (.int ((p3 &&& (255 : Int32)).toUInt32.toUInt16.toUInt32.toInt32)), .val (.int ((((p3.toUInt32 >>> ((8 : Int32) &&& 31).toUInt32).toInt32) &&& (255 : Int32)).toUInt32.toUInt16.toUInt32.toInt32)), .val (.int ((((p3.toUInt32 >>> ((16 : Int32) &&& 31).toUInt32).toInt32) &&& (255 : Int32)).toUInt32.toUInt16.toUInt32.toInt32)), .val (.int ((((p3.toUInt32 >>> ((24 : Int32) &&& 31).toUInt32).toInt32) &&& (255 : Int32)).toUInt32.toUInt16.toUInt32.toInt32)), .val (.int ((p4 &&& (255 : Int32)).toUInt32.toUInt16.toUInt32.toInt32)), .unset, .unset, .unset, .unset] [])) _
        refine OGo.step (fun _ kk => XS.iloadN X0.here hx rfl (hb hby own_d_method_3_code_128) rfl kk) ?_
        refine OGo.step (fun _ kk => XS.iconst X0.here hx rfl (hb hby own_d_method_3_code_129) kk) ?_
        show OGo p e below (s₁.setTop (mkF m 130 #[.val (.int p1), .val (.int p2), .val (.int p3), .val (.int p4), .val (.int ((p3 &&& (255 : Int32)).toUInt32.toUInt16.toUInt32.toInt32)), .val (.int ((((p3.toUInt32 >>> ((8 : Int32) &&& 31).toUInt32).toInt32) &&& (255 : Int32)).toUInt32.toUInt16.toUInt32.toInt32)), .val (.int ((((p3.toUInt32 >>> ((16 : Int32) &&& 31).toUInt32).toInt32) &&& (255 : Int32)).toUInt32.toUInt16.toUInt32.toInt32)), .val (.int ((((p3.toUInt32 >>> ((24 : Int32) &&& 31).toUInt32).toInt32) &&& (255 : Int32)).toUInt32.toUInt16.toUInt32.toInt32)), .val (.int ((p4 &&& (255 : Int32)).toUInt32.toUInt16.toUInt32.toInt32)), .unset, .unset, .unset, .unset] [(.int (4 : Int32)), (.int p1)])) _
        by_cases q4 : p1 = (4 : Int32)
        · refine OGo.step (fun _ kk => XS.icmpNo X0.here hx rfl (hb hby own_d_method_3_code_130) rfl (teq q4).2 kk) ?_
          show OGo p e below (s₁.setTop (mkF m 133 #[.val (.int p1), .val (.int p2), .val (.int p3), .val (.int p4), .val (.int ((p3 &&& (255 : Int32)).toUInt32.toUInt16.toUInt32.toInt32)), .val (.int ((((p3.toUInt32 >>> ((8 : Int32) &&& 31).toUInt32).toInt32) &&& (255 : Int32)).toUInt32.toUInt16.toUInt32.toInt32)), .val (.int ((((p3.toUInt32 >>> ((16 : Int32) &&& 31).toUInt32).toInt32) &&& (255 : Int32)).toUInt32.toUInt16.toUInt32.toInt32)), .val (.int ((((p3.toUInt32 >>> ((24 : Int32) &&& 31).toUInt32).toInt32) &&& (255 : Int32)).toUInt32.toUInt16.toUInt32.toInt32)), .val (.int ((p4 &&& (255 : Int32)).toUInt32.toUInt16.toUInt32.toInt32)), .unset, .unset, .unset, .unset] [])) _
          refine OGo.step (fun _ kk => XS.iload X0.here hx rfl (hb hby own_d_method_3_code_133) rfl kk) ?_
          show OGo p e below (s₁.setTop (mkF m 135 #[.val (.int p1), .val (.int p2), .val (.int p3), .val (.int p4), .val (.int ((p3 &&& (255 : Int32)).toUInt32.toUInt16.toUInt32.toInt32)), .val (.int ((((p3.toUInt32 >>> ((8 : Int32) &&& 31).toUInt32).toInt32) &&& (255 : Int32)).toUInt32.toUInt16.toUInt32.toInt32)), .val (.int ((((p3.toUInt32 >>> ((16 : Int32) &&& 31).toUInt32).toInt32) &&& (255 : Int32)).toUInt32.toUInt16.toUInt32.toInt32)), .val (.int ((((p3.toUInt32 >>> ((24 : Int32) &&& 31).toUInt32).toInt32) &&& (255 : Int32)).toUInt32.toUInt16.toUInt32.toInt32)), .val (.int ((p4 &&& (255 : Int32)).toUInt32.toUInt16.toUInt32.toInt32)), .unset, .unset, .unset, .unset] [(.int ((p3 &&& (255 : Int32)).toUInt32.toUInt16.toUInt32.toInt32))])) _
          refine own_callS X0 hx hZ (y := (⟨"java/lang/String", "valueOf", "(C)Ljava/lang/String;"⟩ : MethodName)) hown (hw _ (List.mem_of_getElem? (i := 12) rfl)) (hw _ (List.mem_of_getElem? (i := 13) rfl)) (hw _ (List.mem_of_getElem? (i := 5) rfl)) (hw _ (List.mem_of_getElem? (i := 14) rfl)) (by decide) (W := 0) (own_valueOf l Z a0 hw [] ((p3 &&& (255 : Int32)).toUInt32.toUInt16.toUInt32.toInt32) zc h0 n0 Z0 SC hzc hb4) e0  (pc := 135) (Ls := #[.val (.int p1), .val (.int p2), .val (.int p3), .val (.int p4), .val (.int ((p3 &&& (255 : Int32)).toUInt32.toUInt16.toUInt32.toInt32)), .val (.int ((((p3.toUInt32 >>> ((8 : Int32) &&& 31).toUInt32).toInt32) &&& (255 : Int32)).toUInt32.toUInt16.toUInt32.toInt32)), .val (.int ((((p3.toUInt32 >>> ((16 : Int32) &&& 31).toUInt32).toInt32) &&& (255 : Int32)).toUInt32.toUInt16.toUInt32.toInt32)), .val (.int ((((p3.toUInt32 >>> ((24 : Int32) &&& 31).toUInt32).toInt32) &&& (255 : Int32)).toUInt32.toUInt16.toUInt32.toInt32)), .val (.int ((p4 &&& (255 : Int32)).toUInt32.toUInt16.toUInt32.toInt32)), .unset, .unset, .unset, .unset]) (argsL := [(.int ((p3 &&& (255 : Int32)).toUInt32.toUInt16.toUInt32.toInt32))]) (rest := []) (by rw [hml]; rfl) (lenOf own_pd1 rfl) rfl (hb hby own_d_method_3_code_135) (by decide) (by decide) (by decide) (by decide) ?_
          intro v82 T82 L82 X82 hQ82
          obtain ⟨x, rfl, N82, Xe82, Ov82⟩ := hQ82
          show OGo p e below (T82.setTop (mkF m 138 #[.val (.int p1), .val (.int p2), .val (.int p3), .val (.int p4), .val (.int ((p3 &&& (255 : Int32)).toUInt32.toUInt16.toUInt32.toInt32)), .val (.int ((((p3.toUInt32 >>> ((8 : Int32) &&& 31).toUInt32).toInt32) &&& (255 : Int32)).toUInt32.toUInt16.toUInt32.toInt32)), .val (.int ((((p3.toUInt32 >>> ((16 : Int32) &&& 31).toUInt32).toInt32) &&& (255 : Int32)).toUInt32.toUInt16.toUInt32.toInt32)), .val (.int ((((p3.toUInt32 >>> ((24 : Int32) &&& 31).toUInt32).toInt32) &&& (255 : Int32)).toUInt32.toUInt16.toUInt32.toInt32)), .val (.int ((p4 &&& (255 : Int32)).toUInt32.toUInt16.toUInt32.toInt32)), .unset, .unset, .unset, .unset] [(.ref x)])) _
          have Nc82 := Fr.app (Fr.nil n0) N82
          have sz82 : n0 ≤ T82.heap.size := Nat.le_trans Z0 Xe82.1
          have OW83 := OW0.ext Xe82
          exact own_retW X82 hx hlk hEL OW83 rfl hret rfl (Or.inr (Or.inr (Or.inr (Or.inr ⟨rfl, rfl, rfl⟩)))) (hb hby own_d_method_3_code_138) ⟨x, _, rfl, Nc82, Xe82, Ov82, own_allS hb4 own_all0⟩ (by decide) (by decide)
        · refine OGo.step (fun _ kk => XS.icmpYes X0.here hx rfl (pc0 := 130) (pc' := 139) rfl (hb hby own_d_method_3_code_130) rfl (feq q4).2 (by decide) (by decide) kk) ?_
          show OGo p e below (s₁.setTop (mkF m 139 #[.val (.int p1), .val (.int p2), .val (.int p3), .val (.int p4), .val (.int ((p3 &&& (255 : Int32)).toUInt32.toUInt16.toUInt32.toInt32)), .val (.int ((((p3.toUInt32 >>> ((8 : Int32) &&& 31).toUInt32).toInt32) &&& (255 : Int32)).toUInt32.toUInt16.toUInt32.toInt32)), .val (.int ((((p3.toUInt32 >>> ((16 : Int32) &&& 31).toUInt32).toInt32) &&& (255 : Int32)).toUInt32.toUInt16.toUInt32.toInt32)), .val (.int ((((p3.toUInt32 >>> ((24 : Int32) &&& 31).toUInt32).toInt32) &&& (255 : Int32)).toUInt32.toUInt16.toUInt32.toInt32)), .val (.int ((p4 &&& (255 : Int32)).toUInt32.toUInt16.toUInt32.toInt32)), .unset, .unset, .unset, .unset] [])) _
          refine OGo.step (fun _ kk => XS.iloadN X0.here hx rfl (hb hby own_d_method_3_code_139) rfl kk) ?_
          refine OGo.step (fun _ kk => XS.iconst X0.here hx rfl (hb hby own_d_method_3_code_140) kk) ?_
          show OGo p e below (s₁.setTop (mkF m 141 #[.val (.int p1), .val (.int p2), .val (.int p3), .val (.int p4), .val (.int ((p3 &&& (255 : Int32)).toUInt32.toUInt16.toUInt32.toInt32)), .val (.int ((((p3.toUInt32 >>> ((8 : Int32) &&& 31).toUInt32).toInt32) &&& (255 : Int32)).toUInt32.toUInt16.toUInt32.toInt32)), .val (.int ((((p3.toUInt32 >>> ((16 : Int32) &&& 31).toUInt32).toInt32) &&& (255 : Int32)).toUInt32.toUInt16.toUInt32.toInt32)), .val (.int ((((p3.toUInt32 >>> ((24 : Int32) &&& 31).toUInt32).toInt32) &&& (255 : Int32)).toUInt32.toUInt16.toUInt32.toInt32)), .val (.int ((p4 &&& (255 : Int32)).toUInt32.toUInt16.toUInt32.toInt32)), .unset, .unset, .unset, .unset] [(.int (5 : Int32)), (.int p1)])) _
          by_cases q5 : p1 = (5 : Int32)
          · refine OGo.step (fun _ kk => XS.icmpNo X0.here hx rfl (hb hby own_d_method_3_code_141) rfl (teq q5).2 kk) ?_
            show OGo p e below (s₁.setTop (mkF m 144 #[.val (.int p1), .val (.int p2), .val (.int p3), .val (.int p4), .val (.int ((p3 &&& (255 : Int32)).toUInt32.toUInt16.toUInt32.toInt32)), .val (.int ((((p3.toUInt32 >>> ((8 : Int32) &&& 31).toUInt32).toInt32) &&& (255 : Int32)).toUInt32.toUInt16.toUInt32.toInt32)), .val (.int ((((p3.toUInt32 >>> ((16 : Int32) &&& 31).toUInt32).toInt32) &&& (255 : Int32)).toUInt32.toUInt16.toUInt32.toInt32)), .val (.int ((((p3.toUInt32 >>> ((24 : Int32) &&& 31).toUInt32).toInt32) &&& (255 : Int32)).toUInt32.toUInt16.toUInt32.toInt32)), .val (.int ((p4 &&& (255 : Int32)).toUInt32.toUInt16.toUInt32.toInt32)), .unset, .unset, .unset, .unset] [])) _
            refine own_ldcW X0 hx hown (hw _ (List.mem_of_getElem? (i := 122) rfl)) wS hEL OW0 e0 (by decide) (vs := []) (z := (0 : Int32)) ⟨by decide, by decide⟩ (by decide) (by decide) (pc := 144) (Ls := #[.val (.int p1), .val (.int p2), .val (.int p3), .val (.int p4), .val (.int ((p3 &&& (255 : Int32)).toUInt32.toUInt16.toUInt32.toInt32)), .val (.int ((((p3.toUInt32 >>> ((8 : Int32) &&& 31).toUInt32).toInt32) &&& (255 : Int32)).toUInt32.toUInt16.toUInt32.toInt32)), .val (.int ((((p3.toUInt32 >>> ((16 : Int32) &&& 31).toUInt32).toInt32) &&& (255 : Int32)).toUInt32.toUInt16.toUInt32.toInt32)), .val (.int ((((p3.toUInt32 >>> ((24 : Int32) &&& 31).toUInt32).toInt32) &&& (255 : Int32)).toUInt32.toUInt16.toUInt32.toInt32)), .val (.int ((p4 &&& (255 : Int32)).toUInt32.toUInt16.toUInt32.toInt32)), .unset, .unset, .unset, .unset]) (st := []) (hb hby own_d_method_3_code_144) (n := 0) (by decide) (by decide) (by decide) (by decide) ?_
            intro x xb kb84 T84 X84 E84 OW84 hZ hown CH84 Es84 Fc84 Fv84 Av84 Ns84
            have sz84 : n0 ≤ T84.heap.size := Nat.le_trans Z0 E84.1
            show OGo p e below (T84.setTop (mkF m 146 #[.val (.int p1), .val (.int p2), .val (.int p3), .val (.int p4), .val (.int ((p3 &&& (255 : Int32)).toUInt32.toUInt16.toUInt32.toInt32)), .val (.int ((((p3.toUInt32 >>> ((8 : Int32) &&& 31).toUInt32).toInt32) &&& (255 : Int32)).toUInt32.toUInt16.toUInt32.toInt32)), .val (.int ((((p3.toUInt32 >>> ((16 : Int32) &&& 31).toUInt32).toInt32) &&& (255 : Int32)).toUInt32.toUInt16.toUInt32.toInt32)), .val (.int ((((p3.toUInt32 >>> ((24 : Int32) &&& 31).toUInt32).toInt32) &&& (255 : Int32)).toUInt32.toUInt16.toUInt32.toInt32)), .val (.int ((p4 &&& (255 : Int32)).toUInt32.toUInt16.toUInt32.toInt32)), .unset, .unset, .unset, .unset] [(.ref x)])) _
            have cd84 : StrChars.Road.CodA ([] : List Int32) 0 (0 : Int32) [] := StrChars.Road.codOf (cs := []) (n := 0) rfl (by decide)
            have O84 : OStr Z T84.heap x ([] : List Int32) := ⟨xb, kb84, 0, (0 : Int32), _, Es84, Fv84, Fc84, Av84, cd84, by decide, by decide⟩
            exact own_retW X84 hx hlk hEL OW84 rfl hret rfl (Or.inr (Or.inr (Or.inr (Or.inr ⟨rfl, rfl, rfl⟩)))) (hb hby own_d_method_3_code_146) ⟨x, _, rfl, (Fr.nil n0), E84, O84, own_all0⟩ (by decide) (by decide)
          · refine OGo.step (fun _ kk => XS.icmpYes X0.here hx rfl (pc0 := 141) (pc' := 147) rfl (hb hby own_d_method_3_code_141) rfl (feq q5).2 (by decide) (by decide) kk) ?_
            show OGo p e below (s₁.setTop (mkF m 147 #[.val (.int p1), .val (.int p2), .val (.int p3), .val (.int p4), .val (.int ((p3 &&& (255 : Int32)).toUInt32.toUInt16.toUInt32.toInt32)), .val (.int ((((p3.toUInt32 >>> ((8 : Int32) &&& 31).toUInt32).toInt32) &&& (255 : Int32)).toUInt32.toUInt16.toUInt32.toInt32)), .val (.int ((((p3.toUInt32 >>> ((16 : Int32) &&& 31).toUInt32).toInt32) &&& (255 : Int32)).toUInt32.toUInt16.toUInt32.toInt32)), .val (.int ((((p3.toUInt32 >>> ((24 : Int32) &&& 31).toUInt32).toInt32) &&& (255 : Int32)).toUInt32.toUInt16.toUInt32.toInt32)), .val (.int ((p4 &&& (255 : Int32)).toUInt32.toUInt16.toUInt32.toInt32)), .unset, .unset, .unset, .unset] [])) _
            have Kf4 : ∀ d9 d10 d11 d12 : Int32, (¬ d9 < 0 ∧ ¬ (255 : Int32) < d9) → (¬ d10 < 0 ∧ ¬ (255 : Int32) < d10) → (¬ d11 < 0 ∧ ¬ (255 : Int32) < d11) → (¬ d12 < 0 ∧ ¬ (255 : Int32) < d12) → OGo p e below (s₁.setTop (mkF m 208 #[.val (.int p1), .val (.int p2), .val (.int p3), .val (.int p4), .val (.int ((p3 &&& (255 : Int32)).toUInt32.toUInt16.toUInt32.toInt32)), .val (.int ((((p3.toUInt32 >>> ((8 : Int32) &&& 31).toUInt32).toInt32) &&& (255 : Int32)).toUInt32.toUInt16.toUInt32.toInt32)), .val (.int ((((p3.toUInt32 >>> ((16 : Int32) &&& 31).toUInt32).toInt32) &&& (255 : Int32)).toUInt32.toUInt16.toUInt32.toInt32)), .val (.int ((((p3.toUInt32 >>> ((24 : Int32) &&& 31).toUInt32).toInt32) &&& (255 : Int32)).toUInt32.toUInt16.toUInt32.toInt32)), .val (.int ((p4 &&& (255 : Int32)).toUInt32.toUInt16.toUInt32.toInt32)), .val (.int d9), .val (.int d10), .val (.int d11), .val (.int d12)] [])) (OEndW s Z consts_1 (fun v h L => ∃ (x : Addr) (cs : List Int32), v = some (.ref x) ∧ Fr n0 L ∧ Ext h0 h ∧ OStr Z h x cs ∧ ∀ c ∈ cs, ¬ c < 0 ∧ ¬ (255 : Int32) < c) ({ frames := 4, cells := 3, slots := 20, locals := 66 } : Room).cells ({ frames := 4, cells := 3, slots := 20, locals := 66 } : Room).slots) := by
              intro d9 d10 d11 d12 hd9 hd10 hd11 hd12
              show OGo p e below (s₁.setTop (mkF m 208 #[.val (.int p1), .val (.int p2), .val (.int p3), .val (.int p4), .val (.int ((p3 &&& (255 : Int32)).toUInt32.toUInt16.toUInt32.toInt32)), .val (.int ((((p3.toUInt32 >>> ((8 : Int32) &&& 31).toUInt32).toInt32) &&& (255 : Int32)).toUInt32.toUInt16.toUInt32.toInt32)), .val (.int ((((p3.toUInt32 >>> ((16 : Int32) &&& 31).toUInt32).toInt32) &&& (255 : Int32)).toUInt32.toUInt16.toUInt32.toInt32)), .val (.int ((((p3.toUInt32 >>> ((24 : Int32) &&& 31).toUInt32).toInt32) &&& (255 : Int32)).toUInt32.toUInt16.toUInt32.toInt32)), .val (.int ((p4 &&& (255 : Int32)).toUInt32.toUInt16.toUInt32.toInt32)), .val (.int d9), .val (.int d10), .val (.int d11), .val (.int d12)] [])) _
              obtain ⟨T85, h85, X85, e85, E85, A85, D85, U85, st85⟩ := newO X0 hx hZ hown (hw _ (List.mem_of_getElem? (i := 104) rfl)) (hw _ (List.mem_of_getElem? (i := 6) rfl)) (hw _ (List.mem_of_getElem? (i := 5) rfl)) e0 (g := (mkF m 208 #[.val (.int p1), .val (.int p2), .val (.int p3), .val (.int p4), .val (.int ((p3 &&& (255 : Int32)).toUInt32.toUInt16.toUInt32.toInt32)), .val (.int ((((p3.toUInt32 >>> ((8 : Int32) &&& 31).toUInt32).toInt32) &&& (255 : Int32)).toUInt32.toUInt16.toUInt32.toInt32)), .val (.int ((((p3.toUInt32 >>> ((16 : Int32) &&& 31).toUInt32).toInt32) &&& (255 : Int32)).toUInt32.toUInt16.toUInt32.toInt32)), .val (.int ((((p3.toUInt32 >>> ((24 : Int32) &&& 31).toUInt32).toInt32) &&& (255 : Int32)).toUInt32.toUInt16.toUInt32.toInt32)), .val (.int ((p4 &&& (255 : Int32)).toUInt32.toUInt16.toUInt32.toInt32)), .val (.int d9), .val (.int d10), .val (.int d11), .val (.int d12)] [])) rfl (hb hby own_d_method_3_code_208) (by decide) (by decide)
              obtain ⟨x, g85⟩ : ∃ z, z = h0.size := ⟨_, rfl⟩
              rw [← g85] at A85 D85 U85 st85
              refine OGo.step st85 ?_
              show OGo p e below (T85.setTop (mkF m 211 #[.val (.int p1), .val (.int p2), .val (.int p3), .val (.int p4), .val (.int ((p3 &&& (255 : Int32)).toUInt32.toUInt16.toUInt32.toInt32)), .val (.int ((((p3.toUInt32 >>> ((8 : Int32) &&& 31).toUInt32).toInt32) &&& (255 : Int32)).toUInt32.toUInt16.toUInt32.toInt32)), .val (.int ((((p3.toUInt32 >>> ((16 : Int32) &&& 31).toUInt32).toInt32) &&& (255 : Int32)).toUInt32.toUInt16.toUInt32.toInt32)), .val (.int ((((p3.toUInt32 >>> ((24 : Int32) &&& 31).toUInt32).toInt32) &&& (255 : Int32)).toUInt32.toUInt16.toUInt32.toInt32)), .val (.int ((p4 &&& (255 : Int32)).toUInt32.toUInt16.toUInt32.toInt32)), .val (.int d9), .val (.int d10), .val (.int d11), .val (.int d12)] [(.ref x)])) _
              have gf_x : n0 ≤ x := Nat.le_trans Z0 (Nat.le_of_eq g85.symm)
              have sz85 : n0 ≤ h85.size := Nat.le_trans Z0 E85.1
              have OW86 := OW0.ext E85
              have F85_value : Fld Z h85 x "java/lang/String" "value" "[B" .null := D85 (Or.inr (hw _ (List.mem_of_getElem? (i := 8) rfl))) (ty := (.array .byte)) (by decide)
              have F85_coder : Fld Z h85 x "java/lang/String" "coder" "B" (.int (0 : Int32)) := D85 (Or.inr (hw _ (List.mem_of_getElem? (i := 9) rfl))) (ty := .byte) (by decide)
              have sf87 := own_safe_null (EL := consts_1) OW86.2.1.alike A85 F85_value
              refine OGo.step (fun _ kk => XS.dup X85.here hx rfl (hb hby own_d_method_3_code_211) rfl rfl kk) ?_
              refine OGo.step (fun _ kk => XS.iconst X85.here hx rfl (hb hby own_d_method_3_code_212) kk) ?_
              show OGo p e below (T85.setTop (mkF m 213 #[.val (.int p1), .val (.int p2), .val (.int p3), .val (.int p4), .val (.int ((p3 &&& (255 : Int32)).toUInt32.toUInt16.toUInt32.toInt32)), .val (.int ((((p3.toUInt32 >>> ((8 : Int32) &&& 31).toUInt32).toInt32) &&& (255 : Int32)).toUInt32.toUInt16.toUInt32.toInt32)), .val (.int ((((p3.toUInt32 >>> ((16 : Int32) &&& 31).toUInt32).toInt32) &&& (255 : Int32)).toUInt32.toUInt16.toUInt32.toInt32)), .val (.int ((((p3.toUInt32 >>> ((24 : Int32) &&& 31).toUInt32).toInt32) &&& (255 : Int32)).toUInt32.toUInt16.toUInt32.toInt32)), .val (.int ((p4 &&& (255 : Int32)).toUInt32.toUInt16.toUInt32.toInt32)), .val (.int d9), .val (.int d10), .val (.int d11), .val (.int d12)] [(.int (4 : Int32)), (.ref x), (.ref x)])) _
              obtain ⟨T88, h88, k88, X88, e88, E88, A88, st88⟩ := newP X85 hx hZ (hw _ (List.mem_of_getElem? (i := 105) rfl)) e85 (g := (mkF m 213 #[.val (.int p1), .val (.int p2), .val (.int p3), .val (.int p4), .val (.int ((p3 &&& (255 : Int32)).toUInt32.toUInt16.toUInt32.toInt32)), .val (.int ((((p3.toUInt32 >>> ((8 : Int32) &&& 31).toUInt32).toInt32) &&& (255 : Int32)).toUInt32.toUInt16.toUInt32.toInt32)), .val (.int ((((p3.toUInt32 >>> ((16 : Int32) &&& 31).toUInt32).toInt32) &&& (255 : Int32)).toUInt32.toUInt16.toUInt32.toInt32)), .val (.int ((((p3.toUInt32 >>> ((24 : Int32) &&& 31).toUInt32).toInt32) &&& (255 : Int32)).toUInt32.toUInt16.toUInt32.toInt32)), .val (.int ((p4 &&& (255 : Int32)).toUInt32.toUInt16.toUInt32.toInt32)), .val (.int d9), .val (.int d10), .val (.int d11), .val (.int d12)] [(.int (4 : Int32)), (.ref x), (.ref x)])) rfl (hb hby own_d_method_3_code_213) rfl (by decide) (cap := 4) (by decide) (by decide) (by decide) (by decide)
              obtain ⟨b, g88⟩ : ∃ z, z = h85.size := ⟨_, rfl⟩
              rw [← g88] at A88 st88
              refine OGo.step st88 ?_
              show OGo p e below (T88.setTop (mkF m 215 #[.val (.int p1), .val (.int p2), .val (.int p3), .val (.int p4), .val (.int ((p3 &&& (255 : Int32)).toUInt32.toUInt16.toUInt32.toInt32)), .val (.int ((((p3.toUInt32 >>> ((8 : Int32) &&& 31).toUInt32).toInt32) &&& (255 : Int32)).toUInt32.toUInt16.toUInt32.toInt32)), .val (.int ((((p3.toUInt32 >>> ((16 : Int32) &&& 31).toUInt32).toInt32) &&& (255 : Int32)).toUInt32.toUInt16.toUInt32.toInt32)), .val (.int ((((p3.toUInt32 >>> ((24 : Int32) &&& 31).toUInt32).toInt32) &&& (255 : Int32)).toUInt32.toUInt16.toUInt32.toInt32)), .val (.int ((p4 &&& (255 : Int32)).toUInt32.toUInt16.toUInt32.toInt32)), .val (.int d9), .val (.int d10), .val (.int d11), .val (.int d12)] [(.ref b), (.ref x), (.ref x)])) _
              have ne_x_b : x ≠ b := Nat.ne_of_lt (Nat.lt_of_lt_of_le A85.lt (Nat.le_of_eq g88.symm))
              have gf_b : n0 ≤ b := Nat.le_trans sz85 (Nat.le_of_eq g88.symm)
              have sz88 : n0 ≤ h88.size := Nat.le_trans sz85 E88.1
              have sf89 := Safe.ext E88 OW86.chv sf87
              have OW90 := OW86.ext E88
              have Va91 : Arv Z h88 b k88 .char (4 : Int32) [(.int (0 : Int32)), (.int (0 : Int32)), (.int (0 : Int32)), (.int (0 : Int32))] (.int (0 : Int32)) := (Arv.new A88 (by decide)).pad (pad_rep [] (.int (0 : Int32)) 4)
              refine OGo.step (fun _ kk => XS.dup X88.here hx rfl (hb hby own_d_method_3_code_215) rfl rfl kk) ?_
              refine OGo.step (fun _ kk => XS.iconst X88.here hx rfl (hb hby own_d_method_3_code_216) kk) ?_
              refine OGo.step (fun _ kk => XS.iload X88.here hx rfl (hb hby own_d_method_3_code_217) rfl kk) ?_
              show OGo p e below (T88.setTop (mkF m 219 #[.val (.int p1), .val (.int p2), .val (.int p3), .val (.int p4), .val (.int ((p3 &&& (255 : Int32)).toUInt32.toUInt16.toUInt32.toInt32)), .val (.int ((((p3.toUInt32 >>> ((8 : Int32) &&& 31).toUInt32).toInt32) &&& (255 : Int32)).toUInt32.toUInt16.toUInt32.toInt32)), .val (.int ((((p3.toUInt32 >>> ((16 : Int32) &&& 31).toUInt32).toInt32) &&& (255 : Int32)).toUInt32.toUInt16.toUInt32.toInt32)), .val (.int ((((p3.toUInt32 >>> ((24 : Int32) &&& 31).toUInt32).toInt32) &&& (255 : Int32)).toUInt32.toUInt16.toUInt32.toInt32)), .val (.int ((p4 &&& (255 : Int32)).toUInt32.toUInt16.toUInt32.toInt32)), .val (.int d9), .val (.int d10), .val (.int d11), .val (.int d12)] [(.int d9), (.int (0 : Int32)), (.ref b), (.ref b), (.ref x), (.ref x)])) _
              obtain ⟨cA92, A92, q92, S92, M92, H92, G92⟩ := Va91
              obtain ⟨T93, h93, X93, e93, W93, st93⟩ := stC X88 hx hZ e88 A92 (j := (0 : Int32)) (inb_of S92 ⟨by decide, by decide⟩) (g := (mkF m 219 #[.val (.int p1), .val (.int p2), .val (.int p3), .val (.int p4), .val (.int ((p3 &&& (255 : Int32)).toUInt32.toUInt16.toUInt32.toInt32)), .val (.int ((((p3.toUInt32 >>> ((8 : Int32) &&& 31).toUInt32).toInt32) &&& (255 : Int32)).toUInt32.toUInt16.toUInt32.toInt32)), .val (.int ((((p3.toUInt32 >>> ((16 : Int32) &&& 31).toUInt32).toInt32) &&& (255 : Int32)).toUInt32.toUInt16.toUInt32.toInt32)), .val (.int ((((p3.toUInt32 >>> ((24 : Int32) &&& 31).toUInt32).toInt32) &&& (255 : Int32)).toUInt32.toUInt16.toUInt32.toInt32)), .val (.int ((p4 &&& (255 : Int32)).toUInt32.toUInt16.toUInt32.toInt32)), .val (.int d9), .val (.int d10), .val (.int d11), .val (.int d12)] [(.int d9), (.int (0 : Int32)), (.ref b), (.ref b), (.ref x), (.ref x)])) rfl rfl (hb hby own_d_method_3_code_219)
              refine OGo.step st93 ?_
              show OGo p e below (T93.setTop (mkF m 220 #[.val (.int p1), .val (.int p2), .val (.int p3), .val (.int p4), .val (.int ((p3 &&& (255 : Int32)).toUInt32.toUInt16.toUInt32.toInt32)), .val (.int ((((p3.toUInt32 >>> ((8 : Int32) &&& 31).toUInt32).toInt32) &&& (255 : Int32)).toUInt32.toUInt16.toUInt32.toInt32)), .val (.int ((((p3.toUInt32 >>> ((16 : Int32) &&& 31).toUInt32).toInt32) &&& (255 : Int32)).toUInt32.toUInt16.toUInt32.toInt32)), .val (.int ((((p3.toUInt32 >>> ((24 : Int32) &&& 31).toUInt32).toInt32) &&& (255 : Int32)).toUInt32.toUInt16.toUInt32.toInt32)), .val (.int ((p4 &&& (255 : Int32)).toUInt32.toUInt16.toUInt32.toInt32)), .val (.int d9), .val (.int d10), .val (.int d11), .val (.int d12)] [(.ref b), (.ref x), (.ref x)])) _
              have Va92 : Arv Z h93 b k88 .char (4 : Int32) [(.int (nar .char d9)), (.int (0 : Int32)), (.int (0 : Int32)), (.int (0 : Int32))] (.int (0 : Int32)) := Arv.set A92 q92 S92 M92 H92 G92 (fits_nar_char _) W93 0 rfl (Nat.le_of_ble_eq_true rfl)
              have Nf93 := Fr.snoc X93 (Fr.nil n0) gf_b
              have sz93 : n0 ≤ h93.size := by rw [W93.size]; exact sz88
              have sw94 := (Safe.arr (EL := consts_1) OW90.2.1.alike A92 (by decide))
              have sf95 := Safe.wr W93 sw94 OW90.chv sf89
              have OW96 := OW90.wr W93 sw94
              refine OGo.step (fun _ kk => XS.dup X93.here hx rfl (hb hby own_d_method_3_code_220) rfl rfl kk) ?_
              refine OGo.step (fun _ kk => XS.iconst X93.here hx rfl (hb hby own_d_method_3_code_221) kk) ?_
              refine OGo.step (fun _ kk => XS.iload X93.here hx rfl (hb hby own_d_method_3_code_222) rfl kk) ?_
              show OGo p e below (T93.setTop (mkF m 224 #[.val (.int p1), .val (.int p2), .val (.int p3), .val (.int p4), .val (.int ((p3 &&& (255 : Int32)).toUInt32.toUInt16.toUInt32.toInt32)), .val (.int ((((p3.toUInt32 >>> ((8 : Int32) &&& 31).toUInt32).toInt32) &&& (255 : Int32)).toUInt32.toUInt16.toUInt32.toInt32)), .val (.int ((((p3.toUInt32 >>> ((16 : Int32) &&& 31).toUInt32).toInt32) &&& (255 : Int32)).toUInt32.toUInt16.toUInt32.toInt32)), .val (.int ((((p3.toUInt32 >>> ((24 : Int32) &&& 31).toUInt32).toInt32) &&& (255 : Int32)).toUInt32.toUInt16.toUInt32.toInt32)), .val (.int ((p4 &&& (255 : Int32)).toUInt32.toUInt16.toUInt32.toInt32)), .val (.int d9), .val (.int d10), .val (.int d11), .val (.int d12)] [(.int d10), (.int (1 : Int32)), (.ref b), (.ref b), (.ref x), (.ref x)])) _
              obtain ⟨cA97, A97, q97, S97, M97, H97, G97⟩ := Va92
              obtain ⟨T98, h98, X98, e98, W98, st98⟩ := stC X93 hx hZ e93 A97 (j := (1 : Int32)) (inb_of S97 ⟨by decide, by decide⟩) (g := (mkF m 224 #[.val (.int p1), .val (.int p2), .val (.int p3), .val (.int p4), .val (.int ((p3 &&& (255 : Int32)).toUInt32.toUInt16.toUInt32.toInt32)), .val (.int ((((p3.toUInt32 >>> ((8 : Int32) &&& 31).toUInt32).toInt32) &&& (255 : Int32)).toUInt32.toUInt16.toUInt32.toInt32)), .val (.int ((((p3.toUInt32 >>> ((16 : Int32) &&& 31).toUInt32).toInt32) &&& (255 : Int32)).toUInt32.toUInt16.toUInt32.toInt32)), .val (.int ((((p3.toUInt32 >>> ((24 : Int32) &&& 31).toUInt32).toInt32) &&& (255 : Int32)).toUInt32.toUInt16.toUInt32.toInt32)), .val (.int ((p4 &&& (255 : Int32)).toUInt32.toUInt16.toUInt32.toInt32)), .val (.int d9), .val (.int d10), .val (.int d11), .val (.int d12)] [(.int d10), (.int (1 : Int32)), (.ref b), (.ref b), (.ref x), (.ref x)])) rfl rfl (hb hby own_d_method_3_code_224)
              refine OGo.step st98 ?_
              show OGo p e below (T98.setTop (mkF m 225 #[.val (.int p1), .val (.int p2), .val (.int p3), .val (.int p4), .val (.int ((p3 &&& (255 : Int32)).toUInt32.toUInt16.toUInt32.toInt32)), .val (.int ((((p3.toUInt32 >>> ((8 : Int32) &&& 31).toUInt32).toInt32) &&& (255 : Int32)).toUInt32.toUInt16.toUInt32.toInt32)), .val (.int ((((p3.toUInt32 >>> ((16 : Int32) &&& 31).toUInt32).toInt32) &&& (255 : Int32)).toUInt32.toUInt16.toUInt32.toInt32)), .val (.int ((((p3.toUInt32 >>> ((24 : Int32) &&& 31).toUInt32).toInt32) &&& (255 : Int32)).toUInt32.toUInt16.toUInt32.toInt32)), .val (.int ((p4 &&& (255 : Int32)).toUInt32.toUInt16.toUInt32.toInt32)), .val (.int d9), .val (.int d10), .val (.int d11), .val (.int d12)] [(.ref b), (.ref x), (.ref x)])) _
              have Va97 : Arv Z h98 b k88 .char (4 : Int32) [(.int (nar .char d9)), (.int (nar .char d10)), (.int (0 : Int32)), (.int (0 : Int32))] (.int (0 : Int32)) := Arv.set A97 q97 S97 M97 H97 G97 (fits_nar_char _) W98 1 rfl (Nat.le_of_ble_eq_true rfl)
              have Nf98 := Fr.snoc X98 Nf93 gf_b
              have sz98 : n0 ≤ h98.size := by rw [W98.size]; exact sz93
              have sw99 := (Safe.arr (EL := consts_1) OW96.2.1.alike A97 (by decide))
              have sf100 := Safe.wr W98 sw99 OW96.chv sf95
              have OW101 := OW96.wr W98 sw99
              refine OGo.step (fun _ kk => XS.dup X98.here hx rfl (hb hby own_d_method_3_code_225) rfl rfl kk) ?_
              refine OGo.step (fun _ kk => XS.iconst X98.here hx rfl (hb hby own_d_method_3_code_226) kk) ?_
              refine OGo.step (fun _ kk => XS.iload X98.here hx rfl (hb hby own_d_method_3_code_227) rfl kk) ?_
              show OGo p e below (T98.setTop (mkF m 229 #[.val (.int p1), .val (.int p2), .val (.int p3), .val (.int p4), .val (.int ((p3 &&& (255 : Int32)).toUInt32.toUInt16.toUInt32.toInt32)), .val (.int ((((p3.toUInt32 >>> ((8 : Int32) &&& 31).toUInt32).toInt32) &&& (255 : Int32)).toUInt32.toUInt16.toUInt32.toInt32)), .val (.int ((((p3.toUInt32 >>> ((16 : Int32) &&& 31).toUInt32).toInt32) &&& (255 : Int32)).toUInt32.toUInt16.toUInt32.toInt32)), .val (.int ((((p3.toUInt32 >>> ((24 : Int32) &&& 31).toUInt32).toInt32) &&& (255 : Int32)).toUInt32.toUInt16.toUInt32.toInt32)), .val (.int ((p4 &&& (255 : Int32)).toUInt32.toUInt16.toUInt32.toInt32)), .val (.int d9), .val (.int d10), .val (.int d11), .val (.int d12)] [(.int d11), (.int (2 : Int32)), (.ref b), (.ref b), (.ref x), (.ref x)])) _
              obtain ⟨cA102, A102, q102, S102, M102, H102, G102⟩ := Va97
              obtain ⟨T103, h103, X103, e103, W103, st103⟩ := stC X98 hx hZ e98 A102 (j := (2 : Int32)) (inb_of S102 ⟨by decide, by decide⟩) (g := (mkF m 229 #[.val (.int p1), .val (.int p2), .val (.int p3), .val (.int p4), .val (.int ((p3 &&& (255 : Int32)).toUInt32.toUInt16.toUInt32.toInt32)), .val (.int ((((p3.toUInt32 >>> ((8 : Int32) &&& 31).toUInt32).toInt32) &&& (255 : Int32)).toUInt32.toUInt16.toUInt32.toInt32)), .val (.int ((((p3.toUInt32 >>> ((16 : Int32) &&& 31).toUInt32).toInt32) &&& (255 : Int32)).toUInt32.toUInt16.toUInt32.toInt32)), .val (.int ((((p3.toUInt32 >>> ((24 : Int32) &&& 31).toUInt32).toInt32) &&& (255 : Int32)).toUInt32.toUInt16.toUInt32.toInt32)), .val (.int ((p4 &&& (255 : Int32)).toUInt32.toUInt16.toUInt32.toInt32)), .val (.int d9), .val (.int d10), .val (.int d11), .val (.int d12)] [(.int d11), (.int (2 : Int32)), (.ref b), (.ref b), (.ref x), (.ref x)])) rfl rfl (hb hby own_d_method_3_code_229)
              refine OGo.step st103 ?_
              show OGo p e below (T103.setTop (mkF m 230 #[.val (.int p1), .val (.int p2), .val (.int p3), .val (.int p4), .val (.int ((p3 &&& (255 : Int32)).toUInt32.toUInt16.toUInt32.toInt32)), .val (.int ((((p3.toUInt32 >>> ((8 : Int32) &&& 31).toUInt32).toInt32) &&& (255 : Int32)).toUInt32.toUInt16.toUInt32.toInt32)), .val (.int ((((p3.toUInt32 >>> ((16 : Int32) &&& 31).toUInt32).toInt32) &&& (255 : Int32)).toUInt32.toUInt16.toUInt32.toInt32)), .val (.int ((((p3.toUInt32 >>> ((24 : Int32) &&& 31).toUInt32).toInt32) &&& (255 : Int32)).toUInt32.toUInt16.toUInt32.toInt32)), .val (.int ((p4 &&& (255 : Int32)).toUInt32.toUInt16.toUInt32.toInt32)), .val (.int d9), .val (.int d10), .val (.int d11), .val (.int d12)] [(.ref b), (.ref x), (.ref x)])) _
              have Va102 : Arv Z h103 b k88 .char (4 : Int32) [(.int (nar .char d9)), (.int (nar .char d10)), (.int (nar .char d11)), (.int (0 : Int32))] (.int (0 : Int32)) := Arv.set A102 q102 S102 M102 H102 G102 (fits_nar_char _) W103 2 rfl (Nat.le_of_ble_eq_true rfl)
              have Nf103 := Fr.snoc X103 Nf98 gf_b
              have sz103 : n0 ≤ h103.size := by rw [W103.size]; exact sz98
              have sw104 := (Safe.arr (EL := consts_1) OW101.2.1.alike A102 (by decide))
              have sf105 := Safe.wr W103 sw104 OW101.chv sf100
              have OW106 := OW101.wr W103 sw104
              refine OGo.step (fun _ kk => XS.dup X103.here hx rfl (hb hby own_d_method_3_code_230) rfl rfl kk) ?_
              refine OGo.step (fun _ kk => XS.iconst X103.here hx rfl (hb hby own_d_method_3_code_231) kk) ?_
              refine OGo.step (fun _ kk => XS.iload X103.here hx rfl (hb hby own_d_method_3_code_232) rfl kk) ?_
              show OGo p e below (T103.setTop (mkF m 234 #[.val (.int p1), .val (.int p2), .val (.int p3), .val (.int p4), .val (.int ((p3 &&& (255 : Int32)).toUInt32.toUInt16.toUInt32.toInt32)), .val (.int ((((p3.toUInt32 >>> ((8 : Int32) &&& 31).toUInt32).toInt32) &&& (255 : Int32)).toUInt32.toUInt16.toUInt32.toInt32)), .val (.int ((((p3.toUInt32 >>> ((16 : Int32) &&& 31).toUInt32).toInt32) &&& (255 : Int32)).toUInt32.toUInt16.toUInt32.toInt32)), .val (.int ((((p3.toUInt32 >>> ((24 : Int32) &&& 31).toUInt32).toInt32) &&& (255 : Int32)).toUInt32.toUInt16.toUInt32.toInt32)), .val (.int ((p4 &&& (255 : Int32)).toUInt32.toUInt16.toUInt32.toInt32)), .val (.int d9), .val (.int d10), .val (.int d11), .val (.int d12)] [(.int d12), (.int (3 : Int32)), (.ref b), (.ref b), (.ref x), (.ref x)])) _
              obtain ⟨cA107, A107, q107, S107, M107, H107, G107⟩ := Va102
              obtain ⟨T108, h108, X108, e108, W108, st108⟩ := stC X103 hx hZ e103 A107 (j := (3 : Int32)) (inb_of S107 ⟨by decide, by decide⟩) (g := (mkF m 234 #[.val (.int p1), .val (.int p2), .val (.int p3), .val (.int p4), .val (.int ((p3 &&& (255 : Int32)).toUInt32.toUInt16.toUInt32.toInt32)), .val (.int ((((p3.toUInt32 >>> ((8 : Int32) &&& 31).toUInt32).toInt32) &&& (255 : Int32)).toUInt32.toUInt16.toUInt32.toInt32)), .val (.int ((((p3.toUInt32 >>> ((16 : Int32) &&& 31).toUInt32).toInt32) &&& (255 : Int32)).toUInt32.toUInt16.toUInt32.toInt32)), .val (.int ((((p3.toUInt32 >>> ((24 : Int32) &&& 31).toUInt32).toInt32) &&& (255 : Int32)).toUInt32.toUInt16.toUInt32.toInt32)), .val (.int ((p4 &&& (255 : Int32)).toUInt32.toUInt16.toUInt32.toInt32)), .val (.int d9), .val (.int d10), .val (.int d11), .val (.int d12)] [(.int d12), (.int (3 : Int32)), (.ref b), (.ref b), (.ref x), (.ref x)])) rfl rfl (hb hby own_d_method_3_code_234)
              refine OGo.step st108 ?_
              show OGo p e below (T108.setTop (mkF m 235 #[.val (.int p1), .val (.int p2), .val (.int p3), .val (.int p4), .val (.int ((p3 &&& (255 : Int32)).toUInt32.toUInt16.toUInt32.toInt32)), .val (.int ((((p3.toUInt32 >>> ((8 : Int32) &&& 31).toUInt32).toInt32) &&& (255 : Int32)).toUInt32.toUInt16.toUInt32.toInt32)), .val (.int ((((p3.toUInt32 >>> ((16 : Int32) &&& 31).toUInt32).toInt32) &&& (255 : Int32)).toUInt32.toUInt16.toUInt32.toInt32)), .val (.int ((((p3.toUInt32 >>> ((24 : Int32) &&& 31).toUInt32).toInt32) &&& (255 : Int32)).toUInt32.toUInt16.toUInt32.toInt32)), .val (.int ((p4 &&& (255 : Int32)).toUInt32.toUInt16.toUInt32.toInt32)), .val (.int d9), .val (.int d10), .val (.int d11), .val (.int d12)] [(.ref b), (.ref x), (.ref x)])) _
              have Va107 : Arv Z h108 b k88 .char (4 : Int32) [(.int (nar .char d9)), (.int (nar .char d10)), (.int (nar .char d11)), (.int (nar .char d12))] (.int (0 : Int32)) := Arv.set A107 q107 S107 M107 H107 G107 (fits_nar_char _) W108 3 rfl (Nat.le_of_ble_eq_true rfl)
              have Nf108 := Fr.snoc X108 Nf103 gf_b
              have sz108 : n0 ≤ h108.size := by rw [W108.size]; exact sz103
              have sw109 := (Safe.arr (EL := consts_1) OW106.2.1.alike A107 (by decide))
              have sf110 := Safe.wr W108 sw109 OW106.chv sf105
              have OW111 := OW106.wr W108 sw109
              have fc112 := (((((A85.ext E88).wr W93).wr W98).wr W103).wr W108)
              have fc113 := (((((F85_value.ext E88).other W93 (Or.inl ne_x_b)).other W98 (Or.inl ne_x_b)).other W103 (Or.inl ne_x_b)).other W108 (Or.inl ne_x_b))
              have fc114 := (((((F85_coder.ext E88).other W93 (Or.inl ne_x_b)).other W98 (Or.inl ne_x_b)).other W103 (Or.inl ne_x_b)).other W108 (Or.inl ne_x_b))
              have hpx : ∀ c ∈ ([(nar .char d9), (nar .char d10), (nar .char d11), (nar .char d12)] : List Int32), ¬ c < 0 ∧ ¬ (255 : Int32) < c := (own_allS (own_nc hd9) (own_allS (own_nc hd10) (own_allS (own_nc hd11) (own_allS (own_nc hd12) own_all0))))
              have xt115 := (own_ext_trans E85 E88)
              have xt116 := (own_ext_wr xt115 W93 (Nat.le_trans E85.1 (Nat.le_of_eq g88.symm)))
              have xt117 := (own_ext_wr xt116 W98 (Nat.le_trans E85.1 (Nat.le_of_eq g88.symm)))
              have xt118 := (own_ext_wr xt117 W103 (Nat.le_trans E85.1 (Nat.le_of_eq g88.symm)))
              have xt119 := (own_ext_wr xt118 W108 (Nat.le_trans E85.1 (Nat.le_of_eq g88.symm)))
              have fx120 := SC.ext xt119
              refine own_specialK X108 hx hZ (y := (⟨"java/lang/String", "<init>", "([C)V"⟩ : MethodName)) rfl hown (hw _ (List.mem_of_getElem? (i := 106) rfl)) (hw _ (List.mem_of_getElem? (i := 107) rfl)) (hw _ (List.mem_of_getElem? (i := 108) rfl)) (by decide) (a := x) (W := 1) (StrChars.Road.backV (W := 1) hZ (fun d hd => hw d ((by decide +kernel : ∀ d ∈ StrChars.Road.words, d ∈ tables_1) d hd)) (kI := 4) (hw _ (List.mem_of_getElem? (i := 6) rfl)) (cs := ([(nar .char d9), (nar .char d10), (nar .char d11), (nar .char d12)] : List Int32)) (bs := (([(nar .char d9), (nar .char d10), (nar .char d11), (nar .char d12)] : List Int32)).map (fun c => c.toInt8.toInt32)) (n := 4) gf_x sz108 fc112 fc113 fc114 Va107 fx120 hzc rfl rfl (by decide) (by decide) hpx rfl (by decide) (by decide)) e108 (pc := 235) (Ls := #[.val (.int p1), .val (.int p2), .val (.int p3), .val (.int p4), .val (.int ((p3 &&& (255 : Int32)).toUInt32.toUInt16.toUInt32.toInt32)), .val (.int ((((p3.toUInt32 >>> ((8 : Int32) &&& 31).toUInt32).toInt32) &&& (255 : Int32)).toUInt32.toUInt16.toUInt32.toInt32)), .val (.int ((((p3.toUInt32 >>> ((16 : Int32) &&& 31).toUInt32).toInt32) &&& (255 : Int32)).toUInt32.toUInt16.toUInt32.toInt32)), .val (.int ((((p3.toUInt32 >>> ((24 : Int32) &&& 31).toUInt32).toInt32) &&& (255 : Int32)).toUInt32.toUInt16.toUInt32.toInt32)), .val (.int ((p4 &&& (255 : Int32)).toUInt32.toUInt16.toUInt32.toInt32)), .val (.int d9), .val (.int d10), .val (.int d11), .val (.int d12)]) (argsL := [(.ref b)]) (rest := [(.ref x)]) (by rw [hml]; rfl) (lenOf own_pd0 rfl) rfl (hb hby own_d_method_3_code_235) (by decide) (by decide) ?_
              intro v121 T121 L121 X121 hQ121
              obtain ⟨rfl, N121, K121, Ex121, Fc121, t121, kb121, u1121, u2121, u3121, Fv121, Av121⟩ := hQ121
              show OGo p e below (T121.setTop (mkF m 238 #[.val (.int p1), .val (.int p2), .val (.int p3), .val (.int p4), .val (.int ((p3 &&& (255 : Int32)).toUInt32.toUInt16.toUInt32.toInt32)), .val (.int ((((p3.toUInt32 >>> ((8 : Int32) &&& 31).toUInt32).toInt32) &&& (255 : Int32)).toUInt32.toUInt16.toUInt32.toInt32)), .val (.int ((((p3.toUInt32 >>> ((16 : Int32) &&& 31).toUInt32).toInt32) &&& (255 : Int32)).toUInt32.toUInt16.toUInt32.toInt32)), .val (.int ((((p3.toUInt32 >>> ((24 : Int32) &&& 31).toUInt32).toInt32) &&& (255 : Int32)).toUInt32.toUInt16.toUInt32.toInt32)), .val (.int ((p4 &&& (255 : Int32)).toUInt32.toUInt16.toUInt32.toInt32)), .val (.int d9), .val (.int d10), .val (.int d11), .val (.int d12)] [(.ref x)])) _
              have Nc121 := Fr.app Nf108 N121
              have sz121 : n0 ≤ T121.heap.size := Nat.le_trans sz108 K121.1
              have sf122 := Safe.keep K121 (sfS sf110 sf0) OW111.chv sf110
              have OW123 := OW111.keep K121 (sfS sf110 sf0)
              have O121 : OStr Z T121.heap x ([(nar .char d9), (nar .char d10), (nar .char d11), (nar .char d12)] : List Int32) := ⟨t121, kb121, 0, (4 : Int32), _, Ex121, Fv121, Fc121, Av121, StrChars.Road.codOf (n := 4) rfl (fun c hc => (hpx c hc).2), own_up _ hpx, Nat.le_of_ble_eq_true rfl⟩
              have xt124 := (own_ext_keep xt119 K121 (allS (Nat.le_of_eq g85.symm) all0))
              exact own_retW X121 hx hlk hEL OW123 rfl hret rfl (Or.inr (Or.inr (Or.inr (Or.inr ⟨rfl, rfl, rfl⟩)))) (hb hby own_d_method_3_code_238) ⟨x, _, rfl, Nc121, xt124, O121, hpx⟩ (by decide) (by decide)
            have Kf3 : ∀ d9 d10 d11 : Int32, (¬ d9 < 0 ∧ ¬ (255 : Int32) < d9) → (¬ d10 < 0 ∧ ¬ (255 : Int32) < d10) → (¬ d11 < 0 ∧ ¬ (255 : Int32) < d11) → OGo p e below (s₁.setTop (mkF m 192 #[.val (.int p1), .val (.int p2), .val (.int p3), .val (.int p4), .val (.int ((p3 &&& (255 : Int32)).toUInt32.toUInt16.toUInt32.toInt32)), .val (.int ((((p3.toUInt32 >>> ((8 : Int32) &&& 31).toUInt32).toInt32) &&& (255 : Int32)).toUInt32.toUInt16.toUInt32.toInt32)), .val (.int ((((p3.toUInt32 >>> ((16 : Int32) &&& 31).toUInt32).toInt32) &&& (255 : Int32)).toUInt32.toUInt16.toUInt32.toInt32)), .val (.int ((((p3.toUInt32 >>> ((24 : Int32) &&& 31).toUInt32).toInt32) &&& (255 : Int32)).toUInt32.toUInt16.toUInt32.toInt32)), .val (.int ((p4 &&& (255 : Int32)).toUInt32.toUInt16.toUInt32.toInt32)), .val (.int d9), .val (.int d10), .val (.int d11), .unset] [])) (OEndW s Z consts_1 (fun v h L => ∃ (x : Addr) (cs : List Int32), v = some (.ref x) ∧ Fr n0 L ∧ Ext h0 h ∧ OStr Z h x cs ∧ ∀ c ∈ cs, ¬ c < 0 ∧ ¬ (255 : Int32) < c) ({ frames := 4, cells := 3, slots := 20, locals := 66 } : Room).cells ({ frames := 4, cells := 3, slots := 20, locals := 66 } : Room).slots) := by
              intro d9 d10 d11 hd9 hd10 hd11
              show OGo p e below (s₁.setTop (mkF m 192 #[.val (.int p1), .val (.int p2), .val (.int p3), .val (.int p4), .val (.int ((p3 &&& (255 : Int32)).toUInt32.toUInt16.toUInt32.toInt32)), .val (.int ((((p3.toUInt32 >>> ((8 : Int32) &&& 31).toUInt32).toInt32) &&& (255 : Int32)).toUInt32.toUInt16.toUInt32.toInt32)), .val (.int ((((p3.toUInt32 >>> ((16 : Int32) &&& 31).toUInt32).toInt32) &&& (255 : Int32)).toUInt32.toUInt16.toUInt32.toInt32)), .val (.int ((((p3.toUInt32 >>> ((24 : Int32) &&& 31).toUInt32).toInt32) &&& (255 : Int32)).toUInt32.toUInt16.toUInt32.toInt32)), .val (.int ((p4 &&& (255 : Int32)).toUInt32.toUInt16.toUInt32.toInt32)), .val (.int d9), .val (.int d10), .val (.int d11), .unset] [])) _
              refine OGo.step (fun _ kk => XS.iloadN X0.here hx rfl (hb hby own_d_method_3_code_192) rfl kk) ?_
              refine OGo.step (fun _ kk => XS.bipush X0.here hx rfl (hb hby own_d_method_3_code_193) kk) ?_
              refine OGo.step (fun _ kk => XS.iand X0.here hx rfl (hb hby own_d_method_3_code_195) rfl kk) ?_
              show OGo p e below (s₁.setTop (mkF m 196 #[.val (.int p1), .val (.int p2), .val (.int p3), .val (.int p4), .val (.int ((p3 &&& (255 : Int32)).toUInt32.toUInt16.toUInt32.toInt32)), .val (.int ((((p3.toUInt32 >>> ((8 : Int32) &&& 31).toUInt32).toInt32) &&& (255 : Int32)).toUInt32.toUInt16.toUInt32.toInt32)), .val (.int ((((p3.toUInt32 >>> ((16 : Int32) &&& 31).toUInt32).toInt32) &&& (255 : Int32)).toUInt32.toUInt16.toUInt32.toInt32)), .val (.int ((((p3.toUInt32 >>> ((24 : Int32) &&& 31).toUInt32).toInt32) &&& (255 : Int32)).toUInt32.toUInt16.toUInt32.toInt32)), .val (.int ((p4 &&& (255 : Int32)).toUInt32.toUInt16.toUInt32.toInt32)), .val (.int d9), .val (.int d10), .val (.int d11), .unset] [(.int (p2 &&& (8 : Int32)))])) _
              by_cases z3 : (p2 &&& (8 : Int32)) = (0 : Int32)
              · refine OGo.step (fun _ kk => XS.ifYes X0.here hx rfl (pc0 := 196) (pc' := 204) rfl (hb hby own_d_method_3_code_196) rfl ((if0 _ _).trans (teq z3).1) (by decide) (by decide) kk) ?_
                show OGo p e below (s₁.setTop (mkF m 204 #[.val (.int p1), .val (.int p2), .val (.int p3), .val (.int p4), .val (.int ((p3 &&& (255 : Int32)).toUInt32.toUInt16.toUInt32.toInt32)), .val (.int ((((p3.toUInt32 >>> ((8 : Int32) &&& 31).toUInt32).toInt32) &&& (255 : Int32)).toUInt32.toUInt16.toUInt32.toInt32)), .val (.int ((((p3.toUInt32 >>> ((16 : Int32) &&& 31).toUInt32).toInt32) &&& (255 : Int32)).toUInt32.toUInt16.toUInt32.toInt32)), .val (.int ((((p3.toUInt32 >>> ((24 : Int32) &&& 31).toUInt32).toInt32) &&& (255 : Int32)).toUInt32.toUInt16.toUInt32.toInt32)), .val (.int ((p4 &&& (255 : Int32)).toUInt32.toUInt16.toUInt32.toInt32)), .val (.int d9), .val (.int d10), .val (.int d11), .unset] [])) _
                refine OGo.step (fun _ kk => XS.iload X0.here hx rfl (hb hby own_d_method_3_code_204) rfl kk) ?_
                refine OGo.step (fun _ kk => XS.istore X0.here hx rfl (hb hby own_d_method_3_code_206) rfl (l' := #[.val (.int p1), .val (.int p2), .val (.int p3), .val (.int p4), .val (.int ((p3 &&& (255 : Int32)).toUInt32.toUInt16.toUInt32.toInt32)), .val (.int ((((p3.toUInt32 >>> ((8 : Int32) &&& 31).toUInt32).toInt32) &&& (255 : Int32)).toUInt32.toUInt16.toUInt32.toInt32)), .val (.int ((((p3.toUInt32 >>> ((16 : Int32) &&& 31).toUInt32).toInt32) &&& (255 : Int32)).toUInt32.toUInt16.toUInt32.toInt32)), .val (.int ((((p3.toUInt32 >>> ((24 : Int32) &&& 31).toUInt32).toInt32) &&& (255 : Int32)).toUInt32.toUInt16.toUInt32.toInt32)), .val (.int ((p4 &&& (255 : Int32)).toUInt32.toUInt16.toUInt32.toInt32)), .val (.int d9), .val (.int d10), .val (.int d11), .val (.int ((((p3.toUInt32 >>> ((24 : Int32) &&& 31).toUInt32).toInt32) &&& (255 : Int32)).toUInt32.toUInt16.toUInt32.toInt32))]) rfl kk) ?_
                show OGo p e below (s₁.setTop (mkF m 208 #[.val (.int p1), .val (.int p2), .val (.int p3), .val (.int p4), .val (.int ((p3 &&& (255 : Int32)).toUInt32.toUInt16.toUInt32.toInt32)), .val (.int ((((p3.toUInt32 >>> ((8 : Int32) &&& 31).toUInt32).toInt32) &&& (255 : Int32)).toUInt32.toUInt16.toUInt32.toInt32)), .val (.int ((((p3.toUInt32 >>> ((16 : Int32) &&& 31).toUInt32).toInt32) &&& (255 : Int32)).toUInt32.toUInt16.toUInt32.toInt32)), .val (.int ((((p3.toUInt32 >>> ((24 : Int32) &&& 31).toUInt32).toInt32) &&& (255 : Int32)).toUInt32.toUInt16.toUInt32.toInt32)), .val (.int ((p4 &&& (255 : Int32)).toUInt32.toUInt16.toUInt32.toInt32)), .val (.int d9), .val (.int d10), .val (.int d11), .val (.int ((((p3.toUInt32 >>> ((24 : Int32) &&& 31).toUInt32).toInt32) &&& (255 : Int32)).toUInt32.toUInt16.toUInt32.toInt32))] [])) _
                exact Kf4 _ _ _ _ hd9 hd10 hd11 hb7
              · refine OGo.step (fun _ kk => XS.ifNo X0.here hx rfl (hb hby own_d_method_3_code_196) rfl ((if0 _ _).trans (feq z3).1) kk) ?_
                show OGo p e below (s₁.setTop (mkF m 199 #[.val (.int p1), .val (.int p2), .val (.int p3), .val (.int p4), .val (.int ((p3 &&& (255 : Int32)).toUInt32.toUInt16.toUInt32.toInt32)), .val (.int ((((p3.toUInt32 >>> ((8 : Int32) &&& 31).toUInt32).toInt32) &&& (255 : Int32)).toUInt32.toUInt16.toUInt32.toInt32)), .val (.int ((((p3.toUInt32 >>> ((16 : Int32) &&& 31).toUInt32).toInt32) &&& (255 : Int32)).toUInt32.toUInt16.toUInt32.toInt32)), .val (.int ((((p3.toUInt32 >>> ((24 : Int32) &&& 31).toUInt32).toInt32) &&& (255 : Int32)).toUInt32.toUInt16.toUInt32.toInt32)), .val (.int ((p4 &&& (255 : Int32)).toUInt32.toUInt16.toUInt32.toInt32)), .val (.int d9), .val (.int d10), .val (.int d11), .unset] [])) _
                refine OGo.step (fun _ kk => XS.bipush X0.here hx rfl (hb hby own_d_method_3_code_199) kk) ?_
                refine OGo.step (fun _ kk => XS.goto X0.here hx rfl (pc0 := 201) (pc' := 206) rfl (hb hby own_d_method_3_code_201) (by decide) (by decide) kk) ?_
                refine OGo.step (fun _ kk => XS.istore X0.here hx rfl (hb hby own_d_method_3_code_206) rfl (l' := #[.val (.int p1), .val (.int p2), .val (.int p3), .val (.int p4), .val (.int ((p3 &&& (255 : Int32)).toUInt32.toUInt16.toUInt32.toInt32)), .val (.int ((((p3.toUInt32 >>> ((8 : Int32) &&& 31).toUInt32).toInt32) &&& (255 : Int32)).toUInt32.toUInt16.toUInt32.toInt32)), .val (.int ((((p3.toUInt32 >>> ((16 : Int32) &&& 31).toUInt32).toInt32) &&& (255 : Int32)).toUInt32.toUInt16.toUInt32.toInt32)), .val (.int ((((p3.toUInt32 >>> ((24 : Int32) &&& 31).toUInt32).toInt32) &&& (255 : Int32)).toUInt32.toUInt16.toUInt32.toInt32)), .val (.int ((p4 &&& (255 : Int32)).toUInt32.toUInt16.toUInt32.toInt32)), .val (.int d9), .val (.int d10), .val (.int d11), .val (.int (115 : Int32))]) rfl kk) ?_
                show OGo p e below (s₁.setTop (mkF m 208 #[.val (.int p1), .val (.int p2), .val (.int p3), .val (.int p4), .val (.int ((p3 &&& (255 : Int32)).toUInt32.toUInt16.toUInt32.toInt32)), .val (.int ((((p3.toUInt32 >>> ((8 : Int32) &&& 31).toUInt32).toInt32) &&& (255 : Int32)).toUInt32.toUInt16.toUInt32.toInt32)), .val (.int ((((p3.toUInt32 >>> ((16 : Int32) &&& 31).toUInt32).toInt32) &&& (255 : Int32)).toUInt32.toUInt16.toUInt32.toInt32)), .val (.int ((((p3.toUInt32 >>> ((24 : Int32) &&& 31).toUInt32).toInt32) &&& (255 : Int32)).toUInt32.toUInt16.toUInt32.toInt32)), .val (.int ((p4 &&& (255 : Int32)).toUInt32.toUInt16.toUInt32.toInt32)), .val (.int d9), .val (.int d10), .val (.int d11), .val (.int (115 : Int32))] [])) _
                exact Kf4 _ _ _ _ hd9 hd10 hd11 (by decide)
            have Kf2 : ∀ d9 d10 : Int32, (¬ d9 < 0 ∧ ¬ (255 : Int32) < d9) → (¬ d10 < 0 ∧ ¬ (255 : Int32) < d10) → OGo p e below (s₁.setTop (mkF m 177 #[.val (.int p1), .val (.int p2), .val (.int p3), .val (.int p4), .val (.int ((p3 &&& (255 : Int32)).toUInt32.toUInt16.toUInt32.toInt32)), .val (.int ((((p3.toUInt32 >>> ((8 : Int32) &&& 31).toUInt32).toInt32) &&& (255 : Int32)).toUInt32.toUInt16.toUInt32.toInt32)), .val (.int ((((p3.toUInt32 >>> ((16 : Int32) &&& 31).toUInt32).toInt32) &&& (255 : Int32)).toUInt32.toUInt16.toUInt32.toInt32)), .val (.int ((((p3.toUInt32 >>> ((24 : Int32) &&& 31).toUInt32).toInt32) &&& (255 : Int32)).toUInt32.toUInt16.toUInt32.toInt32)), .val (.int ((p4 &&& (255 : Int32)).toUInt32.toUInt16.toUInt32.toInt32)), .val (.int d9), .val (.int d10), .unset, .unset] [])) (OEndW s Z consts_1 (fun v h L => ∃ (x : Addr) (cs : List Int32), v = some (.ref x) ∧ Fr n0 L ∧ Ext h0 h ∧ OStr Z h x cs ∧ ∀ c ∈ cs, ¬ c < 0 ∧ ¬ (255 : Int32) < c) ({ frames := 4, cells := 3, slots := 20, locals := 66 } : Room).cells ({ frames := 4, cells := 3, slots := 20, locals := 66 } : Room).slots) := by
              intro d9 d10 hd9 hd10
              show OGo p e below (s₁.setTop (mkF m 177 #[.val (.int p1), .val (.int p2), .val (.int p3), .val (.int p4), .val (.int ((p3 &&& (255 : Int32)).toUInt32.toUInt16.toUInt32.toInt32)), .val (.int ((((p3.toUInt32 >>> ((8 : Int32) &&& 31).toUInt32).toInt32) &&& (255 : Int32)).toUInt32.toUInt16.toUInt32.toInt32)), .val (.int ((((p3.toUInt32 >>> ((16 : Int32) &&& 31).toUInt32).toInt32) &&& (255 : Int32)).toUInt32.toUInt16.toUInt32.toInt32)), .val (.int ((((p3.toUInt32 >>> ((24 : Int32) &&& 31).toUInt32).toInt32) &&& (255 : Int32)).toUInt32.toUInt16.toUInt32.toInt32)), .val (.int ((p4 &&& (255 : Int32)).toUInt32.toUInt16.toUInt32.toInt32)), .val (.int d9), .val (.int d10), .unset, .unset] [])) _
              refine OGo.step (fun _ kk => XS.iloadN X0.here hx rfl (hb hby own_d_method_3_code_177) rfl kk) ?_
              refine OGo.step (fun _ kk => XS.iconst X0.here hx rfl (hb hby own_d_method_3_code_178) kk) ?_
              refine OGo.step (fun _ kk => XS.iand X0.here hx rfl (hb hby own_d_method_3_code_179) rfl kk) ?_
              show OGo p e below (s₁.setTop (mkF m 180 #[.val (.int p1), .val (.int p2), .val (.int p3), .val (.int p4), .val (.int ((p3 &&& (255 : Int32)).toUInt32.toUInt16.toUInt32.toInt32)), .val (.int ((((p3.toUInt32 >>> ((8 : Int32) &&& 31).toUInt32).toInt32) &&& (255 : Int32)).toUInt32.toUInt16.toUInt32.toInt32)), .val (.int ((((p3.toUInt32 >>> ((16 : Int32) &&& 31).toUInt32).toInt32) &&& (255 : Int32)).toUInt32.toUInt16.toUInt32.toInt32)), .val (.int ((((p3.toUInt32 >>> ((24 : Int32) &&& 31).toUInt32).toInt32) &&& (255 : Int32)).toUInt32.toUInt16.toUInt32.toInt32)), .val (.int ((p4 &&& (255 : Int32)).toUInt32.toUInt16.toUInt32.toInt32)), .val (.int d9), .val (.int d10), .unset, .unset] [(.int (p2 &&& (4 : Int32)))])) _
              by_cases z2 : (p2 &&& (4 : Int32)) = (0 : Int32)
              · refine OGo.step (fun _ kk => XS.ifYes X0.here hx rfl (pc0 := 180) (pc' := 188) rfl (hb hby own_d_method_3_code_180) rfl ((if0 _ _).trans (teq z2).1) (by decide) (by decide) kk) ?_
                show OGo p e below (s₁.setTop (mkF m 188 #[.val (.int p1), .val (.int p2), .val (.int p3), .val (.int p4), .val (.int ((p3 &&& (255 : Int32)).toUInt32.toUInt16.toUInt32.toInt32)), .val (.int ((((p3.toUInt32 >>> ((8 : Int32) &&& 31).toUInt32).toInt32) &&& (255 : Int32)).toUInt32.toUInt16.toUInt32.toInt32)), .val (.int ((((p3.toUInt32 >>> ((16 : Int32) &&& 31).toUInt32).toInt32) &&& (255 : Int32)).toUInt32.toUInt16.toUInt32.toInt32)), .val (.int ((((p3.toUInt32 >>> ((24 : Int32) &&& 31).toUInt32).toInt32) &&& (255 : Int32)).toUInt32.toUInt16.toUInt32.toInt32)), .val (.int ((p4 &&& (255 : Int32)).toUInt32.toUInt16.toUInt32.toInt32)), .val (.int d9), .val (.int d10), .unset, .unset] [])) _
                refine OGo.step (fun _ kk => XS.iload X0.here hx rfl (hb hby own_d_method_3_code_188) rfl kk) ?_
                refine OGo.step (fun _ kk => XS.istore X0.here hx rfl (hb hby own_d_method_3_code_190) rfl (l' := #[.val (.int p1), .val (.int p2), .val (.int p3), .val (.int p4), .val (.int ((p3 &&& (255 : Int32)).toUInt32.toUInt16.toUInt32.toInt32)), .val (.int ((((p3.toUInt32 >>> ((8 : Int32) &&& 31).toUInt32).toInt32) &&& (255 : Int32)).toUInt32.toUInt16.toUInt32.toInt32)), .val (.int ((((p3.toUInt32 >>> ((16 : Int32) &&& 31).toUInt32).toInt32) &&& (255 : Int32)).toUInt32.toUInt16.toUInt32.toInt32)), .val (.int ((((p3.toUInt32 >>> ((24 : Int32) &&& 31).toUInt32).toInt32) &&& (255 : Int32)).toUInt32.toUInt16.toUInt32.toInt32)), .val (.int ((p4 &&& (255 : Int32)).toUInt32.toUInt16.toUInt32.toInt32)), .val (.int d9), .val (.int d10), .val (.int ((((p3.toUInt32 >>> ((16 : Int32) &&& 31).toUInt32).toInt32) &&& (255 : Int32)).toUInt32.toUInt16.toUInt32.toInt32)), .unset]) rfl kk) ?_
                show OGo p e below (s₁.setTop (mkF m 192 #[.val (.int p1), .val (.int p2), .val (.int p3), .val (.int p4), .val (.int ((p3 &&& (255 : Int32)).toUInt32.toUInt16.toUInt32.toInt32)), .val (.int ((((p3.toUInt32 >>> ((8 : Int32) &&& 31).toUInt32).toInt32) &&& (255 : Int32)).toUInt32.toUInt16.toUInt32.toInt32)), .val (.int ((((p3.toUInt32 >>> ((16 : Int32) &&& 31).toUInt32).toInt32) &&& (255 : Int32)).toUInt32.toUInt16.toUInt32.toInt32)), .val (.int ((((p3.toUInt32 >>> ((24 : Int32) &&& 31).toUInt32).toInt32) &&& (255 : Int32)).toUInt32.toUInt16.toUInt32.toInt32)), .val (.int ((p4 &&& (255 : Int32)).toUInt32.toUInt16.toUInt32.toInt32)), .val (.int d9), .val (.int d10), .val (.int ((((p3.toUInt32 >>> ((16 : Int32) &&& 31).toUInt32).toInt32) &&& (255 : Int32)).toUInt32.toUInt16.toUInt32.toInt32)), .unset] [])) _
                exact Kf3 _ _ _ hd9 hd10 hb6
              · refine OGo.step (fun _ kk => XS.ifNo X0.here hx rfl (hb hby own_d_method_3_code_180) rfl ((if0 _ _).trans (feq z2).1) kk) ?_
                show OGo p e below (s₁.setTop (mkF m 183 #[.val (.int p1), .val (.int p2), .val (.int p3), .val (.int p4), .val (.int ((p3 &&& (255 : Int32)).toUInt32.toUInt16.toUInt32.toInt32)), .val (.int ((((p3.toUInt32 >>> ((8 : Int32) &&& 31).toUInt32).toInt32) &&& (255 : Int32)).toUInt32.toUInt16.toUInt32.toInt32)), .val (.int ((((p3.toUInt32 >>> ((16 : Int32) &&& 31).toUInt32).toInt32) &&& (255 : Int32)).toUInt32.toUInt16.toUInt32.toInt32)), .val (.int ((((p3.toUInt32 >>> ((24 : Int32) &&& 31).toUInt32).toInt32) &&& (255 : Int32)).toUInt32.toUInt16.toUInt32.toInt32)), .val (.int ((p4 &&& (255 : Int32)).toUInt32.toUInt16.toUInt32.toInt32)), .val (.int d9), .val (.int d10), .unset, .unset] [])) _
                refine OGo.step (fun _ kk => XS.bipush X0.here hx rfl (hb hby own_d_method_3_code_183) kk) ?_
                refine OGo.step (fun _ kk => XS.goto X0.here hx rfl (pc0 := 185) (pc' := 190) rfl (hb hby own_d_method_3_code_185) (by decide) (by decide) kk) ?_
                refine OGo.step (fun _ kk => XS.istore X0.here hx rfl (hb hby own_d_method_3_code_190) rfl (l' := #[.val (.int p1), .val (.int p2), .val (.int p3), .val (.int p4), .val (.int ((p3 &&& (255 : Int32)).toUInt32.toUInt16.toUInt32.toInt32)), .val (.int ((((p3.toUInt32 >>> ((8 : Int32) &&& 31).toUInt32).toInt32) &&& (255 : Int32)).toUInt32.toUInt16.toUInt32.toInt32)), .val (.int ((((p3.toUInt32 >>> ((16 : Int32) &&& 31).toUInt32).toInt32) &&& (255 : Int32)).toUInt32.toUInt16.toUInt32.toInt32)), .val (.int ((((p3.toUInt32 >>> ((24 : Int32) &&& 31).toUInt32).toInt32) &&& (255 : Int32)).toUInt32.toUInt16.toUInt32.toInt32)), .val (.int ((p4 &&& (255 : Int32)).toUInt32.toUInt16.toUInt32.toInt32)), .val (.int d9), .val (.int d10), .val (.int (97 : Int32)), .unset]) rfl kk) ?_
                show OGo p e below (s₁.setTop (mkF m 192 #[.val (.int p1), .val (.int p2), .val (.int p3), .val (.int p4), .val (.int ((p3 &&& (255 : Int32)).toUInt32.toUInt16.toUInt32.toInt32)), .val (.int ((((p3.toUInt32 >>> ((8 : Int32) &&& 31).toUInt32).toInt32) &&& (255 : Int32)).toUInt32.toUInt16.toUInt32.toInt32)), .val (.int ((((p3.toUInt32 >>> ((16 : Int32) &&& 31).toUInt32).toInt32) &&& (255 : Int32)).toUInt32.toUInt16.toUInt32.toInt32)), .val (.int ((((p3.toUInt32 >>> ((24 : Int32) &&& 31).toUInt32).toInt32) &&& (255 : Int32)).toUInt32.toUInt16.toUInt32.toInt32)), .val (.int ((p4 &&& (255 : Int32)).toUInt32.toUInt16.toUInt32.toInt32)), .val (.int d9), .val (.int d10), .val (.int (97 : Int32)), .unset] [])) _
                exact Kf3 _ _ _ hd9 hd10 (by decide)
            have Kf1 : ∀ d9 : Int32, (¬ d9 < 0 ∧ ¬ (255 : Int32) < d9) → OGo p e below (s₁.setTop (mkF m 162 #[.val (.int p1), .val (.int p2), .val (.int p3), .val (.int p4), .val (.int ((p3 &&& (255 : Int32)).toUInt32.toUInt16.toUInt32.toInt32)), .val (.int ((((p3.toUInt32 >>> ((8 : Int32) &&& 31).toUInt32).toInt32) &&& (255 : Int32)).toUInt32.toUInt16.toUInt32.toInt32)), .val (.int ((((p3.toUInt32 >>> ((16 : Int32) &&& 31).toUInt32).toInt32) &&& (255 : Int32)).toUInt32.toUInt16.toUInt32.toInt32)), .val (.int ((((p3.toUInt32 >>> ((24 : Int32) &&& 31).toUInt32).toInt32) &&& (255 : Int32)).toUInt32.toUInt16.toUInt32.toInt32)), .val (.int ((p4 &&& (255 : Int32)).toUInt32.toUInt16.toUInt32.toInt32)), .val (.int d9), .unset, .unset, .unset] [])) (OEndW s Z consts_1 (fun v h L => ∃ (x : Addr) (cs : List Int32), v = some (.ref x) ∧ Fr n0 L ∧ Ext h0 h ∧ OStr Z h x cs ∧ ∀ c ∈ cs, ¬ c < 0 ∧ ¬ (255 : Int32) < c) ({ frames := 4, cells := 3, slots := 20, locals := 66 } : Room).cells ({ frames := 4, cells := 3, slots := 20, locals := 66 } : Room).slots) := by
              intro d9 hd9
              show OGo p e below (s₁.setTop (mkF m 162 #[.val (.int p1), .val (.int p2), .val (.int p3), .val (.int p4), .val (.int ((p3 &&& (255 : Int32)).toUInt32.toUInt16.toUInt32.toInt32)), .val (.int ((((p3.toUInt32 >>> ((8 : Int32) &&& 31).toUInt32).toInt32) &&& (255 : Int32)).toUInt32.toUInt16.toUInt32.toInt32)), .val (.int ((((p3.toUInt32 >>> ((16 : Int32) &&& 31).toUInt32).toInt32) &&& (255 : Int32)).toUInt32.toUInt16.toUInt32.toInt32)), .val (.int ((((p3.toUInt32 >>> ((24 : Int32) &&& 31).toUInt32).toInt32) &&& (255 : Int32)).toUInt32.toUInt16.toUInt32.toInt32)), .val (.int ((p4 &&& (255 : Int32)).toUInt32.toUInt16.toUInt32.toInt32)), .val (.int d9), .unset, .unset, .unset] [])) _
              refine OGo.step (fun _ kk => XS.iloadN X0.here hx rfl (hb hby own_d_method_3_code_162) rfl kk) ?_
              refine OGo.step (fun _ kk => XS.iconst X0.here hx rfl (hb hby own_d_method_3_code_163) kk) ?_
              refine OGo.step (fun _ kk => XS.iand X0.here hx rfl (hb hby own_d_method_3_code_164) rfl kk) ?_
              show OGo p e below (s₁.setTop (mkF m 165 #[.val (.int p1), .val (.int p2), .val (.int p3), .val (.int p4), .val (.int ((p3 &&& (255 : Int32)).toUInt32.toUInt16.toUInt32.toInt32)), .val (.int ((((p3.toUInt32 >>> ((8 : Int32) &&& 31).toUInt32).toInt32) &&& (255 : Int32)).toUInt32.toUInt16.toUInt32.toInt32)), .val (.int ((((p3.toUInt32 >>> ((16 : Int32) &&& 31).toUInt32).toInt32) &&& (255 : Int32)).toUInt32.toUInt16.toUInt32.toInt32)), .val (.int ((((p3.toUInt32 >>> ((24 : Int32) &&& 31).toUInt32).toInt32) &&& (255 : Int32)).toUInt32.toUInt16.toUInt32.toInt32)), .val (.int ((p4 &&& (255 : Int32)).toUInt32.toUInt16.toUInt32.toInt32)), .val (.int d9), .unset, .unset, .unset] [(.int (p2 &&& (2 : Int32)))])) _
              by_cases z1 : (p2 &&& (2 : Int32)) = (0 : Int32)
              · refine OGo.step (fun _ kk => XS.ifYes X0.here hx rfl (pc0 := 165) (pc' := 173) rfl (hb hby own_d_method_3_code_165) rfl ((if0 _ _).trans (teq z1).1) (by decide) (by decide) kk) ?_
                show OGo p e below (s₁.setTop (mkF m 173 #[.val (.int p1), .val (.int p2), .val (.int p3), .val (.int p4), .val (.int ((p3 &&& (255 : Int32)).toUInt32.toUInt16.toUInt32.toInt32)), .val (.int ((((p3.toUInt32 >>> ((8 : Int32) &&& 31).toUInt32).toInt32) &&& (255 : Int32)).toUInt32.toUInt16.toUInt32.toInt32)), .val (.int ((((p3.toUInt32 >>> ((16 : Int32) &&& 31).toUInt32).toInt32) &&& (255 : Int32)).toUInt32.toUInt16.toUInt32.toInt32)), .val (.int ((((p3.toUInt32 >>> ((24 : Int32) &&& 31).toUInt32).toInt32) &&& (255 : Int32)).toUInt32.toUInt16.toUInt32.toInt32)), .val (.int ((p4 &&& (255 : Int32)).toUInt32.toUInt16.toUInt32.toInt32)), .val (.int d9), .unset, .unset, .unset] [])) _
                refine OGo.step (fun _ kk => XS.iload X0.here hx rfl (hb hby own_d_method_3_code_173) rfl kk) ?_
                refine OGo.step (fun _ kk => XS.istore X0.here hx rfl (hb hby own_d_method_3_code_175) rfl (l' := #[.val (.int p1), .val (.int p2), .val (.int p3), .val (.int p4), .val (.int ((p3 &&& (255 : Int32)).toUInt32.toUInt16.toUInt32.toInt32)), .val (.int ((((p3.toUInt32 >>> ((8 : Int32) &&& 31).toUInt32).toInt32) &&& (255 : Int32)).toUInt32.toUInt16.toUInt32.toInt32)), .val (.int ((((p3.toUInt32 >>> ((16 : Int32) &&& 31).toUInt32).toInt32) &&& (255 : Int32)).toUInt32.toUInt16.toUInt32.toInt32)), .val (.int ((((p3.toUInt32 >>> ((24 : Int32) &&& 31).toUInt32).toInt32) &&& (255 : Int32)).toUInt32.toUInt16.toUInt32.toInt32)), .val (.int ((p4 &&& (255 : Int32)).toUInt32.toUInt16.toUInt32.toInt32)), .val (.int d9), .val (.int ((((p3.toUInt32 >>> ((8 : Int32) &&& 31).toUInt32).toInt32) &&& (255 : Int32)).toUInt32.toUInt16.toUInt32.toInt32)), .unset, .unset]) rfl kk) ?_
                show OGo p e below (s₁.setTop (mkF m 177 #[.val (.int p1), .val (.int p2), .val (.int p3), .val (.int p4), .val (.int ((p3 &&& (255 : Int32)).toUInt32.toUInt16.toUInt32.toInt32)), .val (.int ((((p3.toUInt32 >>> ((8 : Int32) &&& 31).toUInt32).toInt32) &&& (255 : Int32)).toUInt32.toUInt16.toUInt32.toInt32)), .val (.int ((((p3.toUInt32 >>> ((16 : Int32) &&& 31).toUInt32).toInt32) &&& (255 : Int32)).toUInt32.toUInt16.toUInt32.toInt32)), .val (.int ((((p3.toUInt32 >>> ((24 : Int32) &&& 31).toUInt32).toInt32) &&& (255 : Int32)).toUInt32.toUInt16.toUInt32.toInt32)), .val (.int ((p4 &&& (255 : Int32)).toUInt32.toUInt16.toUInt32.toInt32)), .val (.int d9), .val (.int ((((p3.toUInt32 >>> ((8 : Int32) &&& 31).toUInt32).toInt32) &&& (255 : Int32)).toUInt32.toUInt16.toUInt32.toInt32)), .unset, .unset] [])) _
                exact Kf2 _ _ hd9 hb5
              · refine OGo.step (fun _ kk => XS.ifNo X0.here hx rfl (hb hby own_d_method_3_code_165) rfl ((if0 _ _).trans (feq z1).1) kk) ?_
                show OGo p e below (s₁.setTop (mkF m 168 #[.val (.int p1), .val (.int p2), .val (.int p3), .val (.int p4), .val (.int ((p3 &&& (255 : Int32)).toUInt32.toUInt16.toUInt32.toInt32)), .val (.int ((((p3.toUInt32 >>> ((8 : Int32) &&& 31).toUInt32).toInt32) &&& (255 : Int32)).toUInt32.toUInt16.toUInt32.toInt32)), .val (.int ((((p3.toUInt32 >>> ((16 : Int32) &&& 31).toUInt32).toInt32) &&& (255 : Int32)).toUInt32.toUInt16.toUInt32.toInt32)), .val (.int ((((p3.toUInt32 >>> ((24 : Int32) &&& 31).toUInt32).toInt32) &&& (255 : Int32)).toUInt32.toUInt16.toUInt32.toInt32)), .val (.int ((p4 &&& (255 : Int32)).toUInt32.toUInt16.toUInt32.toInt32)), .val (.int d9), .unset, .unset, .unset] [])) _
                refine OGo.step (fun _ kk => XS.bipush X0.here hx rfl (hb hby own_d_method_3_code_168) kk) ?_
                refine OGo.step (fun _ kk => XS.goto X0.here hx rfl (pc0 := 170) (pc' := 175) rfl (hb hby own_d_method_3_code_170) (by decide) (by decide) kk) ?_
                refine OGo.step (fun _ kk => XS.istore X0.here hx rfl (hb hby own_d_method_3_code_175) rfl (l' := #[.val (.int p1), .val (.int p2), .val (.int p3), .val (.int p4), .val (.int ((p3 &&& (255 : Int32)).toUInt32.toUInt16.toUInt32.toInt32)), .val (.int ((((p3.toUInt32 >>> ((8 : Int32) &&& 31).toUInt32).toInt32) &&& (255 : Int32)).toUInt32.toUInt16.toUInt32.toInt32)), .val (.int ((((p3.toUInt32 >>> ((16 : Int32) &&& 31).toUInt32).toInt32) &&& (255 : Int32)).toUInt32.toUInt16.toUInt32.toInt32)), .val (.int ((((p3.toUInt32 >>> ((24 : Int32) &&& 31).toUInt32).toInt32) &&& (255 : Int32)).toUInt32.toUInt16.toUInt32.toInt32)), .val (.int ((p4 &&& (255 : Int32)).toUInt32.toUInt16.toUInt32.toInt32)), .val (.int d9), .val (.int (45 : Int32)), .unset, .unset]) rfl kk) ?_
                show OGo p e below (s₁.setTop (mkF m 177 #[.val (.int p1), .val (.int p2), .val (.int p3), .val (.int p4), .val (.int ((p3 &&& (255 : Int32)).toUInt32.toUInt16.toUInt32.toInt32)), .val (.int ((((p3.toUInt32 >>> ((8 : Int32) &&& 31).toUInt32).toInt32) &&& (255 : Int32)).toUInt32.toUInt16.toUInt32.toInt32)), .val (.int ((((p3.toUInt32 >>> ((16 : Int32) &&& 31).toUInt32).toInt32) &&& (255 : Int32)).toUInt32.toUInt16.toUInt32.toInt32)), .val (.int ((((p3.toUInt32 >>> ((24 : Int32) &&& 31).toUInt32).toInt32) &&& (255 : Int32)).toUInt32.toUInt16.toUInt32.toInt32)), .val (.int ((p4 &&& (255 : Int32)).toUInt32.toUInt16.toUInt32.toInt32)), .val (.int d9), .val (.int (45 : Int32)), .unset, .unset] [])) _
                exact Kf2 _ _ hd9 (by decide)
            refine OGo.step (fun _ kk => XS.iloadN X0.here hx rfl (hb hby own_d_method_3_code_147) rfl kk) ?_
            refine OGo.step (fun _ kk => XS.iconst X0.here hx rfl (hb hby own_d_method_3_code_148) kk) ?_
            refine OGo.step (fun _ kk => XS.iand X0.here hx rfl (hb hby own_d_method_3_code_149) rfl kk) ?_
            show OGo p e below (s₁.setTop (mkF m 150 #[.val (.int p1), .val (.int p2), .val (.int p3), .val (.int p4), .val (.int ((p3 &&& (255 : Int32)).toUInt32.toUInt16.toUInt32.toInt32)), .val (.int ((((p3.toUInt32 >>> ((8 : Int32) &&& 31).toUInt32).toInt32) &&& (255 : Int32)).toUInt32.toUInt16.toUInt32.toInt32)), .val (.int ((((p3.toUInt32 >>> ((16 : Int32) &&& 31).toUInt32).toInt32) &&& (255 : Int32)).toUInt32.toUInt16.toUInt32.toInt32)), .val (.int ((((p3.toUInt32 >>> ((24 : Int32) &&& 31).toUInt32).toInt32) &&& (255 : Int32)).toUInt32.toUInt16.toUInt32.toInt32)), .val (.int ((p4 &&& (255 : Int32)).toUInt32.toUInt16.toUInt32.toInt32)), .unset, .unset, .unset, .unset] [(.int (p2 &&& (1 : Int32)))])) _
            by_cases z0 : (p2 &&& (1 : Int32)) = (0 : Int32)
            · refine OGo.step (fun _ kk => XS.ifYes X0.here hx rfl (pc0 := 150) (pc' := 158) rfl (hb hby own_d_method_3_code_150) rfl ((if0 _ _).trans (teq z0).1) (by decide) (by decide) kk) ?_
              show OGo p e below (s₁.setTop (mkF m 158 #[.val (.int p1), .val (.int p2), .val (.int p3), .val (.int p4), .val (.int ((p3 &&& (255 : Int32)).toUInt32.toUInt16.toUInt32.toInt32)), .val (.int ((((p3.toUInt32 >>> ((8 : Int32) &&& 31).toUInt32).toInt32) &&& (255 : Int32)).toUInt32.toUInt16.toUInt32.toInt32)), .val (.int ((((p3.toUInt32 >>> ((16 : Int32) &&& 31).toUInt32).toInt32) &&& (255 : Int32)).toUInt32.toUInt16.toUInt32.toInt32)), .val (.int ((((p3.toUInt32 >>> ((24 : Int32) &&& 31).toUInt32).toInt32) &&& (255 : Int32)).toUInt32.toUInt16.toUInt32.toInt32)), .val (.int ((p4 &&& (255 : Int32)).toUInt32.toUInt16.toUInt32.toInt32)), .unset, .unset, .unset, .unset] [])) _
              refine OGo.step (fun _ kk => XS.iload X0.here hx rfl (hb hby own_d_method_3_code_158) rfl kk) ?_
              refine OGo.step (fun _ kk => XS.istore X0.here hx rfl (hb hby own_d_method_3_code_160) rfl (l' := #[.val (.int p1), .val (.int p2), .val (.int p3), .val (.int p4), .val (.int ((p3 &&& (255 : Int32)).toUInt32.toUInt16.toUInt32.toInt32)), .val (.int ((((p3.toUInt32 >>> ((8 : Int32) &&& 31).toUInt32).toInt32) &&& (255 : Int32)).toUInt32.toUInt16.toUInt32.toInt32)), .val (.int ((((p3.toUInt32 >>> ((16 : Int32) &&& 31).toUInt32).toInt32) &&& (255 : Int32)).toUInt32.toUInt16.toUInt32.toInt32)), .val (.int ((((p3.toUInt32 >>> ((24 : Int32) &&& 31).toUInt32).toInt32) &&& (255 : Int32)).toUInt32.toUInt16.toUInt32.toInt32)), .val (.int ((p4 &&& (255 : Int32)).toUInt32.toUInt16.toUInt32.toInt32)), .val (.int ((p3 &&& (255 : Int32)).toUInt32.toUInt16.toUInt32.toInt32)), .unset, .unset, .unset]) rfl kk) ?_
              show OGo p e below (s₁.setTop (mkF m 162 #[.val (.int p1), .val (.int p2), .val (.int p3), .val (.int p4), .val (.int ((p3 &&& (255 : Int32)).toUInt32.toUInt16.toUInt32.toInt32)), .val (.int ((((p3.toUInt32 >>> ((8 : Int32) &&& 31).toUInt32).toInt32) &&& (255 : Int32)).toUInt32.toUInt16.toUInt32.toInt32)), .val (.int ((((p3.toUInt32 >>> ((16 : Int32) &&& 31).toUInt32).toInt32) &&& (255 : Int32)).toUInt32.toUInt16.toUInt32.toInt32)), .val (.int ((((p3.toUInt32 >>> ((24 : Int32) &&& 31).toUInt32).toInt32) &&& (255 : Int32)).toUInt32.toUInt16.toUInt32.toInt32)), .val (.int ((p4 &&& (255 : Int32)).toUInt32.toUInt16.toUInt32.toInt32)), .val (.int ((p3 &&& (255 : Int32)).toUInt32.toUInt16.toUInt32.toInt32)), .unset, .unset, .unset] [])) _
              exact Kf1 _ hb4
            · refine OGo.step (fun _ kk => XS.ifNo X0.here hx rfl (hb hby own_d_method_3_code_150) rfl ((if0 _ _).trans (feq z0).1) kk) ?_
              show OGo p e below (s₁.setTop (mkF m 153 #[.val (.int p1), .val (.int p2), .val (.int p3), .val (.int p4), .val (.int ((p3 &&& (255 : Int32)).toUInt32.toUInt16.toUInt32.toInt32)), .val (.int ((((p3.toUInt32 >>> ((8 : Int32) &&& 31).toUInt32).toInt32) &&& (255 : Int32)).toUInt32.toUInt16.toUInt32.toInt32)), .val (.int ((((p3.toUInt32 >>> ((16 : Int32) &&& 31).toUInt32).toInt32) &&& (255 : Int32)).toUInt32.toUInt16.toUInt32.toInt32)), .val (.int ((((p3.toUInt32 >>> ((24 : Int32) &&& 31).toUInt32).toInt32) &&& (255 : Int32)).toUInt32.toUInt16.toUInt32.toInt32)), .val (.int ((p4 &&& (255 : Int32)).toUInt32.toUInt16.toUInt32.toInt32)), .unset, .unset, .unset, .unset] [])) _
              refine OGo.step (fun _ kk => XS.bipush X0.here hx rfl (hb hby own_d_method_3_code_153) kk) ?_
              refine OGo.step (fun _ kk => XS.goto X0.here hx rfl (pc0 := 155) (pc' := 160) rfl (hb hby own_d_method_3_code_155) (by decide) (by decide) kk) ?_
              refine OGo.step (fun _ kk => XS.istore X0.here hx rfl (hb hby own_d_method_3_code_160) rfl (l' := #[.val (.int p1), .val (.int p2), .val (.int p3), .val (.int p4), .val (.int ((p3 &&& (255 : Int32)).toUInt32.toUInt16.toUInt32.toInt32)), .val (.int ((((p3.toUInt32 >>> ((8 : Int32) &&& 31).toUInt32).toInt32) &&& (255 : Int32)).toUInt32.toUInt16.toUInt32.toInt32)), .val (.int ((((p3.toUInt32 >>> ((16 : Int32) &&& 31).toUInt32).toInt32) &&& (255 : Int32)).toUInt32.toUInt16.toUInt32.toInt32)), .val (.int ((((p3.toUInt32 >>> ((24 : Int32) &&& 31).toUInt32).toInt32) &&& (255 : Int32)).toUInt32.toUInt16.toUInt32.toInt32)), .val (.int ((p4 &&& (255 : Int32)).toUInt32.toUInt16.toUInt32.toInt32)), .val (.int (45 : Int32)), .unset, .unset, .unset]) rfl kk) ?_
              show OGo p e below (s₁.setTop (mkF m 162 #[.val (.int p1), .val (.int p2), .val (.int p3), .val (.int p4), .val (.int ((p3 &&& (255 : Int32)).toUInt32.toUInt16.toUInt32.toInt32)), .val (.int ((((p3.toUInt32 >>> ((8 : Int32) &&& 31).toUInt32).toInt32) &&& (255 : Int32)).toUInt32.toUInt16.toUInt32.toInt32)), .val (.int ((((p3.toUInt32 >>> ((16 : Int32) &&& 31).toUInt32).toInt32) &&& (255 : Int32)).toUInt32.toUInt16.toUInt32.toInt32)), .val (.int ((((p3.toUInt32 >>> ((24 : Int32) &&& 31).toUInt32).toInt32) &&& (255 : Int32)).toUInt32.toUInt16.toUInt32.toInt32)), .val (.int ((p4 &&& (255 : Int32)).toUInt32.toUInt16.toUInt32.toInt32)), .val (.int (45 : Int32)), .unset, .unset, .unset] [])) _
              exact Kf1 _ (by decide)

set_option maxRecDepth 65536 in
set_option maxHeartbeats 40000000 in
theorem own_isAs (l : Launch) (Z : State) (a0 : Array Value) (hw : ∀ d ∈ tables_1, d.before a0 Z = true) (ws : List Jvm.Cond) (x : Addr) (cs : List Int32) (zc : Int32) (fm : Value) (h0 : Heap) (n0 : Nat) (Z0 : n0 ≤ h0.size) (SC : Sta Z h0 "java/lang/String" "COMPACT_STRINGS" "Z" (.int zc)) (hzc : ¬ zc = 0) (SF : Sta Z h0 "jdk/internal/util/Preconditions" "SIOOBE_FORMATTER" "Ljava/util/function/BiFunction;" fm) (hfm : fm.isRef = true) (G : OStr Z h0 x cs) (hs : ∀ c ∈ cs, ¬ c < 0 ∧ ¬ (255 : Int32) < c) :
    OMet l Z (⟨"com/example/tags_to_grants/tagstogrants/cli/TagsToGrantsIsOneRequestPinLaw", "isAs", "(Ljava/lang/String;)Z"⟩ : MethodName) method_4_code 1 (some .boolean) ws ({ frames := 4, cells := 0, slots := 0, locals := 53 } : Room) #[(.ref x)] h0 (fun v h L => v = some (.int (if (cs : List Int32) = [45, 45, 97, 115] then (1 : Int32) else 0)) ∧ Fr n0 L ∧ h = h0) := by
  refine OMet.body (plainFor_of_name own_pn0) ?_
  intro p e s m below meth c s₁ hx hby hml hown hnm hret hlk hZ X0 e0
  refine OGo.step (fun _ kk => castTop (show entryFrame m #[(.ref x)] 1 = (mkF m 0 #[.val (.ref x)] []) from by first | (simp [entryFrame, mkF, argsToLocals, Value.category]; done) | rfl) kk) ?_
  show OGo p e below (s₁.setTop (mkF m 0 #[.val (.ref x)] [])) _
  have hcl : cs.length ≤ 4000 := by obtain ⟨_, _, _, _, _, _, _, _, _, _, _, q⟩ := id G; exact q
  refine OGo.step (fun _ kk => XS.aloadN X0.here hx rfl (hb hby own_d_method_4_code_0) rfl rfl kk) ?_
  show OGo p e below (s₁.setTop (mkF m 1 #[.val (.ref x)] [(.ref x)])) _
  refine own_virtualK X0 hx hZ (y := (⟨"java/lang/String", "length", "()I"⟩ : MethodName)) (z := (⟨"java/lang/String", "length", "()I"⟩ : MethodName)) hown (hw _ (List.mem_of_getElem? (i := 126) rfl)) (hw _ (List.mem_of_getElem? (i := 127) rfl)) (notFace_of_selects (args := #[]) (mvT hZ (hw _ (List.mem_of_getElem? (i := 129) rfl)))) (hw _ (List.mem_of_getElem? (i := 129) rfl)) (hw _ (List.mem_of_getElem? (i := 128) rfl)) (by decide) (b := x) G.exa (W := 0) (own_slen (W := 0) hZ (fun d hd => hw d ((by decide +kernel : ∀ d ∈ StrChars.Road.wordsLen, d ∈ tables_1) d hd)) (kI := 4) (hw _ (List.mem_of_getElem? (i := 6) rfl)) G SC hzc n0 (by decide) (by decide)) e0 (pc := 1) (Ls := #[.val (.ref x)]) (argsL := []) (rest := []) (by rw [hml]; rfl) (lenOf own_pd2 rfl) rfl (hb hby own_d_method_4_code_1) (by decide) (by decide) ?_
  intro v125 T125 L125 X125 hQ125
  obtain ⟨rfl, N125, e125⟩ := hQ125
  show OGo p e below (T125.setTop (mkF m 4 #[.val (.ref x)] [(.int (Int32.ofNat cs.length))])) _
  have Nc125 := Fr.app (Fr.nil n0) N125
  refine OGo.step (fun _ kk => XS.iconst X125.here hx rfl (hb hby own_d_method_4_code_4) kk) ?_
  show OGo p e below (T125.setTop (mkF m 5 #[.val (.ref x)] [(.int (4 : Int32)), (.int (Int32.ofNat cs.length))])) _
  by_cases hl4 : (Int32.ofNat cs.length) = (4 : Int32)
  · refine OGo.step (fun _ kk => XS.icmpNo X125.here hx rfl (hb hby own_d_method_4_code_5) rfl (teq hl4).2 kk) ?_
    show OGo p e below (T125.setTop (mkF m 8 #[.val (.ref x)] [])) _
    obtain ⟨d0, d1, d2, d3, rfl⟩ := own_four cs (own_n4 hcl hl4)
    refine OGo.step (fun _ kk => XS.aloadN X125.here hx rfl (hb hby own_d_method_4_code_8) rfl rfl kk) ?_
    refine OGo.step (fun _ kk => XS.iconst X125.here hx rfl (hb hby own_d_method_4_code_9) kk) ?_
    show OGo p e below (T125.setTop (mkF m 10 #[.val (.ref x)] [(.int (0 : Int32)), (.ref x)])) _
    refine own_virtualK X125 hx hZ (y := (⟨"java/lang/String", "charAt", "(I)C"⟩ : MethodName)) (z := (⟨"java/lang/String", "charAt", "(I)C"⟩ : MethodName)) hown (hw _ (List.mem_of_getElem? (i := 136) rfl)) (hw _ (List.mem_of_getElem? (i := 137) rfl)) (notFace_of_selects (args := #[]) (mvT hZ (hw _ (List.mem_of_getElem? (i := 139) rfl)))) (hw _ (List.mem_of_getElem? (i := 139) rfl)) (hw _ (List.mem_of_getElem? (i := 138) rfl)) (by decide) (b := x) G.exa (W := 0) (own_chS (W := 0) hZ (fun d hd => hw d ((by decide +kernel : ∀ d ∈ StrChars.Road.wordsChN, d ∈ tables_1) d hd)) (kI := 4) (hw _ (List.mem_of_getElem? (i := 6) rfl)) (i := 0) G hs SC hzc SF hfm (Nat.le_of_ble_eq_true rfl) n0 (by decide) (by decide)) e125 (pc := 10) (Ls := #[.val (.ref x)]) (argsL := [(.int (0 : Int32))]) (rest := []) (by rw [hml]; rfl) (lenOf own_pd3 rfl) rfl (hb hby own_d_method_4_code_10) (by decide) (by decide) ?_
    intro v126 T126 L126 X126 hQ126
    obtain ⟨rfl, N126, e126⟩ := hQ126
    show OGo p e below (T126.setTop (mkF m 13 #[.val (.ref x)] [(.int d0)])) _
    have Nc126 := Fr.app Nc125 N126
    refine OGo.step (fun _ kk => XS.bipush X126.here hx rfl (hb hby own_d_method_4_code_13) kk) ?_
    show OGo p e below (T126.setTop (mkF m 15 #[.val (.ref x)] [(.int (45 : Int32)), (.int d0)])) _
    by_cases c0 : d0 = (45 : Int32)
    · refine OGo.step (fun _ kk => XS.icmpNo X126.here hx rfl (hb hby own_d_method_4_code_15) rfl (teq c0).2 kk) ?_
      show OGo p e below (T126.setTop (mkF m 18 #[.val (.ref x)] [])) _
      refine OGo.step (fun _ kk => XS.aloadN X126.here hx rfl (hb hby own_d_method_4_code_18) rfl rfl kk) ?_
      refine OGo.step (fun _ kk => XS.iconst X126.here hx rfl (hb hby own_d_method_4_code_19) kk) ?_
      show OGo p e below (T126.setTop (mkF m 20 #[.val (.ref x)] [(.int (1 : Int32)), (.ref x)])) _
      refine own_virtualK X126 hx hZ (y := (⟨"java/lang/String", "charAt", "(I)C"⟩ : MethodName)) (z := (⟨"java/lang/String", "charAt", "(I)C"⟩ : MethodName)) hown (hw _ (List.mem_of_getElem? (i := 136) rfl)) (hw _ (List.mem_of_getElem? (i := 137) rfl)) (notFace_of_selects (args := #[]) (mvT hZ (hw _ (List.mem_of_getElem? (i := 139) rfl)))) (hw _ (List.mem_of_getElem? (i := 139) rfl)) (hw _ (List.mem_of_getElem? (i := 138) rfl)) (by decide) (b := x) G.exa (W := 0) (own_chS (W := 0) hZ (fun d hd => hw d ((by decide +kernel : ∀ d ∈ StrChars.Road.wordsChN, d ∈ tables_1) d hd)) (kI := 4) (hw _ (List.mem_of_getElem? (i := 6) rfl)) (i := 1) G hs SC hzc SF hfm (Nat.le_of_ble_eq_true rfl) n0 (by decide) (by decide)) e126 (pc := 20) (Ls := #[.val (.ref x)]) (argsL := [(.int (1 : Int32))]) (rest := []) (by rw [hml]; rfl) (lenOf own_pd3 rfl) rfl (hb hby own_d_method_4_code_20) (by decide) (by decide) ?_
      intro v127 T127 L127 X127 hQ127
      obtain ⟨rfl, N127, e127⟩ := hQ127
      show OGo p e below (T127.setTop (mkF m 23 #[.val (.ref x)] [(.int d1)])) _
      have Nc127 := Fr.app Nc126 N127
      refine OGo.step (fun _ kk => XS.bipush X127.here hx rfl (hb hby own_d_method_4_code_23) kk) ?_
      show OGo p e below (T127.setTop (mkF m 25 #[.val (.ref x)] [(.int (45 : Int32)), (.int d1)])) _
      by_cases c1 : d1 = (45 : Int32)
      · refine OGo.step (fun _ kk => XS.icmpNo X127.here hx rfl (hb hby own_d_method_4_code_25) rfl (teq c1).2 kk) ?_
        show OGo p e below (T127.setTop (mkF m 28 #[.val (.ref x)] [])) _
        refine OGo.step (fun _ kk => XS.aloadN X127.here hx rfl (hb hby own_d_method_4_code_28) rfl rfl kk) ?_
        refine OGo.step (fun _ kk => XS.iconst X127.here hx rfl (hb hby own_d_method_4_code_29) kk) ?_
        show OGo p e below (T127.setTop (mkF m 30 #[.val (.ref x)] [(.int (2 : Int32)), (.ref x)])) _
        refine own_virtualK X127 hx hZ (y := (⟨"java/lang/String", "charAt", "(I)C"⟩ : MethodName)) (z := (⟨"java/lang/String", "charAt", "(I)C"⟩ : MethodName)) hown (hw _ (List.mem_of_getElem? (i := 136) rfl)) (hw _ (List.mem_of_getElem? (i := 137) rfl)) (notFace_of_selects (args := #[]) (mvT hZ (hw _ (List.mem_of_getElem? (i := 139) rfl)))) (hw _ (List.mem_of_getElem? (i := 139) rfl)) (hw _ (List.mem_of_getElem? (i := 138) rfl)) (by decide) (b := x) G.exa (W := 0) (own_chS (W := 0) hZ (fun d hd => hw d ((by decide +kernel : ∀ d ∈ StrChars.Road.wordsChN, d ∈ tables_1) d hd)) (kI := 4) (hw _ (List.mem_of_getElem? (i := 6) rfl)) (i := 2) G hs SC hzc SF hfm (Nat.le_of_ble_eq_true rfl) n0 (by decide) (by decide)) e127 (pc := 30) (Ls := #[.val (.ref x)]) (argsL := [(.int (2 : Int32))]) (rest := []) (by rw [hml]; rfl) (lenOf own_pd3 rfl) rfl (hb hby own_d_method_4_code_30) (by decide) (by decide) ?_
        intro v128 T128 L128 X128 hQ128
        obtain ⟨rfl, N128, e128⟩ := hQ128
        show OGo p e below (T128.setTop (mkF m 33 #[.val (.ref x)] [(.int d2)])) _
        have Nc128 := Fr.app Nc127 N128
        refine OGo.step (fun _ kk => XS.bipush X128.here hx rfl (hb hby own_d_method_4_code_33) kk) ?_
        show OGo p e below (T128.setTop (mkF m 35 #[.val (.ref x)] [(.int (97 : Int32)), (.int d2)])) _
        by_cases c2 : d2 = (97 : Int32)
        · refine OGo.step (fun _ kk => XS.icmpNo X128.here hx rfl (hb hby own_d_method_4_code_35) rfl (teq c2).2 kk) ?_
          show OGo p e below (T128.setTop (mkF m 38 #[.val (.ref x)] [])) _
          refine OGo.step (fun _ kk => XS.aloadN X128.here hx rfl (hb hby own_d_method_4_code_38) rfl rfl kk) ?_
          refine OGo.step (fun _ kk => XS.iconst X128.here hx rfl (hb hby own_d_method_4_code_39) kk) ?_
          show OGo p e below (T128.setTop (mkF m 40 #[.val (.ref x)] [(.int (3 : Int32)), (.ref x)])) _
          refine own_virtualK X128 hx hZ (y := (⟨"java/lang/String", "charAt", "(I)C"⟩ : MethodName)) (z := (⟨"java/lang/String", "charAt", "(I)C"⟩ : MethodName)) hown (hw _ (List.mem_of_getElem? (i := 136) rfl)) (hw _ (List.mem_of_getElem? (i := 137) rfl)) (notFace_of_selects (args := #[]) (mvT hZ (hw _ (List.mem_of_getElem? (i := 139) rfl)))) (hw _ (List.mem_of_getElem? (i := 139) rfl)) (hw _ (List.mem_of_getElem? (i := 138) rfl)) (by decide) (b := x) G.exa (W := 0) (own_chS (W := 0) hZ (fun d hd => hw d ((by decide +kernel : ∀ d ∈ StrChars.Road.wordsChN, d ∈ tables_1) d hd)) (kI := 4) (hw _ (List.mem_of_getElem? (i := 6) rfl)) (i := 3) G hs SC hzc SF hfm (Nat.le_of_ble_eq_true rfl) n0 (by decide) (by decide)) e128 (pc := 40) (Ls := #[.val (.ref x)]) (argsL := [(.int (3 : Int32))]) (rest := []) (by rw [hml]; rfl) (lenOf own_pd3 rfl) rfl (hb hby own_d_method_4_code_40) (by decide) (by decide) ?_
          intro v129 T129 L129 X129 hQ129
          obtain ⟨rfl, N129, e129⟩ := hQ129
          show OGo p e below (T129.setTop (mkF m 43 #[.val (.ref x)] [(.int d3)])) _
          have Nc129 := Fr.app Nc128 N129
          refine OGo.step (fun _ kk => XS.bipush X129.here hx rfl (hb hby own_d_method_4_code_43) kk) ?_
          show OGo p e below (T129.setTop (mkF m 45 #[.val (.ref x)] [(.int (115 : Int32)), (.int d3)])) _
          by_cases c3 : d3 = (115 : Int32)
          · refine OGo.step (fun _ kk => XS.icmpNo X129.here hx rfl (hb hby own_d_method_4_code_45) rfl (teq c3).2 kk) ?_
            show OGo p e below (T129.setTop (mkF m 48 #[.val (.ref x)] [])) _
            refine OGo.step (fun _ kk => XS.iconst X129.here hx rfl (hb hby own_d_method_4_code_48) kk) ?_
            refine OGo.step (fun _ kk => XS.goto X129.here hx rfl (pc0 := 49) (pc' := 53) rfl (hb hby own_d_method_4_code_49) (by decide) (by decide) kk) ?_
            show OGo p e below (T129.setTop (mkF m 53 #[.val (.ref x)] [(.int (1 : Int32))])) _
            exact own_retN X129 hx hlk hret (by simp) (hb hby own_d_method_4_code_53) ⟨by rw [if_pos (by rw [c0, c1, c2, c3]), own_nar1], Nc129, e129⟩ (by decide) (by decide)
          · refine OGo.step (fun _ kk => XS.icmpYes X129.here hx rfl (pc0 := 45) (pc' := 52) rfl (hb hby own_d_method_4_code_45) rfl (feq c3).2 (by decide) (by decide) kk) ?_
            show OGo p e below (T129.setTop (mkF m 52 #[.val (.ref x)] [])) _
            refine OGo.step (fun _ kk => XS.iconst X129.here hx rfl (hb hby own_d_method_4_code_52) kk) ?_
            show OGo p e below (T129.setTop (mkF m 53 #[.val (.ref x)] [(.int (0 : Int32))])) _
            exact own_retN X129 hx hlk hret (by simp) (hb hby own_d_method_4_code_53) ⟨by rw [if_neg (fun z => c3 (by injection z with a1 z1; injection z1 with a2 z2; injection z2 with a3 z3; injection z3 with a4 z4)), own_nar0], Nc129, e129⟩ (by decide) (by decide)
        · refine OGo.step (fun _ kk => XS.icmpYes X128.here hx rfl (pc0 := 35) (pc' := 52) rfl (hb hby own_d_method_4_code_35) rfl (feq c2).2 (by decide) (by decide) kk) ?_
          show OGo p e below (T128.setTop (mkF m 52 #[.val (.ref x)] [])) _
          refine OGo.step (fun _ kk => XS.iconst X128.here hx rfl (hb hby own_d_method_4_code_52) kk) ?_
          show OGo p e below (T128.setTop (mkF m 53 #[.val (.ref x)] [(.int (0 : Int32))])) _
          exact own_retN X128 hx hlk hret (by simp) (hb hby own_d_method_4_code_53) ⟨by rw [if_neg (fun z => c2 (by injection z with a1 z1; injection z1 with a2 z2; injection z2 with a3 z3)), own_nar0], Nc128, e128⟩ (by decide) (by decide)
      · refine OGo.step (fun _ kk => XS.icmpYes X127.here hx rfl (pc0 := 25) (pc' := 52) rfl (hb hby own_d_method_4_code_25) rfl (feq c1).2 (by decide) (by decide) kk) ?_
        show OGo p e below (T127.setTop (mkF m 52 #[.val (.ref x)] [])) _
        refine OGo.step (fun _ kk => XS.iconst X127.here hx rfl (hb hby own_d_method_4_code_52) kk) ?_
        show OGo p e below (T127.setTop (mkF m 53 #[.val (.ref x)] [(.int (0 : Int32))])) _
        exact own_retN X127 hx hlk hret (by simp) (hb hby own_d_method_4_code_53) ⟨by rw [if_neg (fun z => c1 (by injection z with a1 z1; injection z1 with a2 z2)), own_nar0], Nc127, e127⟩ (by decide) (by decide)
    · refine OGo.step (fun _ kk => XS.icmpYes X126.here hx rfl (pc0 := 15) (pc' := 52) rfl (hb hby own_d_method_4_code_15) rfl (feq c0).2 (by decide) (by decide) kk) ?_
      show OGo p e below (T126.setTop (mkF m 52 #[.val (.ref x)] [])) _
      refine OGo.step (fun _ kk => XS.iconst X126.here hx rfl (hb hby own_d_method_4_code_52) kk) ?_
      show OGo p e below (T126.setTop (mkF m 53 #[.val (.ref x)] [(.int (0 : Int32))])) _
      exact own_retN X126 hx hlk hret (by simp) (hb hby own_d_method_4_code_53) ⟨by rw [if_neg (fun z => c0 (by injection z with a1 z1)), own_nar0], Nc126, e126⟩ (by decide) (by decide)
  · refine OGo.step (fun _ kk => XS.icmpYes X125.here hx rfl (pc0 := 5) (pc' := 52) rfl (hb hby own_d_method_4_code_5) rfl (feq hl4).2 (by decide) (by decide) kk) ?_
    show OGo p e below (T125.setTop (mkF m 52 #[.val (.ref x)] [])) _
    refine OGo.step (fun _ kk => XS.iconst X125.here hx rfl (hb hby own_d_method_4_code_52) kk) ?_
    show OGo p e below (T125.setTop (mkF m 53 #[.val (.ref x)] [(.int (0 : Int32))])) _
    exact own_retN X125 hx hlk hret (by simp) (hb hby own_d_method_4_code_53) ⟨by rw [if_neg (fun z => hl4 (by rw [z]; rfl)), own_nar0], Nc125, e125⟩ (by decide) (by decide)

set_option maxRecDepth 65536 in
set_option maxHeartbeats 40000000 in
theorem own_acinit (l : Launch) (Z : State) (a0 : Array Value) (hw : ∀ d ∈ tables_1, d.before a0 Z = true) (ws : List Jvm.Cond) (a : Addr) (h0 : Heap) (n0 : Nat) (Z0 : n0 ≤ h0.size)  :
    OMet l Z (⟨"java/util/AbstractCollection", "<init>", "()V"⟩ : MethodName) jdk_22_method_1_code 1 none ws ({ frames := 1, cells := 0, slots := 0, locals := 12 } : Room) #[(.ref a)] h0 (fun v h L => v = none ∧ Fr n0 L ∧ h = h0) := by
  refine OMet.body (plainFor_of_name own_pn1) ?_
  intro p e s m below meth c s₁ hx hby hml hown hnm hret hlk hZ X0 e0
  refine OGo.step (fun _ kk => castTop (show entryFrame m #[(.ref a)] 1 = (mkF m 0 #[.val (.ref a)] []) from by first | (simp [entryFrame, mkF, argsToLocals, Value.category]; done) | rfl) kk) ?_
  show OGo p e below (s₁.setTop (mkF m 0 #[.val (.ref a)] [])) _
  refine OGo.step (fun _ kk => XS.aloadN X0.here hx rfl (hb hby own_d_jdk_22_method_1_code_0) rfl rfl kk) ?_
  show OGo p e below (s₁.setTop (mkF m 1 #[.val (.ref a)] [(.ref a)])) _
  obtain ⟨T130, X130, e130, st130⟩ := initO X0 hx hZ hown (hw _ (List.mem_of_getElem? (i := 51) rfl)) (hw _ (List.mem_of_getElem? (i := 29) rfl)) (hw _ (List.mem_of_getElem? (i := 30) rfl)) e0 (g := (mkF m 1 #[.val (.ref a)] [(.ref a)])) rfl (by rw [hml]; rfl) rfl (hb hby own_d_jdk_22_method_1_code_1) (by decide) (W := 0) (by show 2 * 0 + _ ≤ _; exact Nat.le_of_eq rfl) (by decide)
  refine OGo.step st130 ?_
  show OGo p e below (T130.setTop (mkF m 4 #[.val (.ref a)] [])) _
  exact own_ret0 X130 hx hlk hret (hb hby own_d_jdk_22_method_1_code_4) ⟨rfl, Fr.nil n0, e130⟩ (by decide) (by decide)

set_option maxRecDepth 65536 in
set_option maxHeartbeats 40000000 in
theorem own_abinit (l : Launch) (Z : State) (a0 : Array Value) (hw : ∀ d ∈ tables_1, d.before a0 Z = true) (ws : List Jvm.Cond) (a : Addr) (h0 : Heap) (n0 : Nat) (Z0 : n0 ≤ h0.size) (E1 : Exa Z h0 a "java/util/ArrayList") (Fe : Fld Z h0 a "java/util/ArrayList" "elementData" "[Ljava/lang/Object;" .null) (Fz : Fld Z h0 a "java/util/ArrayList" "size" "I" (.int (0 : Int32))) (Fm : Fld Z h0 a "java/util/AbstractList" "modCount" "I" (.int (0 : Int32))) (ga : n0 ≤ a) :
    OMet l Z (⟨"java/util/AbstractList", "<init>", "()V"⟩ : MethodName) jdk_39_method_1_code 1 none ws ({ frames := 2, cells := 0, slots := 0, locals := 24 } : Room) #[(.ref a)] h0 (fun v h L => v = none ∧ Fr n0 L ∧ Keep h0 h [a] ∧ Exa Z h a "java/util/ArrayList" ∧ Fld Z h a "java/util/ArrayList" "elementData" "[Ljava/lang/Object;" .null ∧ Fld Z h a "java/util/ArrayList" "size" "I" (.int (0 : Int32)) ∧ Fld Z h a "java/util/AbstractList" "modCount" "I" (.int (0 : Int32))) := by
  refine OMet.body (plainFor_of_name own_pn2) ?_
  intro p e s m below meth c s₁ hx hby hml hown hnm hret hlk hZ X0 e0
  refine OGo.step (fun _ kk => castTop (show entryFrame m #[(.ref a)] 1 = (mkF m 0 #[.val (.ref a)] []) from by first | (simp [entryFrame, mkF, argsToLocals, Value.category]; done) | rfl) kk) ?_
  show OGo p e below (s₁.setTop (mkF m 0 #[.val (.ref a)] [])) _
  refine OGo.step (fun _ kk => XS.aloadN X0.here hx rfl (hb hby own_d_jdk_39_method_1_code_0) rfl rfl kk) ?_
  show OGo p e below (s₁.setTop (mkF m 1 #[.val (.ref a)] [(.ref a)])) _
  refine own_special X0 hx hZ (y := (⟨"java/util/AbstractCollection", "<init>", "()V"⟩ : MethodName)) rfl hown (hw _ (List.mem_of_getElem? (i := 45) rfl)) (hw _ (List.mem_of_getElem? (i := 46) rfl)) (hw _ (List.mem_of_getElem? (i := 50) rfl)) (hw _ (List.mem_of_getElem? (i := 49) rfl)) (by decide) (a := a) (W := 0) (own_acinit l Z a0 hw [] a h0 n0 Z0) e0  (pc := 1) (Ls := #[.val (.ref a)]) (argsL := []) (rest := []) (by rw [hml]; rfl) (lenOf own_pd4 rfl) rfl (hb hby own_d_jdk_39_method_1_code_1) (by decide) (by decide) (by decide) (by decide) ?_
  intro v131 T131 L131 X131 hQ131
  obtain ⟨rfl, N131, e131⟩ := hQ131
  show OGo p e below (T131.setTop (mkF m 4 #[.val (.ref a)] [])) _
  have Nc131 := Fr.app (Fr.nil n0) N131
  refine OGo.step (fun _ kk => XS.aloadN X131.here hx rfl (hb hby own_d_jdk_39_method_1_code_4) rfl rfl kk) ?_
  refine OGo.step (fun _ kk => XS.iconst X131.here hx rfl (hb hby own_d_jdk_39_method_1_code_5) kk) ?_
  show OGo p e below (T131.setTop (mkF m 6 #[.val (.ref a)] [(.int (0 : Int32)), (.ref a)])) _
  obtain ⟨T132, h132, X132, e132, W132, st132⟩ := putF X131 hx hZ hown (host := "") (Or.inl (hw _ (List.mem_of_getElem? (i := 52) rfl))) Via.refl e131 Fm E1 (Or.inl (hw _ (List.mem_of_getElem? (i := 53) rfl))) (hw _ (List.mem_of_getElem? (i := 34) rfl)) (ty := .int) (by decide) rfl rfl (g := (mkF m 6 #[.val (.ref a)] [(.int (0 : Int32)), (.ref a)])) rfl rfl (hb hby own_d_jdk_39_method_1_code_6)
  refine OGo.step st132 ?_
  show OGo p e below (T132.setTop (mkF m 9 #[.val (.ref a)] [])) _
  have Fw132 := Fm.same W132
  have Nf132 := Fr.snoc X132 Nc131 ga
  have sz132 : n0 ≤ h132.size := by rw [W132.size]; exact Z0
  have fc133 := (E1.wr W132)
  have fc134 := (Fe.other W132 (Or.inr (slot_ne (Or.inl (hw _ (List.mem_of_getElem? (i := 56) rfl))) (Or.inl (hw _ (List.mem_of_getElem? (i := 53) rfl))) (by decide) (t := (.array (.object "java/lang/Object"))) (t' := .int) (by decide) (by decide))))
  have fc135 := (Fz.other W132 (Or.inr (slot_ne (Or.inl (hw _ (List.mem_of_getElem? (i := 71) rfl))) (Or.inl (hw _ (List.mem_of_getElem? (i := 53) rfl))) (by decide) (t := .int) (t' := .int) (by decide) (by decide))))
  have kp136 := (Keep.refl h0 [a]).wr W132 (Or.inl (List.mem_of_getElem? (i := 0) rfl))
  exact own_ret0 X132 hx hlk hret (hb hby own_d_jdk_39_method_1_code_9) (by rw [e132]; exact ⟨rfl, Nf132, kp136, fc133, fc134, fc135, Fw132⟩) (by decide) (by decide)

set_option maxRecDepth 65536 in
set_option maxHeartbeats 40000000 in
theorem own_alinit (l : Launch) (Z : State) (a0 : Array Value) (hw : ∀ d ∈ tables_1, d.before a0 Z = true) (ws : List Jvm.Cond) (a dd : Addr) (h0 : Heap) (n0 : Nat) (Z0 : n0 ≤ h0.size) (SD : Sta Z h0 "java/util/ArrayList" "DEFAULTCAPACITY_EMPTY_ELEMENTDATA" "[Ljava/lang/Object;" (.ref dd)) (E1 : Exa Z h0 a "java/util/ArrayList") (Fe : Fld Z h0 a "java/util/ArrayList" "elementData" "[Ljava/lang/Object;" .null) (Fz : Fld Z h0 a "java/util/ArrayList" "size" "I" (.int (0 : Int32))) (Fm : Fld Z h0 a "java/util/AbstractList" "modCount" "I" (.int (0 : Int32))) (ga : n0 ≤ a) :
    OMet l Z (⟨"java/util/ArrayList", "<init>", "()V"⟩ : MethodName) jdk_38_method_2_code 1 none ws ({ frames := 3, cells := 0, slots := 0, locals := 36 } : Room) #[(.ref a)] h0 (fun v h L => v = none ∧ Fr n0 L ∧ Keep h0 h [a] ∧ Exa Z h a "java/util/ArrayList" ∧ Fld Z h a "java/util/ArrayList" "elementData" "[Ljava/lang/Object;" (.ref dd) ∧ Fld Z h a "java/util/ArrayList" "size" "I" (.int (0 : Int32)) ∧ Fld Z h a "java/util/AbstractList" "modCount" "I" (.int (0 : Int32))) := by
  refine OMet.body (plainFor_of_name own_pn3) ?_
  intro p e s m below meth c s₁ hx hby hml hown hnm hret hlk hZ X0 e0
  refine OGo.step (fun _ kk => castTop (show entryFrame m #[(.ref a)] 1 = (mkF m 0 #[.val (.ref a)] []) from by first | (simp [entryFrame, mkF, argsToLocals, Value.category]; done) | rfl) kk) ?_
  show OGo p e below (s₁.setTop (mkF m 0 #[.val (.ref a)] [])) _
  refine OGo.step (fun _ kk => XS.aloadN X0.here hx rfl (hb hby own_d_jdk_38_method_2_code_0) rfl rfl kk) ?_
  show OGo p e below (s₁.setTop (mkF m 1 #[.val (.ref a)] [(.ref a)])) _
  refine own_special X0 hx hZ (y := (⟨"java/util/AbstractList", "<init>", "()V"⟩ : MethodName)) rfl hown (hw _ (List.mem_of_getElem? (i := 39) rfl)) (hw _ (List.mem_of_getElem? (i := 40) rfl)) (hw _ (List.mem_of_getElem? (i := 44) rfl)) (hw _ (List.mem_of_getElem? (i := 43) rfl)) (by decide) (a := a) (W := 0) (own_abinit l Z a0 hw [] a h0 n0 Z0 E1 Fe Fz Fm ga) e0  (pc := 1) (Ls := #[.val (.ref a)]) (argsL := []) (rest := []) (by rw [hml]; rfl) (lenOf own_pd4 rfl) rfl (hb hby own_d_jdk_38_method_2_code_1) (by decide) (by decide) (by decide) (by decide) ?_
  intro v137 T137 L137 X137 hQ137
  obtain ⟨rfl, N137, K137, Ea137, Fa137, Fb137, Fc137⟩ := hQ137
  show OGo p e below (T137.setTop (mkF m 4 #[.val (.ref a)] [])) _
  have Nc137 := Fr.app (Fr.nil n0) N137
  have sz137 : n0 ≤ T137.heap.size := Nat.le_trans Z0 K137.1
  refine OGo.step (fun _ kk => XS.aloadN X137.here hx rfl (hb hby own_d_jdk_38_method_2_code_4) rfl rfl kk) ?_
  show OGo p e below (T137.setTop (mkF m 5 #[.val (.ref a)] [(.ref a)])) _
  obtain ⟨T138, X138, e138, st138⟩ := getS2 X137 hx hZ hown (host := "") (Or.inl (hw _ (List.mem_of_getElem? (i := 54) rfl))) Via.refl rfl (own_staK SD K137 (nsS E1.nostat ns0)) (g := (mkF m 5 #[.val (.ref a)] [(.ref a)])) rfl (hb hby own_d_jdk_38_method_2_code_5)
  refine OGo.step st138 ?_
  show OGo p e below (T138.setTop (mkF m 8 #[.val (.ref a)] [(.ref dd), (.ref a)])) _
  obtain ⟨T139, h139, X139, e139, W139, st139⟩ := putF X138 hx hZ hown (host := "") (Or.inl (hw _ (List.mem_of_getElem? (i := 55) rfl))) Via.refl e138 Fa137 Ea137 (Or.inl (hw _ (List.mem_of_getElem? (i := 56) rfl))) (hw _ (List.mem_of_getElem? (i := 34) rfl)) (ty := (.array (.object "java/lang/Object"))) (by decide) rfl rfl (g := (mkF m 8 #[.val (.ref a)] [(.ref dd), (.ref a)])) rfl rfl (hb hby own_d_jdk_38_method_2_code_8)
  refine OGo.step st139 ?_
  show OGo p e below (T139.setTop (mkF m 11 #[.val (.ref a)] [])) _
  have Fw139 := Fa137.same W139
  have Nf139 := Fr.snoc X139 Nc137 ga
  have sz139 : n0 ≤ h139.size := by rw [W139.size]; exact sz137
  have fc140 := (Ea137.wr W139)
  have fc141 := (Fb137.other W139 (Or.inr (slot_ne (Or.inl (hw _ (List.mem_of_getElem? (i := 71) rfl))) (Or.inl (hw _ (List.mem_of_getElem? (i := 56) rfl))) (by decide) (t := .int) (t' := (.array (.object "java/lang/Object"))) (by decide) (by decide))))
  have fc142 := (Fc137.other W139 (Or.inr (slot_ne (Or.inl (hw _ (List.mem_of_getElem? (i := 53) rfl))) (Or.inl (hw _ (List.mem_of_getElem? (i := 56) rfl))) (by decide) (t := .int) (t' := (.array (.object "java/lang/Object"))) (by decide) (by decide))))
  have kp143 := (Keep.refl h0 [a]).trans K137 (allS (Or.inl (List.mem_of_getElem? (i := 0) rfl)) all0)
  have kp144 := kp143.wr W139 (Or.inl (List.mem_of_getElem? (i := 0) rfl))
  exact own_ret0 X139 hx hlk hret (hb hby own_d_jdk_38_method_2_code_11) (by rw [e139]; exact ⟨rfl, Nf139, kp144, fc140, Fw139, fc141, fc142⟩) (by decide) (by decide)

set_option maxRecDepth 65536 in
set_option maxHeartbeats 40000000 in
theorem own_max (l : Launch) (Z : State) (a0 : Array Value) (hw : ∀ d ∈ tables_1, d.before a0 Z = true) (ws : List Jvm.Cond)  (h0 : Heap) (n0 : Nat) (Z0 : n0 ≤ h0.size)  :
    OMet l Z (⟨"java/lang/Math", "max", "(II)I"⟩ : MethodName) jdk_29_method_65_code 2 (some .int) ws ({ frames := 0, cells := 0, slots := 0, locals := 0 } : Room) #[(.int (10 : Int32)), (.int (1 : Int32))] h0 (fun v h L => v = some (.int (10 : Int32)) ∧ Fr n0 L ∧ h = h0) := by
  refine OMet.body (Jvm.Free.JP.mathPlain rfl (by decide +kernel)) ?_
  intro p e s m below meth c s₁ hx hby hml hown hnm hret hlk hZ X0 e0
  refine OGo.step (fun _ kk => castTop (show entryFrame m #[(.int (10 : Int32)), (.int (1 : Int32))] 2 = (mkF m 0 #[.val (.int (10 : Int32)), .val (.int (1 : Int32))] []) from by first | (simp [entryFrame, mkF, argsToLocals, Value.category]; done) | rfl) kk) ?_
  show OGo p e below (s₁.setTop (mkF m 0 #[.val (.int (10 : Int32)), .val (.int (1 : Int32))] [])) _
  refine OGo.step (fun _ kk => XS.iloadN X0.here hx rfl (hb hby own_d_jdk_29_method_65_code_0) rfl kk) ?_
  refine OGo.step (fun _ kk => XS.iloadN X0.here hx rfl (hb hby own_d_jdk_29_method_65_code_1) rfl kk) ?_
  show OGo p e below (s₁.setTop (mkF m 2 #[.val (.int (10 : Int32)), .val (.int (1 : Int32))] [(.int (1 : Int32)), (.int (10 : Int32))])) _
  refine OGo.step (fun _ kk => XS.icmpNo X0.here hx rfl (hb hby own_d_jdk_29_method_65_code_2) rfl (flt (by decide)).1 kk) ?_
  show OGo p e below (s₁.setTop (mkF m 5 #[.val (.int (10 : Int32)), .val (.int (1 : Int32))] [])) _
  refine OGo.step (fun _ kk => XS.iloadN X0.here hx rfl (hb hby own_d_jdk_29_method_65_code_5) rfl kk) ?_
  refine OGo.step (fun _ kk => XS.goto X0.here hx rfl (pc0 := 6) (pc' := 10) rfl (hb hby own_d_jdk_29_method_65_code_6) (by decide) (by decide) kk) ?_
  show OGo p e below (s₁.setTop (mkF m 10 #[.val (.int (10 : Int32)), .val (.int (1 : Int32))] [(.int (10 : Int32))])) _
  exact own_ret X0 hx hlk hret rfl (Or.inl ⟨rfl, Or.inl rfl, _, rfl⟩) (hb hby own_d_jdk_29_method_65_code_10) ⟨rfl, Fr.nil n0, e0⟩ (by decide) (by decide)

set_option maxRecDepth 65536 in
set_option maxHeartbeats 40000000 in
theorem own_growI (l : Launch) (Z : State) (a0 : Array Value) (hw : ∀ d ∈ tables_1, d.before a0 Z = true) (ws : List Jvm.Cond) (a dd : Addr) (cd : Cell) (mc : Int32) (h0 : Heap) (n0 : Nat) (Z0 : n0 ≤ h0.size) (SD : Sta Z h0 "java/util/ArrayList" "DEFAULTCAPACITY_EMPTY_ELEMENTDATA" "[Ljava/lang/Object;" (.ref dd)) (Ad : Arr Z h0 dd cd (.object "java/lang/Object")) (Sd : cd.slots.size = 0) (nda : dd ≠ a) (E1 : Exa Z h0 a "java/util/ArrayList") (Fe : Fld Z h0 a "java/util/ArrayList" "elementData" "[Ljava/lang/Object;" (.ref dd)) (Fz : Fld Z h0 a "java/util/ArrayList" "size" "I" (.int (0 : Int32))) (Fm : Fld Z h0 a "java/util/AbstractList" "modCount" "I" (.int mc)) (ga : n0 ≤ a) :
    OMet l Z (⟨"java/util/ArrayList", "grow", "(I)[Ljava/lang/Object;"⟩ : MethodName) jdk_38_method_6_code 4 (some (.array (.object "java/lang/Object"))) ws ({ frames := 1, cells := 1, slots := 10, locals := 15 } : Room) #[(.ref a), (.int (1 : Int32))] h0 (fun v h L => ∃ (e_ : Addr) (ke : ClassId), v = some (.ref e_) ∧ Fr n0 L ∧ Keep h0 h [a] ∧ h0.size ≤ e_ ∧ Exa Z h a "java/util/ArrayList" ∧ Fld Z h a "java/util/ArrayList" "elementData" "[Ljava/lang/Object;" (.ref e_) ∧ Fld Z h a "java/util/ArrayList" "size" "I" (.int (0 : Int32)) ∧ Fld Z h a "java/util/AbstractList" "modCount" "I" (.int mc) ∧ Arv Z h e_ ke (.object "java/lang/Object") (10 : Int32) [] .null ∧ Ovr Z ke "java/lang/Object") := by
  refine OMet.body (plainFor_of_name own_pn3) ?_
  intro p e s m below meth c s₁ hx hby hml hown hnm hret hlk hZ X0 e0
  refine OGo.step (fun _ kk => castTop (show entryFrame m #[(.ref a), (.int (1 : Int32))] 4 = (mkF m 0 #[.val (.ref a), .val (.int (1 : Int32)), .unset, .unset] []) from by first | (simp [entryFrame, mkF, argsToLocals, Value.category]; done) | rfl) kk) ?_
  show OGo p e below (s₁.setTop (mkF m 0 #[.val (.ref a), .val (.int (1 : Int32)), .unset, .unset] [])) _
  refine OGo.step (fun _ kk => XS.aloadN X0.here hx rfl (hb hby own_d_jdk_38_method_6_code_0) rfl rfl kk) ?_
  show OGo p e below (s₁.setTop (mkF m 1 #[.val (.ref a), .val (.int (1 : Int32)), .unset, .unset] [(.ref a)])) _
  obtain ⟨T145, X145, e145, st145⟩ := getF X0 hx hZ hown (host := "") (Or.inl (hw _ (List.mem_of_getElem? (i := 55) rfl))) Via.refl e0 Fe (g := (mkF m 1 #[.val (.ref a), .val (.int (1 : Int32)), .unset, .unset] [(.ref a)])) rfl rfl (hb hby own_d_jdk_38_method_6_code_1)
  refine OGo.step st145 ?_
  show OGo p e below (T145.setTop (mkF m 4 #[.val (.ref a), .val (.int (1 : Int32)), .unset, .unset] [(.ref dd)])) _
  refine OGo.step (fun _ kk => X145.arraylength hx (by rw [e145]; exact (Ad).1) (State.isArrayOf_alike hZ.alike (Ad).2.1) (g := (mkF m 4 #[.val (.ref a), .val (.int (1 : Int32)), .unset, .unset] [(.ref dd)])) rfl rfl (hb hby own_d_jdk_38_method_6_code_4) _ kk) ?_
  rw [len_of (z := 0) Sd (by decide)]
  show OGo p e below (T145.setTop (mkF m 5 #[.val (.ref a), .val (.int (1 : Int32)), .unset, .unset] [(.int (0 : Int32))])) _
  refine OGo.step (fun _ kk => XS.istoreN X145.here hx rfl (hb hby own_d_jdk_38_method_6_code_5) rfl (l' := #[.val (.ref a), .val (.int (1 : Int32)), .val (.int (0 : Int32)), .unset]) rfl kk) ?_
  refine OGo.step (fun _ kk => XS.iloadN X145.here hx rfl (hb hby own_d_jdk_38_method_6_code_6) rfl kk) ?_
  show OGo p e below (T145.setTop (mkF m 7 #[.val (.ref a), .val (.int (1 : Int32)), .val (.int (0 : Int32)), .unset] [(.int (0 : Int32))])) _
  refine OGo.step (fun _ kk => XS.ifNo X145.here hx rfl (hb hby own_d_jdk_38_method_6_code_7) rfl ((if0 _ _).trans (flt (by decide)).2.2.1) kk) ?_
  show OGo p e below (T145.setTop (mkF m 10 #[.val (.ref a), .val (.int (1 : Int32)), .val (.int (0 : Int32)), .unset] [])) _
  refine OGo.step (fun _ kk => XS.aloadN X145.here hx rfl (hb hby own_d_jdk_38_method_6_code_10) rfl rfl kk) ?_
  show OGo p e below (T145.setTop (mkF m 11 #[.val (.ref a), .val (.int (1 : Int32)), .val (.int (0 : Int32)), .unset] [(.ref a)])) _
  obtain ⟨T146, X146, e146, st146⟩ := getF X145 hx hZ hown (host := "") (Or.inl (hw _ (List.mem_of_getElem? (i := 55) rfl))) Via.refl e145 Fe (g := (mkF m 11 #[.val (.ref a), .val (.int (1 : Int32)), .val (.int (0 : Int32)), .unset] [(.ref a)])) rfl rfl (hb hby own_d_jdk_38_method_6_code_11)
  refine OGo.step st146 ?_
  show OGo p e below (T146.setTop (mkF m 14 #[.val (.ref a), .val (.int (1 : Int32)), .val (.int (0 : Int32)), .unset] [(.ref dd)])) _
  obtain ⟨T147, X147, e147, st147⟩ := getS2 X146 hx hZ hown (host := "") (Or.inl (hw _ (List.mem_of_getElem? (i := 54) rfl))) Via.refl e146 SD (g := (mkF m 14 #[.val (.ref a), .val (.int (1 : Int32)), .val (.int (0 : Int32)), .unset] [(.ref dd)])) rfl (hb hby own_d_jdk_38_method_6_code_14)
  refine OGo.step st147 ?_
  show OGo p e below (T147.setTop (mkF m 17 #[.val (.ref a), .val (.int (1 : Int32)), .val (.int (0 : Int32)), .unset] [(.ref dd), (.ref dd)])) _
  refine OGo.step (fun _ kk => Jvm.RoadKit.acmp (g := (mkF m 17 #[.val (.ref a), .val (.int (1 : Int32)), .val (.int (0 : Int32)), .unset] [(.ref dd), (.ref dd)])) X147 hx rfl rfl rfl (pc0 := 17) (pc' := 45) (same := true) rfl (hb hby own_d_jdk_38_method_6_code_17) rfl (decide_eq_true rfl) (by decide) (by decide) kk) ?_
  show OGo p e below (T147.setTop (mkF m 45 #[.val (.ref a), .val (.int (1 : Int32)), .val (.int (0 : Int32)), .unset] [])) _
  refine OGo.step (fun _ kk => XS.aloadN X147.here hx rfl (hb hby own_d_jdk_38_method_6_code_45) rfl rfl kk) ?_
  refine OGo.step (fun _ kk => XS.bipush X147.here hx rfl (hb hby own_d_jdk_38_method_6_code_46) kk) ?_
  refine OGo.step (fun _ kk => XS.iloadN X147.here hx rfl (hb hby own_d_jdk_38_method_6_code_48) rfl kk) ?_
  show OGo p e below (T147.setTop (mkF m 49 #[.val (.ref a), .val (.int (1 : Int32)), .val (.int (0 : Int32)), .unset] [(.int (1 : Int32)), (.int (10 : Int32)), (.ref a)])) _
  refine own_callS X147 hx hZ (y := (⟨"java/lang/Math", "max", "(II)I"⟩ : MethodName)) hown (hw _ (List.mem_of_getElem? (i := 97) rfl)) (hw _ (List.mem_of_getElem? (i := 98) rfl)) (hw _ (List.mem_of_getElem? (i := 99) rfl)) (hw _ (List.mem_of_getElem? (i := 100) rfl)) (by decide) (W := 1) (own_max l Z a0 hw [] h0 n0 Z0) e147  (pc := 49) (Ls := #[.val (.ref a), .val (.int (1 : Int32)), .val (.int (0 : Int32)), .unset]) (argsL := [(.int (10 : Int32)), (.int (1 : Int32))]) (rest := [(.ref a)]) (by rw [hml]; rfl) (lenOf own_pd5 rfl) rfl (hb hby own_d_jdk_38_method_6_code_49) (by decide) (by decide) (by decide) (by decide) ?_
  intro v148 T148 L148 X148 hQ148
  obtain ⟨rfl, N148, e148⟩ := hQ148
  show OGo p e below (T148.setTop (mkF m 52 #[.val (.ref a), .val (.int (1 : Int32)), .val (.int (0 : Int32)), .unset] [(.int (10 : Int32)), (.ref a)])) _
  have Nc148 := Fr.app (Fr.nil n0) N148
  obtain ⟨T149, h149, k149, X149, e149, E149, A149, O149, st149⟩ := newR X148 hx hZ hown (hw _ (List.mem_of_getElem? (i := 101) rfl)) (hw _ (List.mem_of_getElem? (i := 102) rfl)) e148 (g := (mkF m 52 #[.val (.ref a), .val (.int (1 : Int32)), .val (.int (0 : Int32)), .unset] [(.int (10 : Int32)), (.ref a)])) rfl (hb hby own_d_jdk_38_method_6_code_52) rfl (by decide) (cap := 10) (by decide) (by decide) (by decide) (by decide)
  obtain ⟨e_, g149⟩ : ∃ z, z = h0.size := ⟨_, rfl⟩
  rw [← g149] at A149 st149
  refine OGo.step st149 ?_
  show OGo p e below (T149.setTop (mkF m 55 #[.val (.ref a), .val (.int (1 : Int32)), .val (.int (0 : Int32)), .unset] [(.ref e_), (.ref a)])) _
  have ne_a_e_ : a ≠ e_ := Nat.ne_of_lt (Nat.lt_of_lt_of_le E1.lt (Nat.le_of_eq g149.symm))
  have gf_e_ : n0 ≤ e_ := Nat.le_trans Z0 (Nat.le_of_eq g149.symm)
  have sz149 : n0 ≤ h149.size := Nat.le_trans Z0 E149.1
  have Ve : Arv Z h149 e_ k149 (.object "java/lang/Object") (10 : Int32) [] .null := Arv.new A149 (by decide)
  refine OGo.step (fun _ kk => XS.dupX1 X149.here hx rfl (hb hby own_d_jdk_38_method_6_code_55) rfl rfl rfl kk) ?_
  show OGo p e below (T149.setTop (mkF m 56 #[.val (.ref a), .val (.int (1 : Int32)), .val (.int (0 : Int32)), .unset] [(.ref e_), (.ref a), (.ref e_)])) _
  have fc150 := (Fe.ext E149)
  have fc151 := (E1.ext E149)
  obtain ⟨T152, h152, X152, e152, W152, st152⟩ := putF X149 hx hZ hown (host := "") (Or.inl (hw _ (List.mem_of_getElem? (i := 55) rfl))) Via.refl e149 fc150 fc151 (Or.inl (hw _ (List.mem_of_getElem? (i := 56) rfl))) (hw _ (List.mem_of_getElem? (i := 34) rfl)) (ty := (.array (.object "java/lang/Object"))) (by decide) rfl rfl (g := (mkF m 56 #[.val (.ref a), .val (.int (1 : Int32)), .val (.int (0 : Int32)), .unset] [(.ref e_), (.ref a), (.ref e_)])) rfl rfl (hb hby own_d_jdk_38_method_6_code_56)
  refine OGo.step st152 ?_
  show OGo p e below (T152.setTop (mkF m 59 #[.val (.ref a), .val (.int (1 : Int32)), .val (.int (0 : Int32)), .unset] [(.ref e_)])) _
  have Fw152 := fc150.same W152
  have Nf152 := Fr.snoc X152 Nc148 ga
  have sz152 : n0 ≤ h152.size := by rw [W152.size]; exact sz149
  have fc153 := (fc151.wr W152)
  have fc154 := ((Fz.ext E149).other W152 (Or.inr (slot_ne (Or.inl (hw _ (List.mem_of_getElem? (i := 71) rfl))) (Or.inl (hw _ (List.mem_of_getElem? (i := 56) rfl))) (by decide) (t := .int) (t' := (.array (.object "java/lang/Object"))) (by decide) (by decide))))
  have fc155 := ((Fm.ext E149).other W152 (Or.inr (slot_ne (Or.inl (hw _ (List.mem_of_getElem? (i := 53) rfl))) (Or.inl (hw _ (List.mem_of_getElem? (i := 56) rfl))) (by decide) (t := .int) (t' := (.array (.object "java/lang/Object"))) (by decide) (by decide))))
  have fc156 := (Ve.other W152 (Ne.symm ne_a_e_))
  have kp157 := (Keep.refl h0 [a]).ext E149
  have kp158 := kp157.wr W152 (Or.inl (List.mem_of_getElem? (i := 0) rfl))
  exact own_ret X152 hx hlk hret rfl (Or.inr (Or.inr (Or.inr (Or.inr ⟨rfl, rfl, rfl⟩)))) (hb hby own_d_jdk_38_method_6_code_59) (by rw [e152]; exact ⟨e_, _, rfl, Nf152, kp158, (Nat.le_trans (Keep.refl h0 [a]).1 (Nat.le_of_eq g149.symm)), fc153, Fw152, fc154, fc155, fc156, O149⟩) (by decide) (by decide)

set_option maxRecDepth 65536 in
set_option maxHeartbeats 40000000 in
theorem own_grow (l : Launch) (Z : State) (a0 : Array Value) (hw : ∀ d ∈ tables_1, d.before a0 Z = true) (ws : List Jvm.Cond) (a dd : Addr) (cd : Cell) (mc : Int32) (h0 : Heap) (n0 : Nat) (Z0 : n0 ≤ h0.size) (SD : Sta Z h0 "java/util/ArrayList" "DEFAULTCAPACITY_EMPTY_ELEMENTDATA" "[Ljava/lang/Object;" (.ref dd)) (Ad : Arr Z h0 dd cd (.object "java/lang/Object")) (Sd : cd.slots.size = 0) (nda : dd ≠ a) (E1 : Exa Z h0 a "java/util/ArrayList") (Fe : Fld Z h0 a "java/util/ArrayList" "elementData" "[Ljava/lang/Object;" (.ref dd)) (Fz : Fld Z h0 a "java/util/ArrayList" "size" "I" (.int (0 : Int32))) (Fm : Fld Z h0 a "java/util/AbstractList" "modCount" "I" (.int mc)) (ga : n0 ≤ a) :
    OMet l Z (⟨"java/util/ArrayList", "grow", "()[Ljava/lang/Object;"⟩ : MethodName) jdk_38_method_7_code 1 (some (.array (.object "java/lang/Object"))) ws ({ frames := 2, cells := 1, slots := 10, locals := 30 } : Room) #[(.ref a)] h0 (fun v h L => ∃ (e_ : Addr) (ke : ClassId), v = some (.ref e_) ∧ Fr n0 L ∧ Keep h0 h [a] ∧ h0.size ≤ e_ ∧ Exa Z h a "java/util/ArrayList" ∧ Fld Z h a "java/util/ArrayList" "elementData" "[Ljava/lang/Object;" (.ref e_) ∧ Fld Z h a "java/util/ArrayList" "size" "I" (.int (0 : Int32)) ∧ Fld Z h a "java/util/AbstractList" "modCount" "I" (.int mc) ∧ Arv Z h e_ ke (.object "java/lang/Object") (10 : Int32) [] .null ∧ Ovr Z ke "java/lang/Object") := by
  refine OMet.body (plainFor_of_name own_pn3) ?_
  intro p e s m below meth c s₁ hx hby hml hown hnm hret hlk hZ X0 e0
  refine OGo.step (fun _ kk => castTop (show entryFrame m #[(.ref a)] 1 = (mkF m 0 #[.val (.ref a)] []) from by first | (simp [entryFrame, mkF, argsToLocals, Value.category]; done) | rfl) kk) ?_
  show OGo p e below (s₁.setTop (mkF m 0 #[.val (.ref a)] [])) _
  refine OGo.step (fun _ kk => XS.aloadN X0.here hx rfl (hb hby own_d_jdk_38_method_7_code_0) rfl rfl kk) ?_
  refine OGo.step (fun _ kk => XS.aloadN X0.here hx rfl (hb hby own_d_jdk_38_method_7_code_1) rfl rfl kk) ?_
  show OGo p e below (s₁.setTop (mkF m 2 #[.val (.ref a)] [(.ref a), (.ref a)])) _
  obtain ⟨T159, X159, e159, st159⟩ := getF X0 hx hZ hown (host := "") (Or.inl (hw _ (List.mem_of_getElem? (i := 70) rfl))) Via.refl e0 Fz (g := (mkF m 2 #[.val (.ref a)] [(.ref a), (.ref a)])) rfl rfl (hb hby own_d_jdk_38_method_7_code_2)
  refine OGo.step st159 ?_
  show OGo p e below (T159.setTop (mkF m 5 #[.val (.ref a)] [(.int (0 : Int32)), (.ref a)])) _
  refine OGo.step (fun _ kk => XS.iconst X159.here hx rfl (hb hby own_d_jdk_38_method_7_code_5) kk) ?_
  refine OGo.step (fun _ kk => XS.iadd X159.here hx rfl (hb hby own_d_jdk_38_method_7_code_6) rfl kk) ?_
  show OGo p e below (T159.setTop (mkF m 7 #[.val (.ref a)] [(.int (1 : Int32)), (.ref a)])) _
  refine own_private X159 hx hZ (y := (⟨"java/util/ArrayList", "grow", "(I)[Ljava/lang/Object;"⟩ : MethodName)) hown (hw _ (List.mem_of_getElem? (i := 92) rfl)) (hw _ (List.mem_of_getElem? (i := 93) rfl)) (hw _ (List.mem_of_getElem? (i := 95) rfl)) (hw _ (List.mem_of_getElem? (i := 94) rfl)) (hw _ (List.mem_of_getElem? (i := 96) rfl)) (hw _ (List.mem_of_getElem? (i := 35) rfl)) (by decide) (b := a) E1 (W := 0) (own_growI l Z a0 hw [] a dd cd mc h0 n0 Z0 SD Ad Sd nda E1 Fe Fz Fm ga) e159  (pc := 7) (Ls := #[.val (.ref a)]) (argsL := [(.int (1 : Int32))]) (rest := []) (by rw [hml]; rfl) (lenOf own_pd6 rfl) rfl (hb hby own_d_jdk_38_method_7_code_7) (by decide) (by decide) (by decide) (by decide) ?_
  intro v160 T160 L160 X160 hQ160
  obtain ⟨e_, ke, rfl, N160, K160, ge_, f1, f2, f3, f4, f5, f6⟩ := hQ160
  show OGo p e below (T160.setTop (mkF m 10 #[.val (.ref a)] [(.ref e_)])) _
  exact own_ret X160 hx hlk hret rfl (Or.inr (Or.inr (Or.inr (Or.inr ⟨rfl, rfl, rfl⟩)))) (hb hby own_d_jdk_38_method_7_code_10) ⟨e_, ke, rfl, Fr.app (Fr.nil n0) N160, K160, ge_, f1, f2, f3, f4, f5, f6⟩ (by decide) (by decide)

set_option maxRecDepth 65536 in
set_option maxHeartbeats 40000000 in
theorem own_add30 (l : Launch) (Z : State) (a0 : Array Value) (hw : ∀ d ∈ tables_1, d.before a0 Z = true) (ws : List Jvm.Cond) (a x dd : Addr) (cd : Cell) (mc : Int32) (h0 : Heap) (n0 : Nat) (Z0 : n0 ≤ h0.size) (SD : Sta Z h0 "java/util/ArrayList" "DEFAULTCAPACITY_EMPTY_ELEMENTDATA" "[Ljava/lang/Object;" (.ref dd)) (Ad : Arr Z h0 dd cd (.object "java/lang/Object")) (Sd : cd.slots.size = 0) (nda : dd ≠ a) (E1 : Exa Z h0 a "java/util/ArrayList") (Fe : Fld Z h0 a "java/util/ArrayList" "elementData" "[Ljava/lang/Object;" (.ref dd)) (Fz : Fld Z h0 a "java/util/ArrayList" "size" "I" (.int (0 : Int32))) (Fm : Fld Z h0 a "java/util/AbstractList" "modCount" "I" (.int mc)) (ga : n0 ≤ a) (Gx : Exa Z h0 x "java/lang/String") (nxa : x ≠ a) :
    OMet l Z (⟨"java/util/ArrayList", "add", "(Ljava/lang/Object;[Ljava/lang/Object;I)V"⟩ : MethodName) jdk_38_method_24_code 4 none ws ({ frames := 3, cells := 1, slots := 10, locals := 42 } : Room) #[(.ref a), (.ref x), (.ref dd), (.int (0 : Int32))] h0 (fun v h L => ∃ (e_ : Addr) (ke : ClassId), v = none ∧ Fr n0 L ∧ Keep h0 h [a] ∧ h0.size ≤ e_ ∧ Exa Z h a "java/util/ArrayList" ∧ Fld Z h a "java/util/ArrayList" "elementData" "[Ljava/lang/Object;" (.ref e_) ∧ Fld Z h a "java/util/ArrayList" "size" "I" (.int (1 : Int32)) ∧ Fld Z h a "java/util/AbstractList" "modCount" "I" (.int mc) ∧ Arv Z h e_ ke (.object "java/lang/Object") (10 : Int32) ([] ++ [.ref x]) .null ∧ Ovr Z ke "java/lang/Object") := by
  refine OMet.body (plainFor_of_name own_pn3) ?_
  intro p e s m below meth c s₁ hx hby hml hown hnm hret hlk hZ X0 e0
  refine OGo.step (fun _ kk => castTop (show entryFrame m #[(.ref a), (.ref x), (.ref dd), (.int (0 : Int32))] 4 = (mkF m 0 #[.val (.ref a), .val (.ref x), .val (.ref dd), .val (.int (0 : Int32))] []) from by first | (simp [entryFrame, mkF, argsToLocals, Value.category]; done) | rfl) kk) ?_
  show OGo p e below (s₁.setTop (mkF m 0 #[.val (.ref a), .val (.ref x), .val (.ref dd), .val (.int (0 : Int32))] [])) _
  refine OGo.step (fun _ kk => XS.iloadN X0.here hx rfl (hb hby own_d_jdk_38_method_24_code_0) rfl kk) ?_
  refine OGo.step (fun _ kk => XS.aloadN X0.here hx rfl (hb hby own_d_jdk_38_method_24_code_1) rfl rfl kk) ?_
  show OGo p e below (s₁.setTop (mkF m 2 #[.val (.ref a), .val (.ref x), .val (.ref dd), .val (.int (0 : Int32))] [(.ref dd), (.int (0 : Int32))])) _
  refine OGo.step (fun _ kk => X0.arraylength hx (by rw [e0]; exact (Ad).1) (State.isArrayOf_alike hZ.alike (Ad).2.1) (g := (mkF m 2 #[.val (.ref a), .val (.ref x), .val (.ref dd), .val (.int (0 : Int32))] [(.ref dd), (.int (0 : Int32))])) rfl rfl (hb hby own_d_jdk_38_method_24_code_2) _ kk) ?_
  rw [len_of (z := 0) Sd (by decide)]
  show OGo p e below (s₁.setTop (mkF m 3 #[.val (.ref a), .val (.ref x), .val (.ref dd), .val (.int (0 : Int32))] [(.int (0 : Int32)), (.int (0 : Int32))])) _
  refine OGo.step (fun _ kk => XS.icmpNo X0.here hx rfl (hb hby own_d_jdk_38_method_24_code_3) rfl (teq rfl).2 kk) ?_
  show OGo p e below (s₁.setTop (mkF m 6 #[.val (.ref a), .val (.ref x), .val (.ref dd), .val (.int (0 : Int32))] [])) _
  refine OGo.step (fun _ kk => XS.aloadN X0.here hx rfl (hb hby own_d_jdk_38_method_24_code_6) rfl rfl kk) ?_
  show OGo p e below (s₁.setTop (mkF m 7 #[.val (.ref a), .val (.ref x), .val (.ref dd), .val (.int (0 : Int32))] [(.ref a)])) _
  refine own_private X0 hx hZ (y := (⟨"java/util/ArrayList", "grow", "()[Ljava/lang/Object;"⟩ : MethodName)) hown (hw _ (List.mem_of_getElem? (i := 87) rfl)) (hw _ (List.mem_of_getElem? (i := 88) rfl)) (hw _ (List.mem_of_getElem? (i := 90) rfl)) (hw _ (List.mem_of_getElem? (i := 89) rfl)) (hw _ (List.mem_of_getElem? (i := 91) rfl)) (hw _ (List.mem_of_getElem? (i := 35) rfl)) (by decide) (b := a) E1 (W := 0) (own_grow l Z a0 hw [] a dd cd mc h0 n0 Z0 SD Ad Sd nda E1 Fe Fz Fm ga) e0  (pc := 7) (Ls := #[.val (.ref a), .val (.ref x), .val (.ref dd), .val (.int (0 : Int32))]) (argsL := []) (rest := []) (by rw [hml]; rfl) (lenOf own_pd7 rfl) rfl (hb hby own_d_jdk_38_method_24_code_7) (by decide) (by decide) (by decide) (by decide) ?_
  intro v161 T161 L161 X161 hQ161
  obtain ⟨e_, ke, rfl, N161, K161, ge_, f1, f2, f3, f4, f5, f6⟩ := hQ161
  show OGo p e below (T161.setTop (mkF m 10 #[.val (.ref a), .val (.ref x), .val (.ref dd), .val (.int (0 : Int32))] [(.ref e_)])) _
  have Nc161 := Fr.app (Fr.nil n0) N161
  have sz161 : n0 ≤ T161.heap.size := Nat.le_trans Z0 K161.1
  have nae : a ≠ e_ := Nat.ne_of_lt (Nat.lt_of_lt_of_le E1.lt ge_)
  have gfe : n0 ≤ e_ := Nat.le_trans Z0 ge_
  have fc162 := (Gx.keep K161)
  refine OGo.step (fun _ kk => XS.astoreN X161.here hx rfl (hb hby own_d_jdk_38_method_24_code_10) rfl rfl (l' := #[.val (.ref a), .val (.ref x), .val (.ref e_), .val (.int (0 : Int32))]) rfl kk) ?_
  refine OGo.step (fun _ kk => XS.aloadN X161.here hx rfl (hb hby own_d_jdk_38_method_24_code_11) rfl rfl kk) ?_
  refine OGo.step (fun _ kk => XS.iloadN X161.here hx rfl (hb hby own_d_jdk_38_method_24_code_12) rfl kk) ?_
  refine OGo.step (fun _ kk => XS.aloadN X161.here hx rfl (hb hby own_d_jdk_38_method_24_code_13) rfl rfl kk) ?_
  show OGo p e below (T161.setTop (mkF m 14 #[.val (.ref a), .val (.ref x), .val (.ref e_), .val (.int (0 : Int32))] [(.ref x), (.int (0 : Int32)), (.ref e_)])) _
  obtain ⟨cA163, A163, q163, S163, M163, H163, G163⟩ := id (f5.pad (pad_rep [] _ 1))
  obtain ⟨T164, h164, X164, e164, W164, st164⟩ := stR X161 hx hZ rfl A163 (j := (0 : Int32)) (inb_of S163 ⟨by decide, by decide⟩) rfl (Sto.ofV A163 q163 f6 (Ins.of_exa fc162 (hw _ (List.mem_of_getElem? (i := 103) rfl)))) (g := (mkF m 14 #[.val (.ref a), .val (.ref x), .val (.ref e_), .val (.int (0 : Int32))] [(.ref x), (.int (0 : Int32)), (.ref e_)])) rfl rfl (hb hby own_d_jdk_38_method_24_code_14)
  refine OGo.step st164 ?_
  show OGo p e below (T164.setTop (mkF m 15 #[.val (.ref a), .val (.ref x), .val (.ref e_), .val (.int (0 : Int32))] [])) _
  have Va163 : Arv Z h164 e_ ke (.object "java/lang/Object") (10 : Int32) ([] ++ [.ref x]) .null := by rw [← own_setl (d := .null) (v := .ref x) rfl]; exact Arv.set A163 q163 S163 M163 H163 G163 rfl W164 0 rfl (own_lenl rfl)
  have Nf164 := Fr.snoc X164 Nc161 gfe
  have sz164 : n0 ≤ h164.size := by rw [W164.size]; exact sz161
  refine OGo.step (fun _ kk => XS.aloadN X164.here hx rfl (hb hby own_d_jdk_38_method_24_code_15) rfl rfl kk) ?_
  refine OGo.step (fun _ kk => XS.iloadN X164.here hx rfl (hb hby own_d_jdk_38_method_24_code_16) rfl kk) ?_
  refine OGo.step (fun _ kk => XS.iconst X164.here hx rfl (hb hby own_d_jdk_38_method_24_code_17) kk) ?_
  refine OGo.step (fun _ kk => XS.iadd X164.here hx rfl (hb hby own_d_jdk_38_method_24_code_18) rfl kk) ?_
  show OGo p e below (T164.setTop (mkF m 19 #[.val (.ref a), .val (.ref x), .val (.ref e_), .val (.int (0 : Int32))] [(.int (1 : Int32)), (.ref a)])) _
  have fc165 := (f3.other W164 (Or.inl nae))
  have fc166 := (f1.wr W164)
  obtain ⟨T167, h167, X167, e167, W167, st167⟩ := putF X164 hx hZ hown (host := "") (Or.inl (hw _ (List.mem_of_getElem? (i := 70) rfl))) Via.refl e164 fc165 fc166 (Or.inl (hw _ (List.mem_of_getElem? (i := 71) rfl))) (hw _ (List.mem_of_getElem? (i := 34) rfl)) (ty := .int) (by decide) rfl rfl (g := (mkF m 19 #[.val (.ref a), .val (.ref x), .val (.ref e_), .val (.int (0 : Int32))] [(.int (1 : Int32)), (.ref a)])) rfl rfl (hb hby own_d_jdk_38_method_24_code_19)
  refine OGo.step st167 ?_
  show OGo p e below (T167.setTop (mkF m 22 #[.val (.ref a), .val (.ref x), .val (.ref e_), .val (.int (0 : Int32))] [])) _
  have Fw167 := fc165.same W167
  have Nf167 := Fr.snoc X167 Nf164 ga
  have sz167 : n0 ≤ h167.size := by rw [W167.size]; exact sz164
  have fc168 := (fc166.wr W167)
  have fc169 := ((f2.other W164 (Or.inl nae)).other W167 (Or.inr (slot_ne (Or.inl (hw _ (List.mem_of_getElem? (i := 56) rfl))) (Or.inl (hw _ (List.mem_of_getElem? (i := 71) rfl))) (by decide) (t := (.array (.object "java/lang/Object"))) (t' := .int) (by decide) (by decide))))
  have fc170 := ((f4.other W164 (Or.inl nae)).other W167 (Or.inr (slot_ne (Or.inl (hw _ (List.mem_of_getElem? (i := 53) rfl))) (Or.inl (hw _ (List.mem_of_getElem? (i := 71) rfl))) (by decide) (t := .int) (t' := .int) (by decide) (by decide))))
  have fc171 := (Va163.other W167 (Ne.symm nae))
  have kp172 := (Keep.refl h0 [a]).trans K161 (allS (Or.inl (List.mem_of_getElem? (i := 0) rfl)) all0)
  have kp173 := kp172.wr W164 (Or.inr (Nat.le_trans (Keep.refl h0 [a]).1 ge_))
  have kp174 := kp173.wr W167 (Or.inl (List.mem_of_getElem? (i := 0) rfl))
  exact own_ret0 X167 hx hlk hret (hb hby own_d_jdk_38_method_24_code_22) (by rw [e167]; exact ⟨e_, ke, rfl, Nf167, kp174, ge_, fc168, fc169, Fw167, fc170, fc171, f6⟩) (by decide) (by decide)

set_option maxRecDepth 65536 in
set_option maxHeartbeats 40000000 in
theorem own_add3n (l : Launch) (Z : State) (a0 : Array Value) (hw : ∀ d ∈ tables_1, d.before a0 Z = true) (ws : List Jvm.Cond) (a x e_ : Addr) (ke : ClassId) (vs : List Value) (n : Nat) (mc : Int32) (h0 : Heap) (n0 : Nat) (Z0 : n0 ≤ h0.size) (E1 : Exa Z h0 a "java/util/ArrayList") (Fe : Fld Z h0 a "java/util/ArrayList" "elementData" "[Ljava/lang/Object;" (.ref e_)) (Fz : Fld Z h0 a "java/util/ArrayList" "size" "I" (.int (Int32.ofNat n))) (Fm : Fld Z h0 a "java/util/AbstractList" "modCount" "I" (.int mc)) (ga : n0 ≤ a) (Ve : Arv Z h0 e_ ke (.object "java/lang/Object") (10 : Int32) vs .null) (Ov : Ovr Z ke "java/lang/Object") (hl : vs.length = n) (hn : n < 9) (hn0 : 0 < n) (nae : a ≠ e_) (ge : n0 ≤ e_) (Gx : Exa Z h0 x "java/lang/String") (nxa : x ≠ a) :
    OMet l Z (⟨"java/util/ArrayList", "add", "(Ljava/lang/Object;[Ljava/lang/Object;I)V"⟩ : MethodName) jdk_38_method_24_code 4 none ws ({ frames := 0, cells := 0, slots := 0, locals := 0 } : Room) #[(.ref a), (.ref x), (.ref e_), (.int (Int32.ofNat n))] h0 (fun v h L => v = none ∧ Fr n0 L ∧ Keep h0 h [a, e_] ∧ Exa Z h a "java/util/ArrayList" ∧ Fld Z h a "java/util/ArrayList" "elementData" "[Ljava/lang/Object;" (.ref e_) ∧ Fld Z h a "java/util/ArrayList" "size" "I" (.int (Int32.ofNat (n + 1))) ∧ Fld Z h a "java/util/AbstractList" "modCount" "I" (.int mc) ∧ Arv Z h e_ ke (.object "java/lang/Object") (10 : Int32) (vs ++ [.ref x]) .null) := by
  refine OMet.body (plainFor_of_name own_pn3) ?_
  intro p e s m below meth c s₁ hx hby hml hown hnm hret hlk hZ X0 e0
  refine OGo.step (fun _ kk => castTop (show entryFrame m #[(.ref a), (.ref x), (.ref e_), (.int (Int32.ofNat n))] 4 = (mkF m 0 #[.val (.ref a), .val (.ref x), .val (.ref e_), .val (.int (Int32.ofNat n))] []) from by first | (simp [entryFrame, mkF, argsToLocals, Value.category]; done) | rfl) kk) ?_
  show OGo p e below (s₁.setTop (mkF m 0 #[.val (.ref a), .val (.ref x), .val (.ref e_), .val (.int (Int32.ofNat n))] [])) _
  obtain ⟨cv, Av, qv, Sv, Mv, Hv, Gv⟩ := id Ve
  refine OGo.step (fun _ kk => XS.iloadN X0.here hx rfl (hb hby own_d_jdk_38_method_24_code_0) rfl kk) ?_
  refine OGo.step (fun _ kk => XS.aloadN X0.here hx rfl (hb hby own_d_jdk_38_method_24_code_1) rfl rfl kk) ?_
  show OGo p e below (s₁.setTop (mkF m 2 #[.val (.ref a), .val (.ref x), .val (.ref e_), .val (.int (Int32.ofNat n))] [(.ref e_), (.int (Int32.ofNat n))])) _
  refine OGo.step (fun _ kk => X0.arraylength hx (by rw [e0]; exact (Av).1) (State.isArrayOf_alike hZ.alike (Av).2.1) (g := (mkF m 2 #[.val (.ref a), .val (.ref x), .val (.ref e_), .val (.int (Int32.ofNat n))] [(.ref e_), (.int (Int32.ofNat n))])) rfl rfl (hb hby own_d_jdk_38_method_24_code_2) _ kk) ?_
  rw [len_of Sv Mv]
  show OGo p e below (s₁.setTop (mkF m 3 #[.val (.ref a), .val (.ref x), .val (.ref e_), .val (.int (Int32.ofNat n))] [(.int (10 : Int32)), (.int (Int32.ofNat n))])) _
  refine OGo.step (fun _ kk => XS.icmpYes X0.here hx rfl (pc0 := 3) (pc' := 11) rfl (hb hby own_d_jdk_38_method_24_code_3) rfl (feq (own_ne10 n (by omega))).2 (by decide) (by decide) kk) ?_
  show OGo p e below (s₁.setTop (mkF m 11 #[.val (.ref a), .val (.ref x), .val (.ref e_), .val (.int (Int32.ofNat n))] [])) _
  refine OGo.step (fun _ kk => XS.aloadN X0.here hx rfl (hb hby own_d_jdk_38_method_24_code_11) rfl rfl kk) ?_
  refine OGo.step (fun _ kk => XS.iloadN X0.here hx rfl (hb hby own_d_jdk_38_method_24_code_12) rfl kk) ?_
  refine OGo.step (fun _ kk => XS.aloadN X0.here hx rfl (hb hby own_d_jdk_38_method_24_code_13) rfl rfl kk) ?_
  show OGo p e below (s₁.setTop (mkF m 14 #[.val (.ref a), .val (.ref x), .val (.ref e_), .val (.int (Int32.ofNat n))] [(.ref x), (.int (Int32.ofNat n)), (.ref e_)])) _
  obtain ⟨cA175, A175, q175, S175, M175, H175, G175⟩ := id (Ve.pad (pad_rep vs _ 1))
  obtain ⟨T176, h176, X176, e176, W176, st176⟩ := stR X0 hx hZ e0 A175 (j := (Int32.ofNat n)) (inb_of S175 (own_lt10 n (by omega))) rfl (Sto.ofV A175 q175 Ov (Ins.of_exa Gx (hw _ (List.mem_of_getElem? (i := 103) rfl)))) (g := (mkF m 14 #[.val (.ref a), .val (.ref x), .val (.ref e_), .val (.int (Int32.ofNat n))] [(.ref x), (.int (Int32.ofNat n)), (.ref e_)])) rfl rfl (hb hby own_d_jdk_38_method_24_code_14)
  refine OGo.step st176 ?_
  show OGo p e below (T176.setTop (mkF m 15 #[.val (.ref a), .val (.ref x), .val (.ref e_), .val (.int (Int32.ofNat n))] [])) _
  have Va175 : Arv Z h176 e_ ke (.object "java/lang/Object") (10 : Int32) (vs ++ [.ref x]) .null := by rw [← own_setl (d := .null) (v := .ref x) hl]; exact Arv.set A175 q175 S175 M175 H175 G175 rfl W176 n (own_ix10 n (by omega)) (own_lenl hl)
  have Nf176 := Fr.snoc X176 (Fr.nil n0) ge
  have sz176 : n0 ≤ h176.size := by rw [W176.size]; exact Z0
  refine OGo.step (fun _ kk => XS.aloadN X176.here hx rfl (hb hby own_d_jdk_38_method_24_code_15) rfl rfl kk) ?_
  refine OGo.step (fun _ kk => XS.iloadN X176.here hx rfl (hb hby own_d_jdk_38_method_24_code_16) rfl kk) ?_
  refine OGo.step (fun _ kk => XS.iconst X176.here hx rfl (hb hby own_d_jdk_38_method_24_code_17) kk) ?_
  refine OGo.step (fun _ kk => XS.iadd X176.here hx rfl (hb hby own_d_jdk_38_method_24_code_18) rfl kk) ?_
  show OGo p e below (T176.setTop (mkF m 19 #[.val (.ref a), .val (.ref x), .val (.ref e_), .val (.int (Int32.ofNat n))] [(.int ((Int32.ofNat n) + (1 : Int32))), (.ref a)])) _
  rw [own_add1 n (by omega)]
  show OGo p e below (T176.setTop (mkF m 19 #[.val (.ref a), .val (.ref x), .val (.ref e_), .val (.int (Int32.ofNat n))] [(.int (Int32.ofNat (n + 1))), (.ref a)])) _
  have fc177 := (Fz.other W176 (Or.inl nae))
  have fc178 := (E1.wr W176)
  obtain ⟨T179, h179, X179, e179, W179, st179⟩ := putF X176 hx hZ hown (host := "") (Or.inl (hw _ (List.mem_of_getElem? (i := 70) rfl))) Via.refl e176 fc177 fc178 (Or.inl (hw _ (List.mem_of_getElem? (i := 71) rfl))) (hw _ (List.mem_of_getElem? (i := 34) rfl)) (ty := .int) (by decide) rfl rfl (g := (mkF m 19 #[.val (.ref a), .val (.ref x), .val (.ref e_), .val (.int (Int32.ofNat n))] [(.int (Int32.ofNat (n + 1))), (.ref a)])) rfl rfl (hb hby own_d_jdk_38_method_24_code_19)
  refine OGo.step st179 ?_
  show OGo p e below (T179.setTop (mkF m 22 #[.val (.ref a), .val (.ref x), .val (.ref e_), .val (.int (Int32.ofNat n))] [])) _
  have Fw179 := fc177.same W179
  have Nf179 := Fr.snoc X179 Nf176 ga
  have sz179 : n0 ≤ h179.size := by rw [W179.size]; exact sz176
  have fc180 := (fc178.wr W179)
  have fc181 := ((Fe.other W176 (Or.inl nae)).other W179 (Or.inr (slot_ne (Or.inl (hw _ (List.mem_of_getElem? (i := 56) rfl))) (Or.inl (hw _ (List.mem_of_getElem? (i := 71) rfl))) (by decide) (t := (.array (.object "java/lang/Object"))) (t' := .int) (by decide) (by decide))))
  have fc182 := ((Fm.other W176 (Or.inl nae)).other W179 (Or.inr (slot_ne (Or.inl (hw _ (List.mem_of_getElem? (i := 53) rfl))) (Or.inl (hw _ (List.mem_of_getElem? (i := 71) rfl))) (by decide) (t := .int) (t' := .int) (by decide) (by decide))))
  have fc183 := (Va175.other W179 (Ne.symm nae))
  have kp184 := (Keep.refl h0 [a, e_]).wr W176 (Or.inl (List.mem_of_getElem? (i := 1) rfl))
  have kp185 := kp184.wr W179 (Or.inl (List.mem_of_getElem? (i := 0) rfl))
  exact own_ret0 X179 hx hlk hret (hb hby own_d_jdk_38_method_24_code_22) (by rw [e179]; exact ⟨rfl, Nf179, kp185, fc180, fc181, Fw179, fc182, fc183⟩) (by decide) (by decide)

set_option maxRecDepth 65536 in
set_option maxHeartbeats 40000000 in
theorem own_add10 (l : Launch) (Z : State) (a0 : Array Value) (hw : ∀ d ∈ tables_1, d.before a0 Z = true) (ws : List Jvm.Cond) (a x dd : Addr) (cd : Cell) (mc : Int32) (h0 : Heap) (n0 : Nat) (Z0 : n0 ≤ h0.size) (SD : Sta Z h0 "java/util/ArrayList" "DEFAULTCAPACITY_EMPTY_ELEMENTDATA" "[Ljava/lang/Object;" (.ref dd)) (Ad : Arr Z h0 dd cd (.object "java/lang/Object")) (Sd : cd.slots.size = 0) (nda : dd ≠ a) (E1 : Exa Z h0 a "java/util/ArrayList") (Fe : Fld Z h0 a "java/util/ArrayList" "elementData" "[Ljava/lang/Object;" (.ref dd)) (Fz : Fld Z h0 a "java/util/ArrayList" "size" "I" (.int (0 : Int32))) (Fm : Fld Z h0 a "java/util/AbstractList" "modCount" "I" (.int mc)) (ga : n0 ≤ a) (Gx : Exa Z h0 x "java/lang/String") (nxa : x ≠ a) :
    OMet l Z (⟨"java/util/ArrayList", "add", "(Ljava/lang/Object;)Z"⟩ : MethodName) jdk_38_method_25_code 2 (some .boolean) ws ({ frames := 4, cells := 1, slots := 10, locals := 57 } : Room) #[(.ref a), (.ref x)] h0 (fun v h L => ∃ (e_ : Addr) (ke : ClassId), v = some (.int (1 : Int32)) ∧ Fr n0 L ∧ Keep h0 h [a] ∧ h0.size ≤ e_ ∧ Exa Z h a "java/util/ArrayList" ∧ Fld Z h a "java/util/ArrayList" "elementData" "[Ljava/lang/Object;" (.ref e_) ∧ Fld Z h a "java/util/ArrayList" "size" "I" (.int (1 : Int32)) ∧ Fld Z h a "java/util/AbstractList" "modCount" "I" (.int (mc + 1)) ∧ Arv Z h e_ ke (.object "java/lang/Object") (10 : Int32) ([] ++ [.ref x]) .null ∧ Ovr Z ke "java/lang/Object") := by
  refine OMet.body (plainFor_of_name own_pn3) ?_
  intro p e s m below meth c s₁ hx hby hml hown hnm hret hlk hZ X0 e0
  refine OGo.step (fun _ kk => castTop (show entryFrame m #[(.ref a), (.ref x)] 2 = (mkF m 0 #[.val (.ref a), .val (.ref x)] []) from by first | (simp [entryFrame, mkF, argsToLocals, Value.category]; done) | rfl) kk) ?_
  show OGo p e below (s₁.setTop (mkF m 0 #[.val (.ref a), .val (.ref x)] [])) _
  refine OGo.step (fun _ kk => XS.aloadN X0.here hx rfl (hb hby own_d_jdk_38_method_25_code_0) rfl rfl kk) ?_
  refine OGo.step (fun _ kk => XS.dup X0.here hx rfl (hb hby own_d_jdk_38_method_25_code_1) rfl rfl kk) ?_
  show OGo p e below (s₁.setTop (mkF m 2 #[.val (.ref a), .val (.ref x)] [(.ref a), (.ref a)])) _
  obtain ⟨T186, X186, e186, st186⟩ := getF X0 hx hZ hown (host := "") (Or.inl (hw _ (List.mem_of_getElem? (i := 80) rfl))) (Via.of (hw _ (List.mem_of_getElem? (i := 81) rfl))) e0 Fm (g := (mkF m 2 #[.val (.ref a), .val (.ref x)] [(.ref a), (.ref a)])) rfl rfl (hb hby own_d_jdk_38_method_25_code_2)
  refine OGo.step st186 ?_
  show OGo p e below (T186.setTop (mkF m 5 #[.val (.ref a), .val (.ref x)] [(.int mc), (.ref a)])) _
  refine OGo.step (fun _ kk => XS.iconst X186.here hx rfl (hb hby own_d_jdk_38_method_25_code_5) kk) ?_
  refine OGo.step (fun _ kk => XS.iadd X186.here hx rfl (hb hby own_d_jdk_38_method_25_code_6) rfl kk) ?_
  show OGo p e below (T186.setTop (mkF m 7 #[.val (.ref a), .val (.ref x)] [(.int (mc + (1 : Int32))), (.ref a)])) _
  obtain ⟨T187, h187, X187, e187, W187, st187⟩ := putF X186 hx hZ hown (host := "") (Or.inl (hw _ (List.mem_of_getElem? (i := 80) rfl))) (Via.of (hw _ (List.mem_of_getElem? (i := 81) rfl))) e186 Fm E1 (Or.inl (hw _ (List.mem_of_getElem? (i := 53) rfl))) (hw _ (List.mem_of_getElem? (i := 34) rfl)) (ty := .int) (by decide) rfl rfl (g := (mkF m 7 #[.val (.ref a), .val (.ref x)] [(.int (mc + (1 : Int32))), (.ref a)])) rfl rfl (hb hby own_d_jdk_38_method_25_code_7)
  refine OGo.step st187 ?_
  show OGo p e below (T187.setTop (mkF m 10 #[.val (.ref a), .val (.ref x)] [])) _
  have Fw187 := Fm.same W187
  have Nf187 := Fr.snoc X187 (Fr.nil n0) ga
  have sz187 : n0 ≤ h187.size := by rw [W187.size]; exact Z0
  refine OGo.step (fun _ kk => XS.aloadN X187.here hx rfl (hb hby own_d_jdk_38_method_25_code_10) rfl rfl kk) ?_
  refine OGo.step (fun _ kk => XS.aloadN X187.here hx rfl (hb hby own_d_jdk_38_method_25_code_11) rfl rfl kk) ?_
  refine OGo.step (fun _ kk => XS.aloadN X187.here hx rfl (hb hby own_d_jdk_38_method_25_code_12) rfl rfl kk) ?_
  show OGo p e below (T187.setTop (mkF m 13 #[.val (.ref a), .val (.ref x)] [(.ref a), (.ref x), (.ref a)])) _
  have Ad1 := Arr.other W187 Ad nda
  have SD1 := Sta.wr W187 SD
  have fc188 := (Fe.other W187 (Or.inr (slot_ne (Or.inl (hw _ (List.mem_of_getElem? (i := 56) rfl))) (Or.inl (hw _ (List.mem_of_getElem? (i := 53) rfl))) (by decide) (t := (.array (.object "java/lang/Object"))) (t' := .int) (by decide) (by decide))))
  obtain ⟨T189, X189, e189, st189⟩ := getF X187 hx hZ hown (host := "") (Or.inl (hw _ (List.mem_of_getElem? (i := 55) rfl))) Via.refl e187 fc188 (g := (mkF m 13 #[.val (.ref a), .val (.ref x)] [(.ref a), (.ref x), (.ref a)])) rfl rfl (hb hby own_d_jdk_38_method_25_code_13)
  refine OGo.step st189 ?_
  show OGo p e below (T189.setTop (mkF m 16 #[.val (.ref a), .val (.ref x)] [(.ref dd), (.ref x), (.ref a)])) _
  refine OGo.step (fun _ kk => XS.aloadN X189.here hx rfl (hb hby own_d_jdk_38_method_25_code_16) rfl rfl kk) ?_
  show OGo p e below (T189.setTop (mkF m 17 #[.val (.ref a), .val (.ref x)] [(.ref a), (.ref dd), (.ref x), (.ref a)])) _
  have fc190 := (Fz.other W187 (Or.inr (slot_ne (Or.inl (hw _ (List.mem_of_getElem? (i := 71) rfl))) (Or.inl (hw _ (List.mem_of_getElem? (i := 53) rfl))) (by decide) (t := .int) (t' := .int) (by decide) (by decide))))
  obtain ⟨T191, X191, e191, st191⟩ := getF X189 hx hZ hown (host := "") (Or.inl (hw _ (List.mem_of_getElem? (i := 70) rfl))) Via.refl e189 fc190 (g := (mkF m 17 #[.val (.ref a), .val (.ref x)] [(.ref a), (.ref dd), (.ref x), (.ref a)])) rfl rfl (hb hby own_d_jdk_38_method_25_code_17)
  refine OGo.step st191 ?_
  show OGo p e below (T191.setTop (mkF m 20 #[.val (.ref a), .val (.ref x)] [(.int (0 : Int32)), (.ref dd), (.ref x), (.ref a)])) _
  have fc192 := (E1.wr W187)
  have fc193 := (Gx.wr W187)
  refine own_private X191 hx hZ (y := (⟨"java/util/ArrayList", "add", "(Ljava/lang/Object;[Ljava/lang/Object;I)V"⟩ : MethodName)) hown (hw _ (List.mem_of_getElem? (i := 82) rfl)) (hw _ (List.mem_of_getElem? (i := 83) rfl)) (hw _ (List.mem_of_getElem? (i := 85) rfl)) (hw _ (List.mem_of_getElem? (i := 84) rfl)) (hw _ (List.mem_of_getElem? (i := 86) rfl)) (hw _ (List.mem_of_getElem? (i := 35) rfl)) (by decide) (b := a) fc192 (W := 0) (own_add30 l Z a0 hw [] a x dd cd (mc + 1) h187 n0 sz187 SD1 Ad1 Sd nda fc192 fc188 fc190 Fw187 ga fc193 nxa) e191  (pc := 20) (Ls := #[.val (.ref a), .val (.ref x)]) (argsL := [(.ref x), (.ref dd), (.int (0 : Int32))]) (rest := []) (by rw [hml]; rfl) (lenOf own_pd8 rfl) rfl (hb hby own_d_jdk_38_method_25_code_20) (by decide) (by decide) (by decide) (by decide) ?_
  intro v194 T194 L194 X194 hQ194
  obtain ⟨e_, ke, rfl, N194, K194, ge_, f1, f2, f3, f4, f5, f6⟩ := hQ194
  show OGo p e below (T194.setTop (mkF m 23 #[.val (.ref a), .val (.ref x)] [])) _
  have Nc194 := Fr.app Nf187 N194
  have sz194 : n0 ≤ T194.heap.size := Nat.le_trans sz187 K194.1
  refine OGo.step (fun _ kk => XS.iconst X194.here hx rfl (hb hby own_d_jdk_38_method_25_code_23) kk) ?_
  show OGo p e below (T194.setTop (mkF m 24 #[.val (.ref a), .val (.ref x)] [(.int (1 : Int32))])) _
  have kp195 := (Keep.refl h0 [a]).wr W187 (Or.inl (List.mem_of_getElem? (i := 0) rfl))
  have kp196 := kp195.trans K194 (allS (Or.inl (List.mem_of_getElem? (i := 0) rfl)) all0)
  exact own_retN X194 hx hlk hret (by simp) (hb hby own_d_jdk_38_method_25_code_24) ⟨e_, ke, by rw [own_nar1], Nc194, kp196, (Nat.le_trans kp195.1 ge_), f1, f2, f3, f4, f5, f6⟩ (by decide) (by decide)

set_option maxRecDepth 65536 in
set_option maxHeartbeats 40000000 in
theorem own_add1n (l : Launch) (Z : State) (a0 : Array Value) (hw : ∀ d ∈ tables_1, d.before a0 Z = true) (ws : List Jvm.Cond) (a x e_ : Addr) (ke : ClassId) (vs : List Value) (n : Nat) (mc : Int32) (h0 : Heap) (n0 : Nat) (Z0 : n0 ≤ h0.size) (E1 : Exa Z h0 a "java/util/ArrayList") (Fe : Fld Z h0 a "java/util/ArrayList" "elementData" "[Ljava/lang/Object;" (.ref e_)) (Fz : Fld Z h0 a "java/util/ArrayList" "size" "I" (.int (Int32.ofNat n))) (Fm : Fld Z h0 a "java/util/AbstractList" "modCount" "I" (.int mc)) (ga : n0 ≤ a) (Ve : Arv Z h0 e_ ke (.object "java/lang/Object") (10 : Int32) vs .null) (Ov : Ovr Z ke "java/lang/Object") (hl : vs.length = n) (hn : n < 9) (hn0 : 0 < n) (nae : a ≠ e_) (ge : n0 ≤ e_) (Gx : Exa Z h0 x "java/lang/String") (nxa : x ≠ a) :
    OMet l Z (⟨"java/util/ArrayList", "add", "(Ljava/lang/Object;)Z"⟩ : MethodName) jdk_38_method_25_code 2 (some .boolean) ws ({ frames := 1, cells := 0, slots := 0, locals := 15 } : Room) #[(.ref a), (.ref x)] h0 (fun v h L => v = some (.int (1 : Int32)) ∧ Fr n0 L ∧ Keep h0 h [a, e_] ∧ Exa Z h a "java/util/ArrayList" ∧ Fld Z h a "java/util/ArrayList" "elementData" "[Ljava/lang/Object;" (.ref e_) ∧ Fld Z h a "java/util/ArrayList" "size" "I" (.int (Int32.ofNat (n + 1))) ∧ Fld Z h a "java/util/AbstractList" "modCount" "I" (.int (mc + 1)) ∧ Arv Z h e_ ke (.object "java/lang/Object") (10 : Int32) (vs ++ [.ref x]) .null) := by
  refine OMet.body (plainFor_of_name own_pn3) ?_
  intro p e s m below meth c s₁ hx hby hml hown hnm hret hlk hZ X0 e0
  refine OGo.step (fun _ kk => castTop (show entryFrame m #[(.ref a), (.ref x)] 2 = (mkF m 0 #[.val (.ref a), .val (.ref x)] []) from by first | (simp [entryFrame, mkF, argsToLocals, Value.category]; done) | rfl) kk) ?_
  show OGo p e below (s₁.setTop (mkF m 0 #[.val (.ref a), .val (.ref x)] [])) _
  refine OGo.step (fun _ kk => XS.aloadN X0.here hx rfl (hb hby own_d_jdk_38_method_25_code_0) rfl rfl kk) ?_
  refine OGo.step (fun _ kk => XS.dup X0.here hx rfl (hb hby own_d_jdk_38_method_25_code_1) rfl rfl kk) ?_
  show OGo p e below (s₁.setTop (mkF m 2 #[.val (.ref a), .val (.ref x)] [(.ref a), (.ref a)])) _
  obtain ⟨T197, X197, e197, st197⟩ := getF X0 hx hZ hown (host := "") (Or.inl (hw _ (List.mem_of_getElem? (i := 80) rfl))) (Via.of (hw _ (List.mem_of_getElem? (i := 81) rfl))) e0 Fm (g := (mkF m 2 #[.val (.ref a), .val (.ref x)] [(.ref a), (.ref a)])) rfl rfl (hb hby own_d_jdk_38_method_25_code_2)
  refine OGo.step st197 ?_
  show OGo p e below (T197.setTop (mkF m 5 #[.val (.ref a), .val (.ref x)] [(.int mc), (.ref a)])) _
  refine OGo.step (fun _ kk => XS.iconst X197.here hx rfl (hb hby own_d_jdk_38_method_25_code_5) kk) ?_
  refine OGo.step (fun _ kk => XS.iadd X197.here hx rfl (hb hby own_d_jdk_38_method_25_code_6) rfl kk) ?_
  show OGo p e below (T197.setTop (mkF m 7 #[.val (.ref a), .val (.ref x)] [(.int (mc + (1 : Int32))), (.ref a)])) _
  obtain ⟨T198, h198, X198, e198, W198, st198⟩ := putF X197 hx hZ hown (host := "") (Or.inl (hw _ (List.mem_of_getElem? (i := 80) rfl))) (Via.of (hw _ (List.mem_of_getElem? (i := 81) rfl))) e197 Fm E1 (Or.inl (hw _ (List.mem_of_getElem? (i := 53) rfl))) (hw _ (List.mem_of_getElem? (i := 34) rfl)) (ty := .int) (by decide) rfl rfl (g := (mkF m 7 #[.val (.ref a), .val (.ref x)] [(.int (mc + (1 : Int32))), (.ref a)])) rfl rfl (hb hby own_d_jdk_38_method_25_code_7)
  refine OGo.step st198 ?_
  show OGo p e below (T198.setTop (mkF m 10 #[.val (.ref a), .val (.ref x)] [])) _
  have Fw198 := Fm.same W198
  have Nf198 := Fr.snoc X198 (Fr.nil n0) ga
  have sz198 : n0 ≤ h198.size := by rw [W198.size]; exact Z0
  refine OGo.step (fun _ kk => XS.aloadN X198.here hx rfl (hb hby own_d_jdk_38_method_25_code_10) rfl rfl kk) ?_
  refine OGo.step (fun _ kk => XS.aloadN X198.here hx rfl (hb hby own_d_jdk_38_method_25_code_11) rfl rfl kk) ?_
  refine OGo.step (fun _ kk => XS.aloadN X198.here hx rfl (hb hby own_d_jdk_38_method_25_code_12) rfl rfl kk) ?_
  show OGo p e below (T198.setTop (mkF m 13 #[.val (.ref a), .val (.ref x)] [(.ref a), (.ref x), (.ref a)])) _
  have fc199 := (Fe.other W198 (Or.inr (slot_ne (Or.inl (hw _ (List.mem_of_getElem? (i := 56) rfl))) (Or.inl (hw _ (List.mem_of_getElem? (i := 53) rfl))) (by decide) (t := (.array (.object "java/lang/Object"))) (t' := .int) (by decide) (by decide))))
  obtain ⟨T200, X200, e200, st200⟩ := getF X198 hx hZ hown (host := "") (Or.inl (hw _ (List.mem_of_getElem? (i := 55) rfl))) Via.refl e198 fc199 (g := (mkF m 13 #[.val (.ref a), .val (.ref x)] [(.ref a), (.ref x), (.ref a)])) rfl rfl (hb hby own_d_jdk_38_method_25_code_13)
  refine OGo.step st200 ?_
  show OGo p e below (T200.setTop (mkF m 16 #[.val (.ref a), .val (.ref x)] [(.ref e_), (.ref x), (.ref a)])) _
  refine OGo.step (fun _ kk => XS.aloadN X200.here hx rfl (hb hby own_d_jdk_38_method_25_code_16) rfl rfl kk) ?_
  show OGo p e below (T200.setTop (mkF m 17 #[.val (.ref a), .val (.ref x)] [(.ref a), (.ref e_), (.ref x), (.ref a)])) _
  have fc201 := (Fz.other W198 (Or.inr (slot_ne (Or.inl (hw _ (List.mem_of_getElem? (i := 71) rfl))) (Or.inl (hw _ (List.mem_of_getElem? (i := 53) rfl))) (by decide) (t := .int) (t' := .int) (by decide) (by decide))))
  obtain ⟨T202, X202, e202, st202⟩ := getF X200 hx hZ hown (host := "") (Or.inl (hw _ (List.mem_of_getElem? (i := 70) rfl))) Via.refl e200 fc201 (g := (mkF m 17 #[.val (.ref a), .val (.ref x)] [(.ref a), (.ref e_), (.ref x), (.ref a)])) rfl rfl (hb hby own_d_jdk_38_method_25_code_17)
  refine OGo.step st202 ?_
  show OGo p e below (T202.setTop (mkF m 20 #[.val (.ref a), .val (.ref x)] [(.int (Int32.ofNat n)), (.ref e_), (.ref x), (.ref a)])) _
  have fc203 := (E1.wr W198)
  have fc204 := (Ve.other W198 (Ne.symm nae))
  have fc205 := (Gx.wr W198)
  refine own_private X202 hx hZ (y := (⟨"java/util/ArrayList", "add", "(Ljava/lang/Object;[Ljava/lang/Object;I)V"⟩ : MethodName)) hown (hw _ (List.mem_of_getElem? (i := 82) rfl)) (hw _ (List.mem_of_getElem? (i := 83) rfl)) (hw _ (List.mem_of_getElem? (i := 85) rfl)) (hw _ (List.mem_of_getElem? (i := 84) rfl)) (hw _ (List.mem_of_getElem? (i := 86) rfl)) (hw _ (List.mem_of_getElem? (i := 35) rfl)) (by decide) (b := a) fc203 (W := 0) (own_add3n l Z a0 hw [] a x e_ ke vs n (mc + 1) h198 n0 sz198 fc203 fc199 fc201 Fw198 ga fc204 Ov hl hn hn0 nae ge fc205 nxa) e202  (pc := 20) (Ls := #[.val (.ref a), .val (.ref x)]) (argsL := [(.ref x), (.ref e_), (.int (Int32.ofNat n))]) (rest := []) (by rw [hml]; rfl) (lenOf own_pd8 rfl) rfl (hb hby own_d_jdk_38_method_25_code_20) (by decide) (by decide) (by decide) (by decide) ?_
  intro v206 T206 L206 X206 hQ206
  obtain ⟨rfl, N206, K206, f1, f2, f3, f4, f5⟩ := hQ206
  show OGo p e below (T206.setTop (mkF m 23 #[.val (.ref a), .val (.ref x)] [])) _
  have Nc206 := Fr.app Nf198 N206
  have sz206 : n0 ≤ T206.heap.size := Nat.le_trans sz198 K206.1
  refine OGo.step (fun _ kk => XS.iconst X206.here hx rfl (hb hby own_d_jdk_38_method_25_code_23) kk) ?_
  show OGo p e below (T206.setTop (mkF m 24 #[.val (.ref a), .val (.ref x)] [(.int (1 : Int32))])) _
  have kp207 := (Keep.refl h0 [a, e_]).wr W198 (Or.inl (List.mem_of_getElem? (i := 0) rfl))
  have kp208 := kp207.trans K206 (allS (Or.inl (List.mem_of_getElem? (i := 0) rfl)) (allS (Or.inl (List.mem_of_getElem? (i := 1) rfl)) all0))
  exact own_retN X206 hx hlk hret (by simp) (hb hby own_d_jdk_38_method_25_code_24) ⟨by rw [own_nar1], Nc206, kp208, f1, f2, f3, f4, f5⟩ (by decide) (by decide)

set_option maxRecDepth 65536 in
set_option maxHeartbeats 40000000 in
theorem own_size (l : Launch) (Z : State) (a0 : Array Value) (hw : ∀ d ∈ tables_1, d.before a0 Z = true) (ws : List Jvm.Cond) (a : Addr) (z1 : Int32) (h0 : Heap) (n0 : Nat) (Z0 : n0 ≤ h0.size) (Fz : Fld Z h0 a "java/util/ArrayList" "size" "I" (.int z1)) :
    OMet l Z (⟨"java/util/ArrayList", "size", "()I"⟩ : MethodName) jdk_38_method_8_code 1 (some .int) ws ({ frames := 0, cells := 0, slots := 0, locals := 0 } : Room) #[(.ref a)] h0 (fun v h L => v = some (.int z1) ∧ Fr n0 L ∧ h = h0) := by
  refine OMet.body (plainFor_of_name own_pn3) ?_
  intro p e s m below meth c s₁ hx hby hml hown hnm hret hlk hZ X0 e0
  refine OGo.step (fun _ kk => castTop (show entryFrame m #[(.ref a)] 1 = (mkF m 0 #[.val (.ref a)] []) from by first | (simp [entryFrame, mkF, argsToLocals, Value.category]; done) | rfl) kk) ?_
  show OGo p e below (s₁.setTop (mkF m 0 #[.val (.ref a)] [])) _
  refine OGo.step (fun _ kk => XS.aloadN X0.here hx rfl (hb hby own_d_jdk_38_method_8_code_0) rfl rfl kk) ?_
  show OGo p e below (s₁.setTop (mkF m 1 #[.val (.ref a)] [(.ref a)])) _
  obtain ⟨T209, X209, e209, st209⟩ := getF X0 hx hZ hown (host := "") (Or.inl (hw _ (List.mem_of_getElem? (i := 70) rfl))) Via.refl e0 Fz (g := (mkF m 1 #[.val (.ref a)] [(.ref a)])) rfl rfl (hb hby own_d_jdk_38_method_8_code_1)
  refine OGo.step st209 ?_
  show OGo p e below (T209.setTop (mkF m 4 #[.val (.ref a)] [(.int z1)])) _
  exact own_ret X209 hx hlk hret rfl (Or.inl ⟨rfl, Or.inl rfl, _, rfl⟩) (hb hby own_d_jdk_38_method_8_code_4) ⟨rfl, Fr.nil n0, e209⟩ (by decide) (by decide)

set_option maxRecDepth 65536 in
set_option maxHeartbeats 40000000 in
theorem own_pci (l : Launch) (Z : State) (a0 : Array Value) (hw : ∀ d ∈ tables_1, d.before a0 Z = true) (ws : List Jvm.Cond)  (h0 : Heap) (n0 : Nat) (Z0 : n0 ≤ h0.size)  :
    OMet l Z (⟨"jdk/internal/util/Preconditions", "checkIndex", "(IILjava/util/function/BiFunction;)I"⟩ : MethodName) jdk_41_method_11_code 3 (some .int) ws ({ frames := 0, cells := 0, slots := 0, locals := 0 } : Room) #[(.int (4 : Int32)), (.int (6 : Int32)), .null] h0 (fun v h L => v = some (.int (4 : Int32)) ∧ Fr n0 L ∧ h = h0) := by
  refine OMet.body (plainFor_of_name own_pn4) ?_
  intro p e s m below meth c s₁ hx hby hml hown hnm hret hlk hZ X0 e0
  refine OGo.step (fun _ kk => castTop (show entryFrame m #[(.int (4 : Int32)), (.int (6 : Int32)), .null] 3 = (mkF m 0 #[.val (.int (4 : Int32)), .val (.int (6 : Int32)), .val .null] []) from by first | (simp [entryFrame, mkF, argsToLocals, Value.category]; done) | rfl) kk) ?_
  show OGo p e below (s₁.setTop (mkF m 0 #[.val (.int (4 : Int32)), .val (.int (6 : Int32)), .val .null] [])) _
  refine OGo.step (fun _ kk => XS.iloadN X0.here hx rfl (hb hby own_d_jdk_41_method_11_code_0) rfl kk) ?_
  show OGo p e below (s₁.setTop (mkF m 1 #[.val (.int (4 : Int32)), .val (.int (6 : Int32)), .val .null] [(.int (4 : Int32))])) _
  refine OGo.step (fun _ kk => XS.ifNo X0.here hx rfl (hb hby own_d_jdk_41_method_11_code_1) rfl ((if0 _ _).trans (flt (by decide)).1) kk) ?_
  show OGo p e below (s₁.setTop (mkF m 4 #[.val (.int (4 : Int32)), .val (.int (6 : Int32)), .val .null] [])) _
  refine OGo.step (fun _ kk => XS.iloadN X0.here hx rfl (hb hby own_d_jdk_41_method_11_code_4) rfl kk) ?_
  refine OGo.step (fun _ kk => XS.iloadN X0.here hx rfl (hb hby own_d_jdk_41_method_11_code_5) rfl kk) ?_
  show OGo p e below (s₁.setTop (mkF m 6 #[.val (.int (4 : Int32)), .val (.int (6 : Int32)), .val .null] [(.int (6 : Int32)), (.int (4 : Int32))])) _
  refine OGo.step (fun _ kk => XS.icmpYes X0.here hx rfl (pc0 := 6) (pc' := 16) rfl (hb hby own_d_jdk_41_method_11_code_6) rfl (tlt (by decide)).1 (by decide) (by decide) kk) ?_
  show OGo p e below (s₁.setTop (mkF m 16 #[.val (.int (4 : Int32)), .val (.int (6 : Int32)), .val .null] [])) _
  refine OGo.step (fun _ kk => XS.iloadN X0.here hx rfl (hb hby own_d_jdk_41_method_11_code_16) rfl kk) ?_
  show OGo p e below (s₁.setTop (mkF m 17 #[.val (.int (4 : Int32)), .val (.int (6 : Int32)), .val .null] [(.int (4 : Int32))])) _
  exact own_ret X0 hx hlk hret rfl (Or.inl ⟨rfl, Or.inl rfl, _, rfl⟩) (hb hby own_d_jdk_41_method_11_code_17) ⟨rfl, Fr.nil n0, e0⟩ (by decide) (by decide)

set_option maxRecDepth 65536 in
set_option maxHeartbeats 40000000 in
theorem own_oci (l : Launch) (Z : State) (a0 : Array Value) (hw : ∀ d ∈ tables_1, d.before a0 Z = true) (ws : List Jvm.Cond)  (h0 : Heap) (n0 : Nat) (Z0 : n0 ≤ h0.size)  :
    OMet l Z (⟨"java/util/Objects", "checkIndex", "(II)I"⟩ : MethodName) jdk_31_method_17_code 2 (some .int) ws ({ frames := 1, cells := 0, slots := 0, locals := 14 } : Room) #[(.int (4 : Int32)), (.int (6 : Int32))] h0 (fun v h L => v = some (.int (4 : Int32)) ∧ Fr n0 L ∧ h = h0) := by
  refine OMet.body (plainFor_of_name own_pn5) ?_
  intro p e s m below meth c s₁ hx hby hml hown hnm hret hlk hZ X0 e0
  refine OGo.step (fun _ kk => castTop (show entryFrame m #[(.int (4 : Int32)), (.int (6 : Int32))] 2 = (mkF m 0 #[.val (.int (4 : Int32)), .val (.int (6 : Int32))] []) from by first | (simp [entryFrame, mkF, argsToLocals, Value.category]; done) | rfl) kk) ?_
  show OGo p e below (s₁.setTop (mkF m 0 #[.val (.int (4 : Int32)), .val (.int (6 : Int32))] [])) _
  refine OGo.step (fun _ kk => XS.iloadN X0.here hx rfl (hb hby own_d_jdk_31_method_17_code_0) rfl kk) ?_
  refine OGo.step (fun _ kk => XS.iloadN X0.here hx rfl (hb hby own_d_jdk_31_method_17_code_1) rfl kk) ?_
  refine OGo.step (fun _ kk => XS.aconstNull X0.here hx rfl (hb hby own_d_jdk_31_method_17_code_2) kk) ?_
  show OGo p e below (s₁.setTop (mkF m 3 #[.val (.int (4 : Int32)), .val (.int (6 : Int32))] [.null, (.int (6 : Int32)), (.int (4 : Int32))])) _
  refine own_callS X0 hx hZ (y := (⟨"jdk/internal/util/Preconditions", "checkIndex", "(IILjava/util/function/BiFunction;)I"⟩ : MethodName)) hown (hw _ (List.mem_of_getElem? (i := 169) rfl)) (hw _ (List.mem_of_getElem? (i := 155) rfl)) (hw _ (List.mem_of_getElem? (i := 153) rfl)) (hw _ (List.mem_of_getElem? (i := 156) rfl)) (by decide) (W := 0) (own_pci l Z a0 hw [] h0 n0 Z0) e0  (pc := 3) (Ls := #[.val (.int (4 : Int32)), .val (.int (6 : Int32))]) (argsL := [(.int (4 : Int32)), (.int (6 : Int32)), .null]) (rest := []) (by rw [hml]; rfl) (lenOf own_pd9 rfl) rfl (hb hby own_d_jdk_31_method_17_code_3) (by decide) (by decide) (by decide) (by decide) ?_
  intro v210 T210 L210 X210 hQ210
  obtain ⟨rfl, N210, e210⟩ := hQ210
  show OGo p e below (T210.setTop (mkF m 6 #[.val (.int (4 : Int32)), .val (.int (6 : Int32))] [(.int (4 : Int32))])) _
  have Nc210 := Fr.app (Fr.nil n0) N210
  exact own_ret X210 hx hlk hret rfl (Or.inl ⟨rfl, Or.inl rfl, _, rfl⟩) (hb hby own_d_jdk_31_method_17_code_6) ⟨rfl, Nc210, e210⟩ (by decide) (by decide)

set_option maxRecDepth 65536 in
set_option maxHeartbeats 40000000 in
theorem own_ed (l : Launch) (Z : State) (a0 : Array Value) (hw : ∀ d ∈ tables_1, d.before a0 Z = true) (ws : List Jvm.Cond) (a e_ x : Addr) (ke : ClassId) (vs : List Value) (h0 : Heap) (n0 : Nat) (Z0 : n0 ≤ h0.size) (Fe : Fld Z h0 a "java/util/ArrayList" "elementData" "[Ljava/lang/Object;" (.ref e_)) (Ve : Arv Z h0 e_ ke (.object "java/lang/Object") (10 : Int32) vs .null) (hv : vs.getD 4 .null = .ref x) :
    OMet l Z (⟨"java/util/ArrayList", "elementData", "(I)Ljava/lang/Object;"⟩ : MethodName) jdk_38_method_18_code 2 (some (.object "java/lang/Object")) ws ({ frames := 0, cells := 0, slots := 0, locals := 0 } : Room) #[(.ref a), (.int (4 : Int32))] h0 (fun v h L => v = some (.ref x) ∧ Fr n0 L ∧ h = h0) := by
  refine OMet.body (plainFor_of_name own_pn3) ?_
  intro p e s m below meth c s₁ hx hby hml hown hnm hret hlk hZ X0 e0
  refine OGo.step (fun _ kk => castTop (show entryFrame m #[(.ref a), (.int (4 : Int32))] 2 = (mkF m 0 #[.val (.ref a), .val (.int (4 : Int32))] []) from by first | (simp [entryFrame, mkF, argsToLocals, Value.category]; done) | rfl) kk) ?_
  show OGo p e below (s₁.setTop (mkF m 0 #[.val (.ref a), .val (.int (4 : Int32))] [])) _
  obtain ⟨cv, Av, qv, Sv, Mv, Hv, Gv⟩ := id Ve
  refine OGo.step (fun _ kk => XS.aloadN X0.here hx rfl (hb hby own_d_jdk_38_method_18_code_0) rfl rfl kk) ?_
  show OGo p e below (s₁.setTop (mkF m 1 #[.val (.ref a), .val (.int (4 : Int32))] [(.ref a)])) _
  obtain ⟨T211, X211, e211, st211⟩ := getF X0 hx hZ hown (host := "") (Or.inl (hw _ (List.mem_of_getElem? (i := 55) rfl))) Via.refl e0 Fe (g := (mkF m 1 #[.val (.ref a), .val (.int (4 : Int32))] [(.ref a)])) rfl rfl (hb hby own_d_jdk_38_method_18_code_1)
  refine OGo.step st211 ?_
  show OGo p e below (T211.setTop (mkF m 4 #[.val (.ref a), .val (.int (4 : Int32))] [(.ref e_)])) _
  refine OGo.step (fun _ kk => XS.iloadN X211.here hx rfl (hb hby own_d_jdk_38_method_18_code_4) rfl kk) ?_
  show OGo p e below (T211.setTop (mkF m 5 #[.val (.ref a), .val (.int (4 : Int32))] [(.int (4 : Int32)), (.ref e_)])) _
  refine OGo.step (fun _ kk => X211.aaload hx (j := (4 : Int32)) (v := (.ref x)) (by rw [e211]; exact (Av).1) (State.isArrayOf_alike hZ.alike (Av).2.1) rfl (Av).2.2 (inb_of Sv ⟨by decide, by decide⟩) (by rw [← hv]; exact Hv 4 (by rw [Sv]; decide)) (g := (mkF m 5 #[.val (.ref a), .val (.int (4 : Int32))] [(.int (4 : Int32)), (.ref e_)])) rfl rfl (hb hby own_d_jdk_38_method_18_code_5) _ kk) ?_
  show OGo p e below (T211.setTop (mkF m 6 #[.val (.ref a), .val (.int (4 : Int32))] [(.ref x)])) _
  exact own_ret X211 hx hlk hret rfl (Or.inr (Or.inr (Or.inr (Or.inr ⟨rfl, rfl, rfl⟩)))) (hb hby own_d_jdk_38_method_18_code_6) ⟨rfl, Fr.nil n0, e211⟩ (by decide) (by decide)

set_option maxRecDepth 65536 in
set_option maxHeartbeats 40000000 in
theorem own_get (l : Launch) (Z : State) (a0 : Array Value) (hw : ∀ d ∈ tables_1, d.before a0 Z = true) (ws : List Jvm.Cond) (a e_ x : Addr) (ke : ClassId) (vs : List Value) (h0 : Heap) (n0 : Nat) (Z0 : n0 ≤ h0.size) (E1 : Exa Z h0 a "java/util/ArrayList") (Fz : Fld Z h0 a "java/util/ArrayList" "size" "I" (.int (6 : Int32))) (Fe : Fld Z h0 a "java/util/ArrayList" "elementData" "[Ljava/lang/Object;" (.ref e_)) (Ve : Arv Z h0 e_ ke (.object "java/lang/Object") (10 : Int32) vs .null) (hv : vs.getD 4 .null = .ref x) :
    OMet l Z (⟨"java/util/ArrayList", "get", "(I)Ljava/lang/Object;"⟩ : MethodName) jdk_38_method_20_code 2 (some (.object "java/lang/Object")) ws ({ frames := 2, cells := 0, slots := 0, locals := 27 } : Room) #[(.ref a), (.int (4 : Int32))] h0 (fun v h L => v = some (.ref x) ∧ Fr n0 L ∧ h = h0) := by
  refine OMet.body (plainFor_of_name own_pn3) ?_
  intro p e s m below meth c s₁ hx hby hml hown hnm hret hlk hZ X0 e0
  refine OGo.step (fun _ kk => castTop (show entryFrame m #[(.ref a), (.int (4 : Int32))] 2 = (mkF m 0 #[.val (.ref a), .val (.int (4 : Int32))] []) from by first | (simp [entryFrame, mkF, argsToLocals, Value.category]; done) | rfl) kk) ?_
  show OGo p e below (s₁.setTop (mkF m 0 #[.val (.ref a), .val (.int (4 : Int32))] [])) _
  refine OGo.step (fun _ kk => XS.iloadN X0.here hx rfl (hb hby own_d_jdk_38_method_20_code_0) rfl kk) ?_
  refine OGo.step (fun _ kk => XS.aloadN X0.here hx rfl (hb hby own_d_jdk_38_method_20_code_1) rfl rfl kk) ?_
  show OGo p e below (s₁.setTop (mkF m 2 #[.val (.ref a), .val (.int (4 : Int32))] [(.ref a), (.int (4 : Int32))])) _
  obtain ⟨T212, X212, e212, st212⟩ := getF X0 hx hZ hown (host := "") (Or.inl (hw _ (List.mem_of_getElem? (i := 70) rfl))) Via.refl e0 Fz (g := (mkF m 2 #[.val (.ref a), .val (.int (4 : Int32))] [(.ref a), (.int (4 : Int32))])) rfl rfl (hb hby own_d_jdk_38_method_20_code_2)
  refine OGo.step st212 ?_
  show OGo p e below (T212.setTop (mkF m 5 #[.val (.ref a), .val (.int (4 : Int32))] [(.int (6 : Int32)), (.int (4 : Int32))])) _
  refine own_callS X212 hx hZ (y := (⟨"java/util/Objects", "checkIndex", "(II)I"⟩ : MethodName)) hown (hw _ (List.mem_of_getElem? (i := 165) rfl)) (hw _ (List.mem_of_getElem? (i := 166) rfl)) (hw _ (List.mem_of_getElem? (i := 167) rfl)) (hw _ (List.mem_of_getElem? (i := 168) rfl)) (by decide) (W := 0) (own_oci l Z a0 hw [] h0 n0 Z0) e212  (pc := 5) (Ls := #[.val (.ref a), .val (.int (4 : Int32))]) (argsL := [(.int (4 : Int32)), (.int (6 : Int32))]) (rest := []) (by rw [hml]; rfl) (lenOf own_pd5 rfl) rfl (hb hby own_d_jdk_38_method_20_code_5) (by decide) (by decide) (by decide) (by decide) ?_
  intro v213 T213 L213 X213 hQ213
  obtain ⟨rfl, N213, e213⟩ := hQ213
  show OGo p e below (T213.setTop (mkF m 8 #[.val (.ref a), .val (.int (4 : Int32))] [(.int (4 : Int32))])) _
  have Nc213 := Fr.app (Fr.nil n0) N213
  refine OGo.step (fun _ kk => XS.pop X213.here hx rfl (hb hby own_d_jdk_38_method_20_code_8) rfl rfl kk) ?_
  refine OGo.step (fun _ kk => XS.aloadN X213.here hx rfl (hb hby own_d_jdk_38_method_20_code_9) rfl rfl kk) ?_
  refine OGo.step (fun _ kk => XS.iloadN X213.here hx rfl (hb hby own_d_jdk_38_method_20_code_10) rfl kk) ?_
  show OGo p e below (T213.setTop (mkF m 11 #[.val (.ref a), .val (.int (4 : Int32))] [(.int (4 : Int32)), (.ref a)])) _
  refine own_virtual X213 hx hZ (y := (⟨"java/util/ArrayList", "elementData", "(I)Ljava/lang/Object;"⟩ : MethodName)) (z := (⟨"java/util/ArrayList", "elementData", "(I)Ljava/lang/Object;"⟩ : MethodName)) hown (hw _ (List.mem_of_getElem? (i := 170) rfl)) (hw _ (List.mem_of_getElem? (i := 171) rfl)) (notFace_of_selects (args := #[]) (mvT hZ (hw _ (List.mem_of_getElem? (i := 173) rfl)))) (hw _ (List.mem_of_getElem? (i := 173) rfl)) (hw _ (List.mem_of_getElem? (i := 172) rfl)) (by decide) (hw _ (List.mem_of_getElem? (i := 174) rfl)) (hw _ (List.mem_of_getElem? (i := 35) rfl)) (b := a) E1 (W := 0) (own_ed l Z a0 hw [] a e_ x ke vs h0 n0 Z0 Fe Ve hv) e213  (pc := 11) (Ls := #[.val (.ref a), .val (.int (4 : Int32))]) (argsL := [(.int (4 : Int32))]) (rest := []) (by rw [hml]; rfl) (lenOf own_pd10 rfl) rfl (hb hby own_d_jdk_38_method_20_code_11) (by decide) (by decide) (by decide) (by decide) ?_
  intro v214 T214 L214 X214 hQ214
  obtain ⟨rfl, N214, e214⟩ := hQ214
  show OGo p e below (T214.setTop (mkF m 14 #[.val (.ref a), .val (.int (4 : Int32))] [(.ref x)])) _
  have Nc214 := Fr.app Nc213 N214
  exact own_ret X214 hx hlk hret rfl (Or.inr (Or.inr (Or.inr (Or.inr ⟨rfl, rfl, rfl⟩)))) (hb hby own_d_jdk_38_method_20_code_14) ⟨rfl, Nc214, e214⟩ (by decide) (by decide)

set_option maxRecDepth 65536 in
set_option maxHeartbeats 40000000 in
theorem own_one0 (l : Launch) (Z : State) (a0 : Array Value) (hw : ∀ d ∈ tables_1, d.before a0 Z = true) (ws : List Jvm.Cond) (a : Addr) (h0 : Heap) (n0 : Nat) (Z0 : n0 ≤ h0.size) (E1 : Exa Z h0 a "java/util/ArrayList") (Fz : Fld Z h0 a "java/util/ArrayList" "size" "I" (.int (0 : Int32))) :
    OMetW l Z consts_1 (⟨"com/example/tags_to_grants/tagstogrants/cli/TagsToGrants", "isOneRequest", "(Ljava/util/List;)Z"⟩ : MethodName) prog_10_method_5_code 1 (some .boolean) ws ({ frames := 3, cells := 2, slots := 20, locals := 40 } : Room) #[(.ref a)] h0 (fun v h L => v = some (.int (0 : Int32)) ∧ Fr n0 L ∧ Ext h0 h) := by
  refine OMetW.body (plainFor_of_name own_pn6) ?_
  intro p e s m below meth c s₁ hx hby hml hown hnm hret hlk hZ X0 e0 OW0
  have hEL := own_hEL hw
  have wS := own_wS hw
  refine OGo.step (fun _ kk => castTop (show entryFrame m #[(.ref a)] 1 = (mkF m 0 #[.val (.ref a)] []) from by first | (simp [entryFrame, mkF, argsToLocals, Value.category]; done) | rfl) kk) ?_
  show OGo p e below (s₁.setTop (mkF m 0 #[.val (.ref a)] [])) _
  refine OGo.step (fun _ kk => XS.aloadN X0.here hx rfl (hb hby own_d_prog_10_method_5_code_0) rfl rfl kk) ?_
  show OGo p e below (s₁.setTop (mkF m 1 #[.val (.ref a)] [(.ref a)])) _
  refine own_iface X0 hx hZ (y := (⟨"java/util/List", "size", "()I"⟩ : MethodName)) (z := (⟨"java/util/ArrayList", "size", "()I"⟩ : MethodName)) hown (hw _ (List.mem_of_getElem? (i := 61) rfl)) (hw _ (List.mem_of_getElem? (i := 62) rfl)) (mvT hZ (hw _ (List.mem_of_getElem? (i := 63) rfl))) (hw _ (List.mem_of_getElem? (i := 64) rfl)) (hw _ (List.mem_of_getElem? (i := 65) rfl)) (mvT hZ (hw _ (List.mem_of_getElem? (i := 66) rfl))) (mvT hZ (hw _ (List.mem_of_getElem? (i := 67) rfl))) (mvT hZ (hw _ (List.mem_of_getElem? (i := 68) rfl))) (by decide) (hw _ (List.mem_of_getElem? (i := 69) rfl)) (hw _ (List.mem_of_getElem? (i := 35) rfl)) (b := a) E1 (W := 0) (own_size l Z a0 hw [] a _ h0 n0 Z0 Fz) e0  (pc := 1) (Ls := #[.val (.ref a)]) (argsL := []) (rest := []) (by rw [hml]; rfl) (lenOf own_pd2 rfl) rfl (hb hby own_d_prog_10_method_5_code_1) (by decide) (by decide) (by decide) (by decide) ?_
  intro v215 T215 L215 X215 hQ215
  obtain ⟨rfl, N215, e215⟩ := hQ215
  show OGo p e below (T215.setTop (mkF m 6 #[.val (.ref a)] [(.int (0 : Int32))])) _
  have Nc215 := Fr.app (Fr.nil n0) N215
  refine OGo.step (fun _ kk => XS.iconst X215.here hx rfl (hb hby own_d_prog_10_method_5_code_6) kk) ?_
  show OGo p e below (T215.setTop (mkF m 7 #[.val (.ref a)] [(.int (4 : Int32)), (.int (0 : Int32))])) _
  refine OGo.step (fun _ kk => XS.icmpNo X215.here hx rfl (hb hby own_d_prog_10_method_5_code_7) rfl (feq (by decide)).1 kk) ?_
  show OGo p e below (T215.setTop (mkF m 10 #[.val (.ref a)] [])) _
  refine OGo.step (fun _ kk => XS.aloadN X215.here hx rfl (hb hby own_d_prog_10_method_5_code_10) rfl rfl kk) ?_
  show OGo p e below (T215.setTop (mkF m 11 #[.val (.ref a)] [(.ref a)])) _
  refine own_iface X215 hx hZ (y := (⟨"java/util/List", "size", "()I"⟩ : MethodName)) (z := (⟨"java/util/ArrayList", "size", "()I"⟩ : MethodName)) hown (hw _ (List.mem_of_getElem? (i := 61) rfl)) (hw _ (List.mem_of_getElem? (i := 62) rfl)) (mvT hZ (hw _ (List.mem_of_getElem? (i := 63) rfl))) (hw _ (List.mem_of_getElem? (i := 64) rfl)) (hw _ (List.mem_of_getElem? (i := 65) rfl)) (mvT hZ (hw _ (List.mem_of_getElem? (i := 66) rfl))) (mvT hZ (hw _ (List.mem_of_getElem? (i := 67) rfl))) (mvT hZ (hw _ (List.mem_of_getElem? (i := 68) rfl))) (by decide) (hw _ (List.mem_of_getElem? (i := 69) rfl)) (hw _ (List.mem_of_getElem? (i := 35) rfl)) (b := a) E1 (W := 0) (own_size l Z a0 hw [] a _ h0 n0 Z0 Fz) e215  (pc := 11) (Ls := #[.val (.ref a)]) (argsL := []) (rest := []) (by rw [hml]; rfl) (lenOf own_pd2 rfl) rfl (hb hby own_d_prog_10_method_5_code_11) (by decide) (by decide) (by decide) (by decide) ?_
  intro v216 T216 L216 X216 hQ216
  obtain ⟨rfl, N216, e216⟩ := hQ216
  show OGo p e below (T216.setTop (mkF m 16 #[.val (.ref a)] [(.int (0 : Int32))])) _
  have Nc216 := Fr.app Nc215 N216
  refine OGo.step (fun _ kk => XS.bipush X216.here hx rfl (hb hby own_d_prog_10_method_5_code_16) kk) ?_
  show OGo p e below (T216.setTop (mkF m 18 #[.val (.ref a)] [(.int (6 : Int32)), (.int (0 : Int32))])) _
  refine OGo.step (fun _ kk => XS.icmpYes X216.here hx rfl (pc0 := 18) (pc' := 43) rfl (hb hby own_d_prog_10_method_5_code_18) rfl (feq (by decide)).2 (by decide) (by decide) kk) ?_
  show OGo p e below (T216.setTop (mkF m 43 #[.val (.ref a)] [])) _
  refine OGo.step (fun _ kk => XS.iconst X216.here hx rfl (hb hby own_d_prog_10_method_5_code_43) kk) ?_
  show OGo p e below (T216.setTop (mkF m 44 #[.val (.ref a)] [(.int (0 : Int32))])) _
  exact own_retNW X216 hx hlk hEL OW0 e216 hret (by simp) (hb hby own_d_prog_10_method_5_code_44) (by rw [e216]; exact ⟨by rw [own_nar0], Nc216, own_ext_refl _⟩) (by decide) (by decide)

set_option maxRecDepth 65536 in
set_option maxHeartbeats 40000000 in
theorem own_one1 (l : Launch) (Z : State) (a0 : Array Value) (hw : ∀ d ∈ tables_1, d.before a0 Z = true) (ws : List Jvm.Cond) (a : Addr) (h0 : Heap) (n0 : Nat) (Z0 : n0 ≤ h0.size) (E1 : Exa Z h0 a "java/util/ArrayList") (Fz : Fld Z h0 a "java/util/ArrayList" "size" "I" (.int (1 : Int32))) :
    OMetW l Z consts_1 (⟨"com/example/tags_to_grants/tagstogrants/cli/TagsToGrants", "isOneRequest", "(Ljava/util/List;)Z"⟩ : MethodName) prog_10_method_5_code 1 (some .boolean) ws ({ frames := 3, cells := 2, slots := 20, locals := 40 } : Room) #[(.ref a)] h0 (fun v h L => v = some (.int (0 : Int32)) ∧ Fr n0 L ∧ Ext h0 h) := by
  refine OMetW.body (plainFor_of_name own_pn6) ?_
  intro p e s m below meth c s₁ hx hby hml hown hnm hret hlk hZ X0 e0 OW0
  have hEL := own_hEL hw
  have wS := own_wS hw
  refine OGo.step (fun _ kk => castTop (show entryFrame m #[(.ref a)] 1 = (mkF m 0 #[.val (.ref a)] []) from by first | (simp [entryFrame, mkF, argsToLocals, Value.category]; done) | rfl) kk) ?_
  show OGo p e below (s₁.setTop (mkF m 0 #[.val (.ref a)] [])) _
  refine OGo.step (fun _ kk => XS.aloadN X0.here hx rfl (hb hby own_d_prog_10_method_5_code_0) rfl rfl kk) ?_
  show OGo p e below (s₁.setTop (mkF m 1 #[.val (.ref a)] [(.ref a)])) _
  refine own_iface X0 hx hZ (y := (⟨"java/util/List", "size", "()I"⟩ : MethodName)) (z := (⟨"java/util/ArrayList", "size", "()I"⟩ : MethodName)) hown (hw _ (List.mem_of_getElem? (i := 61) rfl)) (hw _ (List.mem_of_getElem? (i := 62) rfl)) (mvT hZ (hw _ (List.mem_of_getElem? (i := 63) rfl))) (hw _ (List.mem_of_getElem? (i := 64) rfl)) (hw _ (List.mem_of_getElem? (i := 65) rfl)) (mvT hZ (hw _ (List.mem_of_getElem? (i := 66) rfl))) (mvT hZ (hw _ (List.mem_of_getElem? (i := 67) rfl))) (mvT hZ (hw _ (List.mem_of_getElem? (i := 68) rfl))) (by decide) (hw _ (List.mem_of_getElem? (i := 69) rfl)) (hw _ (List.mem_of_getElem? (i := 35) rfl)) (b := a) E1 (W := 0) (own_size l Z a0 hw [] a _ h0 n0 Z0 Fz) e0  (pc := 1) (Ls := #[.val (.ref a)]) (argsL := []) (rest := []) (by rw [hml]; rfl) (lenOf own_pd2 rfl) rfl (hb hby own_d_prog_10_method_5_code_1) (by decide) (by decide) (by decide) (by decide) ?_
  intro v217 T217 L217 X217 hQ217
  obtain ⟨rfl, N217, e217⟩ := hQ217
  show OGo p e below (T217.setTop (mkF m 6 #[.val (.ref a)] [(.int (1 : Int32))])) _
  have Nc217 := Fr.app (Fr.nil n0) N217
  refine OGo.step (fun _ kk => XS.iconst X217.here hx rfl (hb hby own_d_prog_10_method_5_code_6) kk) ?_
  show OGo p e below (T217.setTop (mkF m 7 #[.val (.ref a)] [(.int (4 : Int32)), (.int (1 : Int32))])) _
  refine OGo.step (fun _ kk => XS.icmpNo X217.here hx rfl (hb hby own_d_prog_10_method_5_code_7) rfl (feq (by decide)).1 kk) ?_
  show OGo p e below (T217.setTop (mkF m 10 #[.val (.ref a)] [])) _
  refine OGo.step (fun _ kk => XS.aloadN X217.here hx rfl (hb hby own_d_prog_10_method_5_code_10) rfl rfl kk) ?_
  show OGo p e below (T217.setTop (mkF m 11 #[.val (.ref a)] [(.ref a)])) _
  refine own_iface X217 hx hZ (y := (⟨"java/util/List", "size", "()I"⟩ : MethodName)) (z := (⟨"java/util/ArrayList", "size", "()I"⟩ : MethodName)) hown (hw _ (List.mem_of_getElem? (i := 61) rfl)) (hw _ (List.mem_of_getElem? (i := 62) rfl)) (mvT hZ (hw _ (List.mem_of_getElem? (i := 63) rfl))) (hw _ (List.mem_of_getElem? (i := 64) rfl)) (hw _ (List.mem_of_getElem? (i := 65) rfl)) (mvT hZ (hw _ (List.mem_of_getElem? (i := 66) rfl))) (mvT hZ (hw _ (List.mem_of_getElem? (i := 67) rfl))) (mvT hZ (hw _ (List.mem_of_getElem? (i := 68) rfl))) (by decide) (hw _ (List.mem_of_getElem? (i := 69) rfl)) (hw _ (List.mem_of_getElem? (i := 35) rfl)) (b := a) E1 (W := 0) (own_size l Z a0 hw [] a _ h0 n0 Z0 Fz) e217  (pc := 11) (Ls := #[.val (.ref a)]) (argsL := []) (rest := []) (by rw [hml]; rfl) (lenOf own_pd2 rfl) rfl (hb hby own_d_prog_10_method_5_code_11) (by decide) (by decide) (by decide) (by decide) ?_
  intro v218 T218 L218 X218 hQ218
  obtain ⟨rfl, N218, e218⟩ := hQ218
  show OGo p e below (T218.setTop (mkF m 16 #[.val (.ref a)] [(.int (1 : Int32))])) _
  have Nc218 := Fr.app Nc217 N218
  refine OGo.step (fun _ kk => XS.bipush X218.here hx rfl (hb hby own_d_prog_10_method_5_code_16) kk) ?_
  show OGo p e below (T218.setTop (mkF m 18 #[.val (.ref a)] [(.int (6 : Int32)), (.int (1 : Int32))])) _
  refine OGo.step (fun _ kk => XS.icmpYes X218.here hx rfl (pc0 := 18) (pc' := 43) rfl (hb hby own_d_prog_10_method_5_code_18) rfl (feq (by decide)).2 (by decide) (by decide) kk) ?_
  show OGo p e below (T218.setTop (mkF m 43 #[.val (.ref a)] [])) _
  refine OGo.step (fun _ kk => XS.iconst X218.here hx rfl (hb hby own_d_prog_10_method_5_code_43) kk) ?_
  show OGo p e below (T218.setTop (mkF m 44 #[.val (.ref a)] [(.int (0 : Int32))])) _
  exact own_retNW X218 hx hlk hEL OW0 e218 hret (by simp) (hb hby own_d_prog_10_method_5_code_44) (by rw [e218]; exact ⟨by rw [own_nar0], Nc218, own_ext_refl _⟩) (by decide) (by decide)

set_option maxRecDepth 65536 in
set_option maxHeartbeats 40000000 in
theorem own_one2 (l : Launch) (Z : State) (a0 : Array Value) (hw : ∀ d ∈ tables_1, d.before a0 Z = true) (ws : List Jvm.Cond) (a : Addr) (h0 : Heap) (n0 : Nat) (Z0 : n0 ≤ h0.size) (E1 : Exa Z h0 a "java/util/ArrayList") (Fz : Fld Z h0 a "java/util/ArrayList" "size" "I" (.int (2 : Int32))) :
    OMetW l Z consts_1 (⟨"com/example/tags_to_grants/tagstogrants/cli/TagsToGrants", "isOneRequest", "(Ljava/util/List;)Z"⟩ : MethodName) prog_10_method_5_code 1 (some .boolean) ws ({ frames := 3, cells := 2, slots := 20, locals := 40 } : Room) #[(.ref a)] h0 (fun v h L => v = some (.int (0 : Int32)) ∧ Fr n0 L ∧ Ext h0 h) := by
  refine OMetW.body (plainFor_of_name own_pn6) ?_
  intro p e s m below meth c s₁ hx hby hml hown hnm hret hlk hZ X0 e0 OW0
  have hEL := own_hEL hw
  have wS := own_wS hw
  refine OGo.step (fun _ kk => castTop (show entryFrame m #[(.ref a)] 1 = (mkF m 0 #[.val (.ref a)] []) from by first | (simp [entryFrame, mkF, argsToLocals, Value.category]; done) | rfl) kk) ?_
  show OGo p e below (s₁.setTop (mkF m 0 #[.val (.ref a)] [])) _
  refine OGo.step (fun _ kk => XS.aloadN X0.here hx rfl (hb hby own_d_prog_10_method_5_code_0) rfl rfl kk) ?_
  show OGo p e below (s₁.setTop (mkF m 1 #[.val (.ref a)] [(.ref a)])) _
  refine own_iface X0 hx hZ (y := (⟨"java/util/List", "size", "()I"⟩ : MethodName)) (z := (⟨"java/util/ArrayList", "size", "()I"⟩ : MethodName)) hown (hw _ (List.mem_of_getElem? (i := 61) rfl)) (hw _ (List.mem_of_getElem? (i := 62) rfl)) (mvT hZ (hw _ (List.mem_of_getElem? (i := 63) rfl))) (hw _ (List.mem_of_getElem? (i := 64) rfl)) (hw _ (List.mem_of_getElem? (i := 65) rfl)) (mvT hZ (hw _ (List.mem_of_getElem? (i := 66) rfl))) (mvT hZ (hw _ (List.mem_of_getElem? (i := 67) rfl))) (mvT hZ (hw _ (List.mem_of_getElem? (i := 68) rfl))) (by decide) (hw _ (List.mem_of_getElem? (i := 69) rfl)) (hw _ (List.mem_of_getElem? (i := 35) rfl)) (b := a) E1 (W := 0) (own_size l Z a0 hw [] a _ h0 n0 Z0 Fz) e0  (pc := 1) (Ls := #[.val (.ref a)]) (argsL := []) (rest := []) (by rw [hml]; rfl) (lenOf own_pd2 rfl) rfl (hb hby own_d_prog_10_method_5_code_1) (by decide) (by decide) (by decide) (by decide) ?_
  intro v219 T219 L219 X219 hQ219
  obtain ⟨rfl, N219, e219⟩ := hQ219
  show OGo p e below (T219.setTop (mkF m 6 #[.val (.ref a)] [(.int (2 : Int32))])) _
  have Nc219 := Fr.app (Fr.nil n0) N219
  refine OGo.step (fun _ kk => XS.iconst X219.here hx rfl (hb hby own_d_prog_10_method_5_code_6) kk) ?_
  show OGo p e below (T219.setTop (mkF m 7 #[.val (.ref a)] [(.int (4 : Int32)), (.int (2 : Int32))])) _
  refine OGo.step (fun _ kk => XS.icmpNo X219.here hx rfl (hb hby own_d_prog_10_method_5_code_7) rfl (feq (by decide)).1 kk) ?_
  show OGo p e below (T219.setTop (mkF m 10 #[.val (.ref a)] [])) _
  refine OGo.step (fun _ kk => XS.aloadN X219.here hx rfl (hb hby own_d_prog_10_method_5_code_10) rfl rfl kk) ?_
  show OGo p e below (T219.setTop (mkF m 11 #[.val (.ref a)] [(.ref a)])) _
  refine own_iface X219 hx hZ (y := (⟨"java/util/List", "size", "()I"⟩ : MethodName)) (z := (⟨"java/util/ArrayList", "size", "()I"⟩ : MethodName)) hown (hw _ (List.mem_of_getElem? (i := 61) rfl)) (hw _ (List.mem_of_getElem? (i := 62) rfl)) (mvT hZ (hw _ (List.mem_of_getElem? (i := 63) rfl))) (hw _ (List.mem_of_getElem? (i := 64) rfl)) (hw _ (List.mem_of_getElem? (i := 65) rfl)) (mvT hZ (hw _ (List.mem_of_getElem? (i := 66) rfl))) (mvT hZ (hw _ (List.mem_of_getElem? (i := 67) rfl))) (mvT hZ (hw _ (List.mem_of_getElem? (i := 68) rfl))) (by decide) (hw _ (List.mem_of_getElem? (i := 69) rfl)) (hw _ (List.mem_of_getElem? (i := 35) rfl)) (b := a) E1 (W := 0) (own_size l Z a0 hw [] a _ h0 n0 Z0 Fz) e219  (pc := 11) (Ls := #[.val (.ref a)]) (argsL := []) (rest := []) (by rw [hml]; rfl) (lenOf own_pd2 rfl) rfl (hb hby own_d_prog_10_method_5_code_11) (by decide) (by decide) (by decide) (by decide) ?_
  intro v220 T220 L220 X220 hQ220
  obtain ⟨rfl, N220, e220⟩ := hQ220
  show OGo p e below (T220.setTop (mkF m 16 #[.val (.ref a)] [(.int (2 : Int32))])) _
  have Nc220 := Fr.app Nc219 N220
  refine OGo.step (fun _ kk => XS.bipush X220.here hx rfl (hb hby own_d_prog_10_method_5_code_16) kk) ?_
  show OGo p e below (T220.setTop (mkF m 18 #[.val (.ref a)] [(.int (6 : Int32)), (.int (2 : Int32))])) _
  refine OGo.step (fun _ kk => XS.icmpYes X220.here hx rfl (pc0 := 18) (pc' := 43) rfl (hb hby own_d_prog_10_method_5_code_18) rfl (feq (by decide)).2 (by decide) (by decide) kk) ?_
  show OGo p e below (T220.setTop (mkF m 43 #[.val (.ref a)] [])) _
  refine OGo.step (fun _ kk => XS.iconst X220.here hx rfl (hb hby own_d_prog_10_method_5_code_43) kk) ?_
  show OGo p e below (T220.setTop (mkF m 44 #[.val (.ref a)] [(.int (0 : Int32))])) _
  exact own_retNW X220 hx hlk hEL OW0 e220 hret (by simp) (hb hby own_d_prog_10_method_5_code_44) (by rw [e220]; exact ⟨by rw [own_nar0], Nc220, own_ext_refl _⟩) (by decide) (by decide)

set_option maxRecDepth 65536 in
set_option maxHeartbeats 40000000 in
theorem own_one3 (l : Launch) (Z : State) (a0 : Array Value) (hw : ∀ d ∈ tables_1, d.before a0 Z = true) (ws : List Jvm.Cond) (a : Addr) (h0 : Heap) (n0 : Nat) (Z0 : n0 ≤ h0.size) (E1 : Exa Z h0 a "java/util/ArrayList") (Fz : Fld Z h0 a "java/util/ArrayList" "size" "I" (.int (3 : Int32))) :
    OMetW l Z consts_1 (⟨"com/example/tags_to_grants/tagstogrants/cli/TagsToGrants", "isOneRequest", "(Ljava/util/List;)Z"⟩ : MethodName) prog_10_method_5_code 1 (some .boolean) ws ({ frames := 3, cells := 2, slots := 20, locals := 40 } : Room) #[(.ref a)] h0 (fun v h L => v = some (.int (0 : Int32)) ∧ Fr n0 L ∧ Ext h0 h) := by
  refine OMetW.body (plainFor_of_name own_pn6) ?_
  intro p e s m below meth c s₁ hx hby hml hown hnm hret hlk hZ X0 e0 OW0
  have hEL := own_hEL hw
  have wS := own_wS hw
  refine OGo.step (fun _ kk => castTop (show entryFrame m #[(.ref a)] 1 = (mkF m 0 #[.val (.ref a)] []) from by first | (simp [entryFrame, mkF, argsToLocals, Value.category]; done) | rfl) kk) ?_
  show OGo p e below (s₁.setTop (mkF m 0 #[.val (.ref a)] [])) _
  refine OGo.step (fun _ kk => XS.aloadN X0.here hx rfl (hb hby own_d_prog_10_method_5_code_0) rfl rfl kk) ?_
  show OGo p e below (s₁.setTop (mkF m 1 #[.val (.ref a)] [(.ref a)])) _
  refine own_iface X0 hx hZ (y := (⟨"java/util/List", "size", "()I"⟩ : MethodName)) (z := (⟨"java/util/ArrayList", "size", "()I"⟩ : MethodName)) hown (hw _ (List.mem_of_getElem? (i := 61) rfl)) (hw _ (List.mem_of_getElem? (i := 62) rfl)) (mvT hZ (hw _ (List.mem_of_getElem? (i := 63) rfl))) (hw _ (List.mem_of_getElem? (i := 64) rfl)) (hw _ (List.mem_of_getElem? (i := 65) rfl)) (mvT hZ (hw _ (List.mem_of_getElem? (i := 66) rfl))) (mvT hZ (hw _ (List.mem_of_getElem? (i := 67) rfl))) (mvT hZ (hw _ (List.mem_of_getElem? (i := 68) rfl))) (by decide) (hw _ (List.mem_of_getElem? (i := 69) rfl)) (hw _ (List.mem_of_getElem? (i := 35) rfl)) (b := a) E1 (W := 0) (own_size l Z a0 hw [] a _ h0 n0 Z0 Fz) e0  (pc := 1) (Ls := #[.val (.ref a)]) (argsL := []) (rest := []) (by rw [hml]; rfl) (lenOf own_pd2 rfl) rfl (hb hby own_d_prog_10_method_5_code_1) (by decide) (by decide) (by decide) (by decide) ?_
  intro v221 T221 L221 X221 hQ221
  obtain ⟨rfl, N221, e221⟩ := hQ221
  show OGo p e below (T221.setTop (mkF m 6 #[.val (.ref a)] [(.int (3 : Int32))])) _
  have Nc221 := Fr.app (Fr.nil n0) N221
  refine OGo.step (fun _ kk => XS.iconst X221.here hx rfl (hb hby own_d_prog_10_method_5_code_6) kk) ?_
  show OGo p e below (T221.setTop (mkF m 7 #[.val (.ref a)] [(.int (4 : Int32)), (.int (3 : Int32))])) _
  refine OGo.step (fun _ kk => XS.icmpNo X221.here hx rfl (hb hby own_d_prog_10_method_5_code_7) rfl (feq (by decide)).1 kk) ?_
  show OGo p e below (T221.setTop (mkF m 10 #[.val (.ref a)] [])) _
  refine OGo.step (fun _ kk => XS.aloadN X221.here hx rfl (hb hby own_d_prog_10_method_5_code_10) rfl rfl kk) ?_
  show OGo p e below (T221.setTop (mkF m 11 #[.val (.ref a)] [(.ref a)])) _
  refine own_iface X221 hx hZ (y := (⟨"java/util/List", "size", "()I"⟩ : MethodName)) (z := (⟨"java/util/ArrayList", "size", "()I"⟩ : MethodName)) hown (hw _ (List.mem_of_getElem? (i := 61) rfl)) (hw _ (List.mem_of_getElem? (i := 62) rfl)) (mvT hZ (hw _ (List.mem_of_getElem? (i := 63) rfl))) (hw _ (List.mem_of_getElem? (i := 64) rfl)) (hw _ (List.mem_of_getElem? (i := 65) rfl)) (mvT hZ (hw _ (List.mem_of_getElem? (i := 66) rfl))) (mvT hZ (hw _ (List.mem_of_getElem? (i := 67) rfl))) (mvT hZ (hw _ (List.mem_of_getElem? (i := 68) rfl))) (by decide) (hw _ (List.mem_of_getElem? (i := 69) rfl)) (hw _ (List.mem_of_getElem? (i := 35) rfl)) (b := a) E1 (W := 0) (own_size l Z a0 hw [] a _ h0 n0 Z0 Fz) e221  (pc := 11) (Ls := #[.val (.ref a)]) (argsL := []) (rest := []) (by rw [hml]; rfl) (lenOf own_pd2 rfl) rfl (hb hby own_d_prog_10_method_5_code_11) (by decide) (by decide) (by decide) (by decide) ?_
  intro v222 T222 L222 X222 hQ222
  obtain ⟨rfl, N222, e222⟩ := hQ222
  show OGo p e below (T222.setTop (mkF m 16 #[.val (.ref a)] [(.int (3 : Int32))])) _
  have Nc222 := Fr.app Nc221 N222
  refine OGo.step (fun _ kk => XS.bipush X222.here hx rfl (hb hby own_d_prog_10_method_5_code_16) kk) ?_
  show OGo p e below (T222.setTop (mkF m 18 #[.val (.ref a)] [(.int (6 : Int32)), (.int (3 : Int32))])) _
  refine OGo.step (fun _ kk => XS.icmpYes X222.here hx rfl (pc0 := 18) (pc' := 43) rfl (hb hby own_d_prog_10_method_5_code_18) rfl (feq (by decide)).2 (by decide) (by decide) kk) ?_
  show OGo p e below (T222.setTop (mkF m 43 #[.val (.ref a)] [])) _
  refine OGo.step (fun _ kk => XS.iconst X222.here hx rfl (hb hby own_d_prog_10_method_5_code_43) kk) ?_
  show OGo p e below (T222.setTop (mkF m 44 #[.val (.ref a)] [(.int (0 : Int32))])) _
  exact own_retNW X222 hx hlk hEL OW0 e222 hret (by simp) (hb hby own_d_prog_10_method_5_code_44) (by rw [e222]; exact ⟨by rw [own_nar0], Nc222, own_ext_refl _⟩) (by decide) (by decide)

set_option maxRecDepth 65536 in
set_option maxHeartbeats 40000000 in
theorem own_one4 (l : Launch) (Z : State) (a0 : Array Value) (hw : ∀ d ∈ tables_1, d.before a0 Z = true) (ws : List Jvm.Cond) (a : Addr) (h0 : Heap) (n0 : Nat) (Z0 : n0 ≤ h0.size) (E1 : Exa Z h0 a "java/util/ArrayList") (Fz : Fld Z h0 a "java/util/ArrayList" "size" "I" (.int (4 : Int32))) :
    OMetW l Z consts_1 (⟨"com/example/tags_to_grants/tagstogrants/cli/TagsToGrants", "isOneRequest", "(Ljava/util/List;)Z"⟩ : MethodName) prog_10_method_5_code 1 (some .boolean) ws ({ frames := 3, cells := 2, slots := 20, locals := 40 } : Room) #[(.ref a)] h0 (fun v h L => v = some (.int (1 : Int32)) ∧ Fr n0 L ∧ Ext h0 h) := by
  refine OMetW.body (plainFor_of_name own_pn6) ?_
  intro p e s m below meth c s₁ hx hby hml hown hnm hret hlk hZ X0 e0 OW0
  have hEL := own_hEL hw
  have wS := own_wS hw
  refine OGo.step (fun _ kk => castTop (show entryFrame m #[(.ref a)] 1 = (mkF m 0 #[.val (.ref a)] []) from by first | (simp [entryFrame, mkF, argsToLocals, Value.category]; done) | rfl) kk) ?_
  show OGo p e below (s₁.setTop (mkF m 0 #[.val (.ref a)] [])) _
  refine OGo.step (fun _ kk => XS.aloadN X0.here hx rfl (hb hby own_d_prog_10_method_5_code_0) rfl rfl kk) ?_
  show OGo p e below (s₁.setTop (mkF m 1 #[.val (.ref a)] [(.ref a)])) _
  refine own_iface X0 hx hZ (y := (⟨"java/util/List", "size", "()I"⟩ : MethodName)) (z := (⟨"java/util/ArrayList", "size", "()I"⟩ : MethodName)) hown (hw _ (List.mem_of_getElem? (i := 61) rfl)) (hw _ (List.mem_of_getElem? (i := 62) rfl)) (mvT hZ (hw _ (List.mem_of_getElem? (i := 63) rfl))) (hw _ (List.mem_of_getElem? (i := 64) rfl)) (hw _ (List.mem_of_getElem? (i := 65) rfl)) (mvT hZ (hw _ (List.mem_of_getElem? (i := 66) rfl))) (mvT hZ (hw _ (List.mem_of_getElem? (i := 67) rfl))) (mvT hZ (hw _ (List.mem_of_getElem? (i := 68) rfl))) (by decide) (hw _ (List.mem_of_getElem? (i := 69) rfl)) (hw _ (List.mem_of_getElem? (i := 35) rfl)) (b := a) E1 (W := 0) (own_size l Z a0 hw [] a _ h0 n0 Z0 Fz) e0  (pc := 1) (Ls := #[.val (.ref a)]) (argsL := []) (rest := []) (by rw [hml]; rfl) (lenOf own_pd2 rfl) rfl (hb hby own_d_prog_10_method_5_code_1) (by decide) (by decide) (by decide) (by decide) ?_
  intro v223 T223 L223 X223 hQ223
  obtain ⟨rfl, N223, e223⟩ := hQ223
  show OGo p e below (T223.setTop (mkF m 6 #[.val (.ref a)] [(.int (4 : Int32))])) _
  have Nc223 := Fr.app (Fr.nil n0) N223
  refine OGo.step (fun _ kk => XS.iconst X223.here hx rfl (hb hby own_d_prog_10_method_5_code_6) kk) ?_
  show OGo p e below (T223.setTop (mkF m 7 #[.val (.ref a)] [(.int (4 : Int32)), (.int (4 : Int32))])) _
  refine OGo.step (fun _ kk => XS.icmpYes X223.here hx rfl (pc0 := 7) (pc' := 39) rfl (hb hby own_d_prog_10_method_5_code_7) rfl (teq rfl).1 (by decide) (by decide) kk) ?_
  show OGo p e below (T223.setTop (mkF m 39 #[.val (.ref a)] [])) _
  refine OGo.step (fun _ kk => XS.iconst X223.here hx rfl (hb hby own_d_prog_10_method_5_code_39) kk) ?_
  refine OGo.step (fun _ kk => XS.goto X223.here hx rfl (pc0 := 40) (pc' := 44) rfl (hb hby own_d_prog_10_method_5_code_40) (by decide) (by decide) kk) ?_
  show OGo p e below (T223.setTop (mkF m 44 #[.val (.ref a)] [(.int (1 : Int32))])) _
  exact own_retNW X223 hx hlk hEL OW0 e223 hret (by simp) (hb hby own_d_prog_10_method_5_code_44) (by rw [e223]; exact ⟨by rw [own_nar1], Nc223, own_ext_refl _⟩) (by decide) (by decide)

set_option maxRecDepth 65536 in
set_option maxHeartbeats 40000000 in
theorem own_one5 (l : Launch) (Z : State) (a0 : Array Value) (hw : ∀ d ∈ tables_1, d.before a0 Z = true) (ws : List Jvm.Cond) (a : Addr) (h0 : Heap) (n0 : Nat) (Z0 : n0 ≤ h0.size) (E1 : Exa Z h0 a "java/util/ArrayList") (Fz : Fld Z h0 a "java/util/ArrayList" "size" "I" (.int (5 : Int32))) :
    OMetW l Z consts_1 (⟨"com/example/tags_to_grants/tagstogrants/cli/TagsToGrants", "isOneRequest", "(Ljava/util/List;)Z"⟩ : MethodName) prog_10_method_5_code 1 (some .boolean) ws ({ frames := 3, cells := 2, slots := 20, locals := 40 } : Room) #[(.ref a)] h0 (fun v h L => v = some (.int (0 : Int32)) ∧ Fr n0 L ∧ Ext h0 h) := by
  refine OMetW.body (plainFor_of_name own_pn6) ?_
  intro p e s m below meth c s₁ hx hby hml hown hnm hret hlk hZ X0 e0 OW0
  have hEL := own_hEL hw
  have wS := own_wS hw
  refine OGo.step (fun _ kk => castTop (show entryFrame m #[(.ref a)] 1 = (mkF m 0 #[.val (.ref a)] []) from by first | (simp [entryFrame, mkF, argsToLocals, Value.category]; done) | rfl) kk) ?_
  show OGo p e below (s₁.setTop (mkF m 0 #[.val (.ref a)] [])) _
  refine OGo.step (fun _ kk => XS.aloadN X0.here hx rfl (hb hby own_d_prog_10_method_5_code_0) rfl rfl kk) ?_
  show OGo p e below (s₁.setTop (mkF m 1 #[.val (.ref a)] [(.ref a)])) _
  refine own_iface X0 hx hZ (y := (⟨"java/util/List", "size", "()I"⟩ : MethodName)) (z := (⟨"java/util/ArrayList", "size", "()I"⟩ : MethodName)) hown (hw _ (List.mem_of_getElem? (i := 61) rfl)) (hw _ (List.mem_of_getElem? (i := 62) rfl)) (mvT hZ (hw _ (List.mem_of_getElem? (i := 63) rfl))) (hw _ (List.mem_of_getElem? (i := 64) rfl)) (hw _ (List.mem_of_getElem? (i := 65) rfl)) (mvT hZ (hw _ (List.mem_of_getElem? (i := 66) rfl))) (mvT hZ (hw _ (List.mem_of_getElem? (i := 67) rfl))) (mvT hZ (hw _ (List.mem_of_getElem? (i := 68) rfl))) (by decide) (hw _ (List.mem_of_getElem? (i := 69) rfl)) (hw _ (List.mem_of_getElem? (i := 35) rfl)) (b := a) E1 (W := 0) (own_size l Z a0 hw [] a _ h0 n0 Z0 Fz) e0  (pc := 1) (Ls := #[.val (.ref a)]) (argsL := []) (rest := []) (by rw [hml]; rfl) (lenOf own_pd2 rfl) rfl (hb hby own_d_prog_10_method_5_code_1) (by decide) (by decide) (by decide) (by decide) ?_
  intro v224 T224 L224 X224 hQ224
  obtain ⟨rfl, N224, e224⟩ := hQ224
  show OGo p e below (T224.setTop (mkF m 6 #[.val (.ref a)] [(.int (5 : Int32))])) _
  have Nc224 := Fr.app (Fr.nil n0) N224
  refine OGo.step (fun _ kk => XS.iconst X224.here hx rfl (hb hby own_d_prog_10_method_5_code_6) kk) ?_
  show OGo p e below (T224.setTop (mkF m 7 #[.val (.ref a)] [(.int (4 : Int32)), (.int (5 : Int32))])) _
  refine OGo.step (fun _ kk => XS.icmpNo X224.here hx rfl (hb hby own_d_prog_10_method_5_code_7) rfl (feq (by decide)).1 kk) ?_
  show OGo p e below (T224.setTop (mkF m 10 #[.val (.ref a)] [])) _
  refine OGo.step (fun _ kk => XS.aloadN X224.here hx rfl (hb hby own_d_prog_10_method_5_code_10) rfl rfl kk) ?_
  show OGo p e below (T224.setTop (mkF m 11 #[.val (.ref a)] [(.ref a)])) _
  refine own_iface X224 hx hZ (y := (⟨"java/util/List", "size", "()I"⟩ : MethodName)) (z := (⟨"java/util/ArrayList", "size", "()I"⟩ : MethodName)) hown (hw _ (List.mem_of_getElem? (i := 61) rfl)) (hw _ (List.mem_of_getElem? (i := 62) rfl)) (mvT hZ (hw _ (List.mem_of_getElem? (i := 63) rfl))) (hw _ (List.mem_of_getElem? (i := 64) rfl)) (hw _ (List.mem_of_getElem? (i := 65) rfl)) (mvT hZ (hw _ (List.mem_of_getElem? (i := 66) rfl))) (mvT hZ (hw _ (List.mem_of_getElem? (i := 67) rfl))) (mvT hZ (hw _ (List.mem_of_getElem? (i := 68) rfl))) (by decide) (hw _ (List.mem_of_getElem? (i := 69) rfl)) (hw _ (List.mem_of_getElem? (i := 35) rfl)) (b := a) E1 (W := 0) (own_size l Z a0 hw [] a _ h0 n0 Z0 Fz) e224  (pc := 11) (Ls := #[.val (.ref a)]) (argsL := []) (rest := []) (by rw [hml]; rfl) (lenOf own_pd2 rfl) rfl (hb hby own_d_prog_10_method_5_code_11) (by decide) (by decide) (by decide) (by decide) ?_
  intro v225 T225 L225 X225 hQ225
  obtain ⟨rfl, N225, e225⟩ := hQ225
  show OGo p e below (T225.setTop (mkF m 16 #[.val (.ref a)] [(.int (5 : Int32))])) _
  have Nc225 := Fr.app Nc224 N225
  refine OGo.step (fun _ kk => XS.bipush X225.here hx rfl (hb hby own_d_prog_10_method_5_code_16) kk) ?_
  show OGo p e below (T225.setTop (mkF m 18 #[.val (.ref a)] [(.int (6 : Int32)), (.int (5 : Int32))])) _
  refine OGo.step (fun _ kk => XS.icmpYes X225.here hx rfl (pc0 := 18) (pc' := 43) rfl (hb hby own_d_prog_10_method_5_code_18) rfl (feq (by decide)).2 (by decide) (by decide) kk) ?_
  show OGo p e below (T225.setTop (mkF m 43 #[.val (.ref a)] [])) _
  refine OGo.step (fun _ kk => XS.iconst X225.here hx rfl (hb hby own_d_prog_10_method_5_code_43) kk) ?_
  show OGo p e below (T225.setTop (mkF m 44 #[.val (.ref a)] [(.int (0 : Int32))])) _
  exact own_retNW X225 hx hlk hEL OW0 e225 hret (by simp) (hb hby own_d_prog_10_method_5_code_44) (by rw [e225]; exact ⟨by rw [own_nar0], Nc225, own_ext_refl _⟩) (by decide) (by decide)

set_option maxRecDepth 65536 in
set_option maxHeartbeats 40000000 in
theorem own_one6 (l : Launch) (Z : State) (a0 : Array Value) (hw : ∀ d ∈ tables_1, d.before a0 Z = true) (ws : List Jvm.Cond) (a e_ x : Addr) (ke : ClassId) (vs : List Value) (cs : List Int32) (zc : Int32) (h0 : Heap) (n0 : Nat) (Z0 : n0 ≤ h0.size) (SC : Sta Z h0 "java/lang/String" "COMPACT_STRINGS" "Z" (.int zc)) (hzc : ¬ zc = 0) (E1 : Exa Z h0 a "java/util/ArrayList") (Fz : Fld Z h0 a "java/util/ArrayList" "size" "I" (.int (6 : Int32))) (Fe : Fld Z h0 a "java/util/ArrayList" "elementData" "[Ljava/lang/Object;" (.ref e_)) (Ve : Arv Z h0 e_ ke (.object "java/lang/Object") (10 : Int32) vs .null) (hv : vs.getD 4 .null = .ref x) (G : OStr Z h0 x cs) :
    OMetW l Z consts_1 (⟨"com/example/tags_to_grants/tagstogrants/cli/TagsToGrants", "isOneRequest", "(Ljava/util/List;)Z"⟩ : MethodName) prog_10_method_5_code 1 (some .boolean) ws ({ frames := 3, cells := 2, slots := 20, locals := 40 } : Room) #[(.ref a)] h0 (fun v h L => v = some (.int ((if cs = ([45, 45, 97, 115] : List Int32) then (1 : Int32) else 0) : Int32)) ∧ Fr n0 L ∧ Ext h0 h) := by
  refine OMetW.body (plainFor_of_name own_pn6) ?_
  intro p e s m below meth c s₁ hx hby hml hown hnm hret hlk hZ X0 e0 OW0
  have hEL := own_hEL hw
  have wS := own_wS hw
  refine OGo.step (fun _ kk => castTop (show entryFrame m #[(.ref a)] 1 = (mkF m 0 #[.val (.ref a)] []) from by first | (simp [entryFrame, mkF, argsToLocals, Value.category]; done) | rfl) kk) ?_
  show OGo p e below (s₁.setTop (mkF m 0 #[.val (.ref a)] [])) _
  refine OGo.step (fun _ kk => XS.aloadN X0.here hx rfl (hb hby own_d_prog_10_method_5_code_0) rfl rfl kk) ?_
  show OGo p e below (s₁.setTop (mkF m 1 #[.val (.ref a)] [(.ref a)])) _
  refine own_iface X0 hx hZ (y := (⟨"java/util/List", "size", "()I"⟩ : MethodName)) (z := (⟨"java/util/ArrayList", "size", "()I"⟩ : MethodName)) hown (hw _ (List.mem_of_getElem? (i := 61) rfl)) (hw _ (List.mem_of_getElem? (i := 62) rfl)) (mvT hZ (hw _ (List.mem_of_getElem? (i := 63) rfl))) (hw _ (List.mem_of_getElem? (i := 64) rfl)) (hw _ (List.mem_of_getElem? (i := 65) rfl)) (mvT hZ (hw _ (List.mem_of_getElem? (i := 66) rfl))) (mvT hZ (hw _ (List.mem_of_getElem? (i := 67) rfl))) (mvT hZ (hw _ (List.mem_of_getElem? (i := 68) rfl))) (by decide) (hw _ (List.mem_of_getElem? (i := 69) rfl)) (hw _ (List.mem_of_getElem? (i := 35) rfl)) (b := a) E1 (W := 0) (own_size l Z a0 hw [] a _ h0 n0 Z0 Fz) e0  (pc := 1) (Ls := #[.val (.ref a)]) (argsL := []) (rest := []) (by rw [hml]; rfl) (lenOf own_pd2 rfl) rfl (hb hby own_d_prog_10_method_5_code_1) (by decide) (by decide) (by decide) (by decide) ?_
  intro v226 T226 L226 X226 hQ226
  obtain ⟨rfl, N226, e226⟩ := hQ226
  show OGo p e below (T226.setTop (mkF m 6 #[.val (.ref a)] [(.int (6 : Int32))])) _
  have Nc226 := Fr.app (Fr.nil n0) N226
  refine OGo.step (fun _ kk => XS.iconst X226.here hx rfl (hb hby own_d_prog_10_method_5_code_6) kk) ?_
  show OGo p e below (T226.setTop (mkF m 7 #[.val (.ref a)] [(.int (4 : Int32)), (.int (6 : Int32))])) _
  refine OGo.step (fun _ kk => XS.icmpNo X226.here hx rfl (hb hby own_d_prog_10_method_5_code_7) rfl (feq (by decide)).1 kk) ?_
  show OGo p e below (T226.setTop (mkF m 10 #[.val (.ref a)] [])) _
  refine OGo.step (fun _ kk => XS.aloadN X226.here hx rfl (hb hby own_d_prog_10_method_5_code_10) rfl rfl kk) ?_
  show OGo p e below (T226.setTop (mkF m 11 #[.val (.ref a)] [(.ref a)])) _
  refine own_iface X226 hx hZ (y := (⟨"java/util/List", "size", "()I"⟩ : MethodName)) (z := (⟨"java/util/ArrayList", "size", "()I"⟩ : MethodName)) hown (hw _ (List.mem_of_getElem? (i := 61) rfl)) (hw _ (List.mem_of_getElem? (i := 62) rfl)) (mvT hZ (hw _ (List.mem_of_getElem? (i := 63) rfl))) (hw _ (List.mem_of_getElem? (i := 64) rfl)) (hw _ (List.mem_of_getElem? (i := 65) rfl)) (mvT hZ (hw _ (List.mem_of_getElem? (i := 66) rfl))) (mvT hZ (hw _ (List.mem_of_getElem? (i := 67) rfl))) (mvT hZ (hw _ (List.mem_of_getElem? (i := 68) rfl))) (by decide) (hw _ (List.mem_of_getElem? (i := 69) rfl)) (hw _ (List.mem_of_getElem? (i := 35) rfl)) (b := a) E1 (W := 0) (own_size l Z a0 hw [] a _ h0 n0 Z0 Fz) e226  (pc := 11) (Ls := #[.val (.ref a)]) (argsL := []) (rest := []) (by rw [hml]; rfl) (lenOf own_pd2 rfl) rfl (hb hby own_d_prog_10_method_5_code_11) (by decide) (by decide) (by decide) (by decide) ?_
  intro v227 T227 L227 X227 hQ227
  obtain ⟨rfl, N227, e227⟩ := hQ227
  show OGo p e below (T227.setTop (mkF m 16 #[.val (.ref a)] [(.int (6 : Int32))])) _
  have Nc227 := Fr.app Nc226 N227
  refine OGo.step (fun _ kk => XS.bipush X227.here hx rfl (hb hby own_d_prog_10_method_5_code_16) kk) ?_
  show OGo p e below (T227.setTop (mkF m 18 #[.val (.ref a)] [(.int (6 : Int32)), (.int (6 : Int32))])) _
  refine OGo.step (fun _ kk => XS.icmpNo X227.here hx rfl (hb hby own_d_prog_10_method_5_code_18) rfl (teq rfl).2 kk) ?_
  show OGo p e below (T227.setTop (mkF m 21 #[.val (.ref a)] [])) _
  refine OGo.step (fun _ kk => XS.aloadN X227.here hx rfl (hb hby own_d_prog_10_method_5_code_21) rfl rfl kk) ?_
  refine OGo.step (fun _ kk => XS.iconst X227.here hx rfl (hb hby own_d_prog_10_method_5_code_22) kk) ?_
  show OGo p e below (T227.setTop (mkF m 23 #[.val (.ref a)] [(.int (4 : Int32)), (.ref a)])) _
  refine own_iface X227 hx hZ (y := (⟨"java/util/List", "get", "(I)Ljava/lang/Object;"⟩ : MethodName)) (z := (⟨"java/util/ArrayList", "get", "(I)Ljava/lang/Object;"⟩ : MethodName)) hown (hw _ (List.mem_of_getElem? (i := 157) rfl)) (hw _ (List.mem_of_getElem? (i := 158) rfl)) (mvT hZ (hw _ (List.mem_of_getElem? (i := 159) rfl))) (hw _ (List.mem_of_getElem? (i := 160) rfl)) (hw _ (List.mem_of_getElem? (i := 161) rfl)) (mvT hZ (hw _ (List.mem_of_getElem? (i := 162) rfl))) (mvT hZ (hw _ (List.mem_of_getElem? (i := 163) rfl))) (mvT hZ (hw _ (List.mem_of_getElem? (i := 68) rfl))) (by decide) (hw _ (List.mem_of_getElem? (i := 164) rfl)) (hw _ (List.mem_of_getElem? (i := 35) rfl)) (b := a) E1 (W := 0) (own_get l Z a0 hw [] a e_ x ke vs h0 n0 Z0 E1 Fz Fe Ve hv) e227  (pc := 23) (Ls := #[.val (.ref a)]) (argsL := [(.int (4 : Int32))]) (rest := []) (by rw [hml]; rfl) (lenOf own_pd10 rfl) rfl (hb hby own_d_prog_10_method_5_code_23) (by decide) (by decide) (by decide) (by decide) ?_
  intro v228 T228 L228 X228 hQ228
  obtain ⟨rfl, N228, e228⟩ := hQ228
  show OGo p e below (T228.setTop (mkF m 28 #[.val (.ref a)] [(.ref x)])) _
  have Nc228 := Fr.app Nc227 N228
  obtain ⟨T229, X229, e229, st229⟩ := castY X228 hx hZ hown (hw _ (List.mem_of_getElem? (i := 175) rfl)) e228 (Ins.self G.exa) (g := (mkF m 28 #[.val (.ref a)] [(.ref x)])) rfl rfl (hb hby own_d_prog_10_method_5_code_28)
  refine OGo.step st229 ?_
  show OGo p e below (T229.setTop (mkF m 31 #[.val (.ref a)] [(.ref x)])) _
  refine own_ldcW X229 hx hown (hw _ (List.mem_of_getElem? (i := 176) rfl)) wS hEL OW0 e229 (by decide) (vs := [.int (45 : Int32), .int (45 : Int32), .int (97 : Int32), .int (115 : Int32)]) (z := (4 : Int32)) ⟨by decide, by decide⟩ (by decide) (by decide) (pc := 31) (Ls := #[.val (.ref a)]) (st := [(.ref x)]) (hb hby own_d_prog_10_method_5_code_31) (n := 16) (by decide) (by decide) (by decide) (by decide) ?_
  intro z zb kb230 T230 X230 E230 OW230 hZ hown CH230 Es230 Fc230 Fv230 Av230 Ns230
  have sz230 : n0 ≤ T230.heap.size := Nat.le_trans Z0 E230.1
  show OGo p e below (T230.setTop (mkF m 33 #[.val (.ref a)] [(.ref z), (.ref x)])) _
  have cd230 : StrChars.Road.CodA ([45, 45, 97, 115] : List Int32) 0 (4 : Int32) [.int (45 : Int32), .int (45 : Int32), .int (97 : Int32), .int (115 : Int32)] := StrChars.Road.codOf (cs := [45, 45, 97, 115]) (n := 4) rfl (by decide)
  have O230 : OStr Z T230.heap z ([45, 45, 97, 115] : List Int32) := ⟨zb, kb230, 0, (4 : Int32), _, Es230, Fv230, Fc230, Av230, cd230, by decide, by decide⟩
  have fx231 := G.ext E230
  have fx232 := SC.ext E230
  refine own_virtualK X230 hx hZ (y := (⟨"java/lang/String", "equals", "(Ljava/lang/Object;)Z"⟩ : MethodName)) (z := (⟨"java/lang/String", "equals", "(Ljava/lang/Object;)Z"⟩ : MethodName)) hown (hw _ (List.mem_of_getElem? (i := 177) rfl)) (hw _ (List.mem_of_getElem? (i := 178) rfl)) (notFace_of_selects (args := #[]) (mvT hZ (hw _ (List.mem_of_getElem? (i := 180) rfl)))) (hw _ (List.mem_of_getElem? (i := 180) rfl)) (hw _ (List.mem_of_getElem? (i := 179) rfl)) (by decide) (b := x) (fx231).exa (W := 0) (own_seq (W := 0) hZ (fun d hd => hw d ((by decide +kernel : ∀ d ∈ StrChars.Road.wordsEq, d ∈ tables_1) d hd)) (kI := 4) (hw _ (List.mem_of_getElem? (i := 6) rfl)) fx231 O230 fx232 hzc n0 (by decide) (by decide)) rfl (pc := 33) (Ls := #[.val (.ref a)]) (argsL := [(.ref z)]) (rest := []) (by rw [hml]; rfl) (lenOf own_pd11 rfl) rfl (hb hby own_d_prog_10_method_5_code_33) (by decide) (by decide) ?_
  intro v233 T233 L233 X233 hQ233
  obtain ⟨rfl, N233, e233⟩ := hQ233
  show OGo p e below (T233.setTop (mkF m 36 #[.val (.ref a)] [(.int (if cs = ([45, 45, 97, 115] : List Int32) then (1 : Int32) else 0))])) _
  have Nc233 := Fr.app Nc228 N233
  by_cases hr : (if cs = ([45, 45, 97, 115] : List Int32) then (1 : Int32) else 0) = (0 : Int32)
  · refine OGo.step (fun _ kk => XS.ifYes X233.here hx rfl (pc0 := 36) (pc' := 43) rfl (hb hby own_d_prog_10_method_5_code_36) rfl ((if0 _ _).trans (teq hr).1) (by decide) (by decide) kk) ?_
    show OGo p e below (T233.setTop (mkF m 43 #[.val (.ref a)] [])) _
    refine OGo.step (fun _ kk => XS.iconst X233.here hx rfl (hb hby own_d_prog_10_method_5_code_43) kk) ?_
    show OGo p e below (T233.setTop (mkF m 44 #[.val (.ref a)] [(.int (0 : Int32))])) _
    exact own_retNW X233 hx hlk hEL OW230 e233 hret (by simp) (hb hby own_d_prog_10_method_5_code_44) (by rw [e233]; exact ⟨by rw [if_neg (own_if0 hr), own_nar0], Nc233, E230⟩) (by decide) (by decide)
  · refine OGo.step (fun _ kk => XS.ifNo X233.here hx rfl (hb hby own_d_prog_10_method_5_code_36) rfl ((if0 _ _).trans (feq hr).1) kk) ?_
    show OGo p e below (T233.setTop (mkF m 39 #[.val (.ref a)] [])) _
    refine OGo.step (fun _ kk => XS.iconst X233.here hx rfl (hb hby own_d_prog_10_method_5_code_39) kk) ?_
    refine OGo.step (fun _ kk => XS.goto X233.here hx rfl (pc0 := 40) (pc' := 44) rfl (hb hby own_d_prog_10_method_5_code_40) (by decide) (by decide) kk) ?_
    show OGo p e below (T233.setTop (mkF m 44 #[.val (.ref a)] [(.int (1 : Int32))])) _
    exact own_retNW X233 hx hlk hEL OW230 e233 hret (by simp) (hb hby own_d_prog_10_method_5_code_44) (by rw [e233]; exact ⟨by rw [if_pos (own_if1 hr), own_nar1], Nc233, E230⟩) (by decide) (by decide)

set_option maxRecDepth 65536 in
set_option maxHeartbeats 40000000 in
theorem own_one7 (l : Launch) (Z : State) (a0 : Array Value) (hw : ∀ d ∈ tables_1, d.before a0 Z = true) (ws : List Jvm.Cond) (a : Addr) (h0 : Heap) (n0 : Nat) (Z0 : n0 ≤ h0.size) (E1 : Exa Z h0 a "java/util/ArrayList") (Fz : Fld Z h0 a "java/util/ArrayList" "size" "I" (.int (7 : Int32))) :
    OMetW l Z consts_1 (⟨"com/example/tags_to_grants/tagstogrants/cli/TagsToGrants", "isOneRequest", "(Ljava/util/List;)Z"⟩ : MethodName) prog_10_method_5_code 1 (some .boolean) ws ({ frames := 3, cells := 2, slots := 20, locals := 40 } : Room) #[(.ref a)] h0 (fun v h L => v = some (.int (0 : Int32)) ∧ Fr n0 L ∧ Ext h0 h) := by
  refine OMetW.body (plainFor_of_name own_pn6) ?_
  intro p e s m below meth c s₁ hx hby hml hown hnm hret hlk hZ X0 e0 OW0
  have hEL := own_hEL hw
  have wS := own_wS hw
  refine OGo.step (fun _ kk => castTop (show entryFrame m #[(.ref a)] 1 = (mkF m 0 #[.val (.ref a)] []) from by first | (simp [entryFrame, mkF, argsToLocals, Value.category]; done) | rfl) kk) ?_
  show OGo p e below (s₁.setTop (mkF m 0 #[.val (.ref a)] [])) _
  refine OGo.step (fun _ kk => XS.aloadN X0.here hx rfl (hb hby own_d_prog_10_method_5_code_0) rfl rfl kk) ?_
  show OGo p e below (s₁.setTop (mkF m 1 #[.val (.ref a)] [(.ref a)])) _
  refine own_iface X0 hx hZ (y := (⟨"java/util/List", "size", "()I"⟩ : MethodName)) (z := (⟨"java/util/ArrayList", "size", "()I"⟩ : MethodName)) hown (hw _ (List.mem_of_getElem? (i := 61) rfl)) (hw _ (List.mem_of_getElem? (i := 62) rfl)) (mvT hZ (hw _ (List.mem_of_getElem? (i := 63) rfl))) (hw _ (List.mem_of_getElem? (i := 64) rfl)) (hw _ (List.mem_of_getElem? (i := 65) rfl)) (mvT hZ (hw _ (List.mem_of_getElem? (i := 66) rfl))) (mvT hZ (hw _ (List.mem_of_getElem? (i := 67) rfl))) (mvT hZ (hw _ (List.mem_of_getElem? (i := 68) rfl))) (by decide) (hw _ (List.mem_of_getElem? (i := 69) rfl)) (hw _ (List.mem_of_getElem? (i := 35) rfl)) (b := a) E1 (W := 0) (own_size l Z a0 hw [] a _ h0 n0 Z0 Fz) e0  (pc := 1) (Ls := #[.val (.ref a)]) (argsL := []) (rest := []) (by rw [hml]; rfl) (lenOf own_pd2 rfl) rfl (hb hby own_d_prog_10_method_5_code_1) (by decide) (by decide) (by decide) (by decide) ?_
  intro v234 T234 L234 X234 hQ234
  obtain ⟨rfl, N234, e234⟩ := hQ234
  show OGo p e below (T234.setTop (mkF m 6 #[.val (.ref a)] [(.int (7 : Int32))])) _
  have Nc234 := Fr.app (Fr.nil n0) N234
  refine OGo.step (fun _ kk => XS.iconst X234.here hx rfl (hb hby own_d_prog_10_method_5_code_6) kk) ?_
  show OGo p e below (T234.setTop (mkF m 7 #[.val (.ref a)] [(.int (4 : Int32)), (.int (7 : Int32))])) _
  refine OGo.step (fun _ kk => XS.icmpNo X234.here hx rfl (hb hby own_d_prog_10_method_5_code_7) rfl (feq (by decide)).1 kk) ?_
  show OGo p e below (T234.setTop (mkF m 10 #[.val (.ref a)] [])) _
  refine OGo.step (fun _ kk => XS.aloadN X234.here hx rfl (hb hby own_d_prog_10_method_5_code_10) rfl rfl kk) ?_
  show OGo p e below (T234.setTop (mkF m 11 #[.val (.ref a)] [(.ref a)])) _
  refine own_iface X234 hx hZ (y := (⟨"java/util/List", "size", "()I"⟩ : MethodName)) (z := (⟨"java/util/ArrayList", "size", "()I"⟩ : MethodName)) hown (hw _ (List.mem_of_getElem? (i := 61) rfl)) (hw _ (List.mem_of_getElem? (i := 62) rfl)) (mvT hZ (hw _ (List.mem_of_getElem? (i := 63) rfl))) (hw _ (List.mem_of_getElem? (i := 64) rfl)) (hw _ (List.mem_of_getElem? (i := 65) rfl)) (mvT hZ (hw _ (List.mem_of_getElem? (i := 66) rfl))) (mvT hZ (hw _ (List.mem_of_getElem? (i := 67) rfl))) (mvT hZ (hw _ (List.mem_of_getElem? (i := 68) rfl))) (by decide) (hw _ (List.mem_of_getElem? (i := 69) rfl)) (hw _ (List.mem_of_getElem? (i := 35) rfl)) (b := a) E1 (W := 0) (own_size l Z a0 hw [] a _ h0 n0 Z0 Fz) e234  (pc := 11) (Ls := #[.val (.ref a)]) (argsL := []) (rest := []) (by rw [hml]; rfl) (lenOf own_pd2 rfl) rfl (hb hby own_d_prog_10_method_5_code_11) (by decide) (by decide) (by decide) (by decide) ?_
  intro v235 T235 L235 X235 hQ235
  obtain ⟨rfl, N235, e235⟩ := hQ235
  show OGo p e below (T235.setTop (mkF m 16 #[.val (.ref a)] [(.int (7 : Int32))])) _
  have Nc235 := Fr.app Nc234 N235
  refine OGo.step (fun _ kk => XS.bipush X235.here hx rfl (hb hby own_d_prog_10_method_5_code_16) kk) ?_
  show OGo p e below (T235.setTop (mkF m 18 #[.val (.ref a)] [(.int (6 : Int32)), (.int (7 : Int32))])) _
  refine OGo.step (fun _ kk => XS.icmpYes X235.here hx rfl (pc0 := 18) (pc' := 43) rfl (hb hby own_d_prog_10_method_5_code_18) rfl (feq (by decide)).2 (by decide) (by decide) kk) ?_
  show OGo p e below (T235.setTop (mkF m 43 #[.val (.ref a)] [])) _
  refine OGo.step (fun _ kk => XS.iconst X235.here hx rfl (hb hby own_d_prog_10_method_5_code_43) kk) ?_
  show OGo p e below (T235.setTop (mkF m 44 #[.val (.ref a)] [(.int (0 : Int32))])) _
  exact own_retNW X235 hx hlk hEL OW0 e235 hret (by simp) (hb hby own_d_prog_10_method_5_code_44) (by rw [e235]; exact ⟨by rw [own_nar0], Nc235, own_ext_refl _⟩) (by decide) (by decide)

set_option maxRecDepth 65536 in
set_option maxHeartbeats 40000000 in
theorem own_rm0 (l : Launch) (Z : State) (a0 : Array Value) (hw : ∀ d ∈ tables_1, d.before a0 Z = true) (ws : List Jvm.Cond) (p1 p2 p3 zc : Int32) (fm : Value) (dd : Addr) (cd : Cell) (h0 : Heap) (n0 : Nat) (Z0 : n0 ≤ h0.size) (SC : Sta Z h0 "java/lang/String" "COMPACT_STRINGS" "Z" (.int zc)) (hzc : ¬ zc = 0) (SF : Sta Z h0 "jdk/internal/util/Preconditions" "SIOOBE_FORMATTER" "Ljava/util/function/BiFunction;" fm) (hfm : fm.isRef = true) (SD : Sta Z h0 "java/util/ArrayList" "DEFAULTCAPACITY_EMPTY_ELEMENTDATA" "[Ljava/lang/Object;" (.ref dd)) (Ad : Arr Z h0 dd cd (.object "java/lang/Object")) (Sd : cd.slots.size = 0) :
    OMetW l Z consts_1 x code maxLocals ret ws room_1 #[(.int p1), (.int p2), (.int p3)] h0 (fun v h L => v = some (.int (1 : Int32)) ∧ Fr n0 L) := by
  refine OMetW.body (plainFor_of_name own_pn0) ?_
  intro p e s m below meth c s₁ hx hby hml hown hnm hret hlk hZ X0 e0 OW0
  have hml : c.maxLocals = 11 := hml
  have hEL := own_hEL hw
  have wS := own_wS hw
  refine OGo.step (fun _ kk => castTop (show entryFrame m #[(.int p1), (.int p2), (.int p3)] maxLocals = (mkF m 0 #[.val (.int p1), .val (.int p2), .val (.int p3), .unset, .unset, .unset, .unset, .unset, .unset, .unset, .unset] []) from by first | (simp [entryFrame, mkF, argsToLocals, Value.category, maxLocals]; done) | rfl) kk) ?_
  show OGo p e below (s₁.setTop (mkF m 0 #[.val (.int p1), .val (.int p2), .val (.int p3), .unset, .unset, .unset, .unset, .unset, .unset, .unset, .unset] [])) _
  refine OGo.step (fun _ kk => XS.iloadN X0.here hx rfl (hb hby at_0) rfl kk) ?_
  refine OGo.step (fun _ kk => XS.bipush X0.here hx rfl (hb hby at_1) kk) ?_
  refine OGo.step (fun _ kk => XS.iand X0.here hx rfl (hb hby at_3) rfl kk) ?_
  refine OGo.step (fun _ kk => XS.istoreN X0.here hx rfl (hb hby at_4) rfl (l' := #[.val (.int p1), .val (.int p2), .val (.int p3), .val (.int (p1 &&& (7 : Int32))), .unset, .unset, .unset, .unset, .unset, .unset, .unset]) rfl kk) ?_
  refine OGo.step (fun _ kk => XS.iloadN X0.here hx rfl (hb hby at_5) rfl kk) ?_
  refine OGo.step (fun _ kk => XS.iconst X0.here hx rfl (hb hby at_6) kk) ?_
  refine OGo.step (fun _ kk => XS.iushr X0.here hx rfl (hb hby at_7) rfl kk) ?_
  refine OGo.step (fun _ kk => XS.bipush X0.here hx rfl (hb hby at_8) kk) ?_
  refine OGo.step (fun _ kk => XS.iand X0.here hx rfl (hb hby at_10) rfl kk) ?_
  refine OGo.step (fun _ kk => XS.istore X0.here hx rfl (hb hby at_11) rfl (l' := #[.val (.int p1), .val (.int p2), .val (.int p3), .val (.int (p1 &&& (7 : Int32))), .val (.int (((p1.toUInt32 >>> ((3 : Int32) &&& 31).toUInt32).toInt32) &&& (7 : Int32))), .unset, .unset, .unset, .unset, .unset, .unset]) rfl kk) ?_
  refine OGo.step (fun _ kk => XS.iloadN X0.here hx rfl (hb hby at_13) rfl kk) ?_
  refine OGo.step (fun _ kk => XS.bipush X0.here hx rfl (hb hby at_14) kk) ?_
  refine OGo.step (fun _ kk => XS.iushr X0.here hx rfl (hb hby at_16) rfl kk) ?_
  refine OGo.step (fun _ kk => XS.bipush X0.here hx rfl (hb hby at_17) kk) ?_
  refine OGo.step (fun _ kk => XS.iand X0.here hx rfl (hb hby at_19) rfl kk) ?_
  refine OGo.step (fun _ kk => XS.istore X0.here hx rfl (hb hby at_20) rfl (l' := #[.val (.int p1), .val (.int p2), .val (.int p3), .val (.int (p1 &&& (7 : Int32))), .val (.int (((p1.toUInt32 >>> ((3 : Int32) &&& 31).toUInt32).toInt32) &&& (7 : Int32))), .val (.int (((p1.toUInt32 >>> ((6 : Int32) &&& 31).toUInt32).toInt32) &&& (15 : Int32))), .unset, .unset, .unset, .unset, .unset]) rfl kk) ?_
  refine OGo.step (fun _ kk => XS.iloadN X0.here hx rfl (hb hby at_22) rfl kk) ?_
  refine OGo.step (fun _ kk => XS.bipush X0.here hx rfl (hb hby at_23) kk) ?_
  refine OGo.step (fun _ kk => XS.iushr X0.here hx rfl (hb hby at_25) rfl kk) ?_
  refine OGo.step (fun _ kk => XS.iconst X0.here hx rfl (hb hby at_26) kk) ?_
  refine OGo.step (fun _ kk => XS.iand X0.here hx rfl (hb hby at_27) rfl kk) ?_
  show OGo p e below (s₁.setTop (mkF m 28 #[.val (.int p1), .val (.int p2), .val (.int p3), .val (.int (p1 &&& (7 : Int32))), .val (.int (((p1.toUInt32 >>> ((3 : Int32) &&& 31).toUInt32).toInt32) &&& (7 : Int32))), .val (.int (((p1.toUInt32 >>> ((6 : Int32) &&& 31).toUInt32).toInt32) &&& (15 : Int32))), .unset, .unset, .unset, .unset, .unset] [(.int (((p1.toUInt32 >>> ((10 : Int32) &&& 31).toUInt32).toInt32) &&& (1 : Int32)))])) _
  have K38 : ∀ fl : Int32, OGo p e below (s₁.setTop (mkF m 38 #[.val (.int p1), .val (.int p2), .val (.int p3), .val (.int (p1 &&& (7 : Int32))), .val (.int (((p1.toUInt32 >>> ((3 : Int32) &&& 31).toUInt32).toInt32) &&& (7 : Int32))), .val (.int (((p1.toUInt32 >>> ((6 : Int32) &&& 31).toUInt32).toInt32) &&& (15 : Int32))), .val (.int fl), .unset, .unset, .unset, .unset] [])) (OEndW s Z consts_1 (fun v h L => v = some (.int (1 : Int32)) ∧ Fr n0 L) room_1.cells room_1.slots) := by
    intro fl
    show OGo p e below (s₁.setTop (mkF m 38 #[.val (.int p1), .val (.int p2), .val (.int p3), .val (.int (p1 &&& (7 : Int32))), .val (.int (((p1.toUInt32 >>> ((3 : Int32) &&& 31).toUInt32).toInt32) &&& (7 : Int32))), .val (.int (((p1.toUInt32 >>> ((6 : Int32) &&& 31).toUInt32).toInt32) &&& (15 : Int32))), .val (.int fl), .unset, .unset, .unset, .unset] [])) _
    refine OGo.step (fun _ kk => XS.iload X0.here hx rfl (hb hby at_38) rfl kk) ?_
    refine OGo.step (fun _ kk => XS.iload X0.here hx rfl (hb hby at_40) rfl kk) ?_
    refine OGo.step (fun _ kk => XS.iloadN X0.here hx rfl (hb hby at_42) rfl kk) ?_
    refine OGo.step (fun _ kk => XS.iloadN X0.here hx rfl (hb hby at_43) rfl kk) ?_
    show OGo p e below (s₁.setTop (mkF m 44 #[.val (.int p1), .val (.int p2), .val (.int p3), .val (.int (p1 &&& (7 : Int32))), .val (.int (((p1.toUInt32 >>> ((3 : Int32) &&& 31).toUInt32).toInt32) &&& (7 : Int32))), .val (.int (((p1.toUInt32 >>> ((6 : Int32) &&& 31).toUInt32).toInt32) &&& (15 : Int32))), .val (.int fl), .unset, .unset, .unset, .unset] [(.int p3), (.int p2), (.int (((p1.toUInt32 >>> ((6 : Int32) &&& 31).toUInt32).toInt32) &&& (15 : Int32))), (.int (((p1.toUInt32 >>> ((3 : Int32) &&& 31).toUInt32).toInt32) &&& (7 : Int32)))])) _
    refine own_callSW X0 hx hZ (y := (⟨"com/example/tags_to_grants/tagstogrants/cli/TagsToGrantsIsOneRequestPinLaw", "fifth", "(IIII)Ljava/lang/String;"⟩ : MethodName)) hown (hw _ (List.mem_of_getElem? (i := 0) rfl)) (hw _ (List.mem_of_getElem? (i := 1) rfl)) (hw _ (List.mem_of_getElem? (i := 2) rfl)) (hw _ (List.mem_of_getElem? (i := 3) rfl)) (by decide) hEL OW0 (W := 0) (own_fifth l Z a0 hw [] (((p1.toUInt32 >>> ((3 : Int32) &&& 31).toUInt32).toInt32) &&& (7 : Int32)) (((p1.toUInt32 >>> ((6 : Int32) &&& 31).toUInt32).toInt32) &&& (15 : Int32)) p2 p3 zc h0 n0 Z0 SC hzc) e0  (pc := 44) (Ls := #[.val (.int p1), .val (.int p2), .val (.int p3), .val (.int (p1 &&& (7 : Int32))), .val (.int (((p1.toUInt32 >>> ((3 : Int32) &&& 31).toUInt32).toInt32) &&& (7 : Int32))), .val (.int (((p1.toUInt32 >>> ((6 : Int32) &&& 31).toUInt32).toInt32) &&& (15 : Int32))), .val (.int fl), .unset, .unset, .unset, .unset]) (argsL := [(.int (((p1.toUInt32 >>> ((3 : Int32) &&& 31).toUInt32).toInt32) &&& (7 : Int32))), (.int (((p1.toUInt32 >>> ((6 : Int32) &&& 31).toUInt32).toInt32) &&& (15 : Int32))), (.int p2), (.int p3)]) (rest := []) (by rw [hml]; rfl) (lenOf own_pd12 rfl) rfl (hb hby at_44) (by decide) (by decide) (by decide) (by decide) ?_
    intro v236 T236 L236 X236 hQ236 OW236 hZ hown CH236
    obtain ⟨f5, cs, rfl, N236, Xe236, Of236, hs⟩ := hQ236
    show OGo p e below (T236.setTop (mkF m 47 #[.val (.int p1), .val (.int p2), .val (.int p3), .val (.int (p1 &&& (7 : Int32))), .val (.int (((p1.toUInt32 >>> ((3 : Int32) &&& 31).toUInt32).toInt32) &&& (7 : Int32))), .val (.int (((p1.toUInt32 >>> ((6 : Int32) &&& 31).toUInt32).toInt32) &&& (15 : Int32))), .val (.int fl), .unset, .unset, .unset, .unset] [(.ref f5)])) _
    have Nc236 := Fr.app (Fr.nil n0) N236
    have sz236 : n0 ≤ T236.heap.size := Nat.le_trans Z0 Xe236.1
    refine OGo.step (fun _ kk => XS.astore X236.here hx rfl (hb hby at_47) rfl rfl (l' := #[.val (.int p1), .val (.int p2), .val (.int p3), .val (.int (p1 &&& (7 : Int32))), .val (.int (((p1.toUInt32 >>> ((3 : Int32) &&& 31).toUInt32).toInt32) &&& (7 : Int32))), .val (.int (((p1.toUInt32 >>> ((6 : Int32) &&& 31).toUInt32).toInt32) &&& (15 : Int32))), .val (.int fl), .val (.ref f5), .unset, .unset, .unset]) rfl kk) ?_
    refine OGo.step (fun _ kk => XS.iload X236.here hx rfl (hb hby at_49) rfl kk) ?_
    show OGo p e below (T236.setTop (mkF m 51 #[.val (.int p1), .val (.int p2), .val (.int p3), .val (.int (p1 &&& (7 : Int32))), .val (.int (((p1.toUInt32 >>> ((3 : Int32) &&& 31).toUInt32).toInt32) &&& (7 : Int32))), .val (.int (((p1.toUInt32 >>> ((6 : Int32) &&& 31).toUInt32).toInt32) &&& (15 : Int32))), .val (.int fl), .val (.ref f5), .unset, .unset, .unset] [(.int fl)])) _
    by_cases hfl : fl = (0 : Int32)
    · refine OGo.step (fun _ kk => XS.ifYes X236.here hx rfl (pc0 := 51) (pc' := 59) rfl (hb hby at_51) rfl ((if0 _ _).trans (teq hfl).1) (by decide) (by decide) kk) ?_
      show OGo p e below (T236.setTop (mkF m 59 #[.val (.int p1), .val (.int p2), .val (.int p3), .val (.int (p1 &&& (7 : Int32))), .val (.int (((p1.toUInt32 >>> ((3 : Int32) &&& 31).toUInt32).toInt32) &&& (7 : Int32))), .val (.int (((p1.toUInt32 >>> ((6 : Int32) &&& 31).toUInt32).toInt32) &&& (15 : Int32))), .val (.int fl), .val (.ref f5), .unset, .unset, .unset] [])) _
      refine OGo.step (fun _ kk => XS.iloadN X236.here hx rfl (hb hby at_59) rfl kk) ?_
      refine OGo.step (fun _ kk => XS.bipush X236.here hx rfl (hb hby at_60) kk) ?_
      refine OGo.step (fun _ kk => XS.iushr X236.here hx rfl (hb hby at_62) rfl kk) ?_
      refine OGo.step (fun _ kk => XS.sipush X236.here hx rfl (hb hby at_63) kk) ?_
      refine OGo.step (fun _ kk => XS.iand X236.here hx rfl (hb hby at_66) rfl kk) ?_
      refine OGo.step (fun _ kk => XS.i2c X236.here hx rfl (hb hby at_67) rfl kk) ?_
      show OGo p e below (T236.setTop (mkF m 68 #[.val (.int p1), .val (.int p2), .val (.int p3), .val (.int (p1 &&& (7 : Int32))), .val (.int (((p1.toUInt32 >>> ((3 : Int32) &&& 31).toUInt32).toInt32) &&& (7 : Int32))), .val (.int (((p1.toUInt32 >>> ((6 : Int32) &&& 31).toUInt32).toInt32) &&& (15 : Int32))), .val (.int fl), .val (.ref f5), .unset, .unset, .unset] [(.int ((((p3.toUInt32 >>> ((8 : Int32) &&& 31).toUInt32).toInt32) &&& (255 : Int32)).toUInt32.toUInt16.toUInt32.toInt32))])) _
      have fx237 := SC.ext Xe236
      refine own_callS X236 hx hZ (y := (⟨"java/lang/String", "valueOf", "(C)Ljava/lang/String;"⟩ : MethodName)) hown (hw _ (List.mem_of_getElem? (i := 12) rfl)) (hw _ (List.mem_of_getElem? (i := 13) rfl)) (hw _ (List.mem_of_getElem? (i := 5) rfl)) (hw _ (List.mem_of_getElem? (i := 14) rfl)) (by decide) (W := 0) (own_valueOf l Z a0 hw [] ((((p3.toUInt32 >>> ((8 : Int32) &&& 31).toUInt32).toInt32) &&& (255 : Int32)).toUInt32.toUInt16.toUInt32.toInt32) zc T236.heap n0 sz236 fx237 hzc (own_c255 _)) rfl  (pc := 68) (Ls := #[.val (.int p1), .val (.int p2), .val (.int p3), .val (.int (p1 &&& (7 : Int32))), .val (.int (((p1.toUInt32 >>> ((3 : Int32) &&& 31).toUInt32).toInt32) &&& (7 : Int32))), .val (.int (((p1.toUInt32 >>> ((6 : Int32) &&& 31).toUInt32).toInt32) &&& (15 : Int32))), .val (.int fl), .val (.ref f5), .unset, .unset, .unset]) (argsL := [(.int ((((p3.toUInt32 >>> ((8 : Int32) &&& 31).toUInt32).toInt32) &&& (255 : Int32)).toUInt32.toUInt16.toUInt32.toInt32))]) (rest := []) (by rw [hml]; rfl) (lenOf own_pd1 rfl) rfl (hb hby at_68) (by decide) (by decide) (by decide) (by decide) ?_
      intro v238 T238 L238 X238 hQ238
      obtain ⟨ww, rfl, N238, Xe238, Ow238⟩ := hQ238
      show OGo p e below (T238.setTop (mkF m 71 #[.val (.int p1), .val (.int p2), .val (.int p3), .val (.int (p1 &&& (7 : Int32))), .val (.int (((p1.toUInt32 >>> ((3 : Int32) &&& 31).toUInt32).toInt32) &&& (7 : Int32))), .val (.int (((p1.toUInt32 >>> ((6 : Int32) &&& 31).toUInt32).toInt32) &&& (15 : Int32))), .val (.int fl), .val (.ref f5), .unset, .unset, .unset] [(.ref ww)])) _
      have Nc238 := Fr.app Nc236 N238
      have sz238 : n0 ≤ T238.heap.size := Nat.le_trans sz236 Xe238.1
      have OW239 := OW236.ext Xe238
      refine OGo.step (fun _ kk => XS.astore X238.here hx rfl (hb hby at_71) rfl rfl (l' := #[.val (.int p1), .val (.int p2), .val (.int p3), .val (.int (p1 &&& (7 : Int32))), .val (.int (((p1.toUInt32 >>> ((3 : Int32) &&& 31).toUInt32).toInt32) &&& (7 : Int32))), .val (.int (((p1.toUInt32 >>> ((6 : Int32) &&& 31).toUInt32).toInt32) &&& (15 : Int32))), .val (.int fl), .val (.ref f5), .val (.ref ww), .unset, .unset]) rfl kk) ?_
      show OGo p e below (T238.setTop (mkF m 73 #[.val (.int p1), .val (.int p2), .val (.int p3), .val (.int (p1 &&& (7 : Int32))), .val (.int (((p1.toUInt32 >>> ((3 : Int32) &&& 31).toUInt32).toInt32) &&& (7 : Int32))), .val (.int (((p1.toUInt32 >>> ((6 : Int32) &&& 31).toUInt32).toInt32) &&& (15 : Int32))), .val (.int fl), .val (.ref f5), .val (.ref ww), .unset, .unset] [])) _
      have xt240 := (own_ext_trans Xe236 Xe238)
      have fx241 := Ad.ext xt240
      obtain ⟨T242, h242, X242, e242, E242, A242, D242, U242, st242⟩ := newO X238 hx hZ hown (hw _ (List.mem_of_getElem? (i := 33) rfl)) (hw _ (List.mem_of_getElem? (i := 34) rfl)) (hw _ (List.mem_of_getElem? (i := 35) rfl)) rfl (g := (mkF m 73 #[.val (.int p1), .val (.int p2), .val (.int p3), .val (.int (p1 &&& (7 : Int32))), .val (.int (((p1.toUInt32 >>> ((3 : Int32) &&& 31).toUInt32).toInt32) &&& (7 : Int32))), .val (.int (((p1.toUInt32 >>> ((6 : Int32) &&& 31).toUInt32).toInt32) &&& (15 : Int32))), .val (.int fl), .val (.ref f5), .val (.ref ww), .unset, .unset] [])) rfl (hb hby at_73) (by decide) (by decide)
      obtain ⟨al, g242⟩ : ∃ z, z = T238.heap.size := ⟨_, rfl⟩
      rw [← g242] at A242 D242 U242 st242
      refine OGo.step st242 ?_
      show OGo p e below (T242.setTop (mkF m 76 #[.val (.int p1), .val (.int p2), .val (.int p3), .val (.int (p1 &&& (7 : Int32))), .val (.int (((p1.toUInt32 >>> ((3 : Int32) &&& 31).toUInt32).toInt32) &&& (7 : Int32))), .val (.int (((p1.toUInt32 >>> ((6 : Int32) &&& 31).toUInt32).toInt32) &&& (15 : Int32))), .val (.int fl), .val (.ref f5), .val (.ref ww), .unset, .unset] [(.ref al)])) _
      have gf_al : n0 ≤ al := Nat.le_trans sz238 (Nat.le_of_eq g242.symm)
      have sz242 : n0 ≤ h242.size := Nat.le_trans sz238 E242.1
      have OW243 := OW239.ext E242
      have F242_modCount : Fld Z h242 al "java/util/AbstractList" "modCount" "I" (.int (0 : Int32)) := D242 (Or.inl (hw _ (List.mem_of_getElem? (i := 53) rfl))) (ty := .int) (by decide)
      have F242_elementData : Fld Z h242 al "java/util/ArrayList" "elementData" "[Ljava/lang/Object;" .null := D242 (Or.inl (hw _ (List.mem_of_getElem? (i := 56) rfl))) (ty := (.array (.object "java/lang/Object"))) (by decide)
      have F242_size : Fld Z h242 al "java/util/ArrayList" "size" "I" (.int (0 : Int32)) := D242 (Or.inl (hw _ (List.mem_of_getElem? (i := 71) rfl))) (ty := .int) (by decide)
      have nda : dd ≠ al := Nat.ne_of_lt (Nat.lt_of_lt_of_le (fx241).lt (Nat.le_of_eq g242.symm))
      refine OGo.step (fun _ kk => XS.dup X242.here hx rfl (hb hby at_76) rfl rfl kk) ?_
      show OGo p e below (T242.setTop (mkF m 77 #[.val (.int p1), .val (.int p2), .val (.int p3), .val (.int (p1 &&& (7 : Int32))), .val (.int (((p1.toUInt32 >>> ((3 : Int32) &&& 31).toUInt32).toInt32) &&& (7 : Int32))), .val (.int (((p1.toUInt32 >>> ((6 : Int32) &&& 31).toUInt32).toInt32) &&& (15 : Int32))), .val (.int fl), .val (.ref f5), .val (.ref ww), .unset, .unset] [(.ref al), (.ref al)])) _
      have xt244 := (own_ext_trans xt240 E242)
      have fx245 := SD.ext xt244
      refine own_special X242 hx hZ (y := (⟨"java/util/ArrayList", "<init>", "()V"⟩ : MethodName)) rfl hown (hw _ (List.mem_of_getElem? (i := 36) rfl)) (hw _ (List.mem_of_getElem? (i := 37) rfl)) (hw _ (List.mem_of_getElem? (i := 38) rfl)) (hw _ (List.mem_of_getElem? (i := 35) rfl)) (by decide) (a := al) (W := 1) (own_alinit l Z a0 hw [] al dd h242 n0 sz242 fx245 A242 F242_elementData F242_size F242_modCount gf_al) e242  (pc := 77) (Ls := #[.val (.int p1), .val (.int p2), .val (.int p3), .val (.int (p1 &&& (7 : Int32))), .val (.int (((p1.toUInt32 >>> ((3 : Int32) &&& 31).toUInt32).toInt32) &&& (7 : Int32))), .val (.int (((p1.toUInt32 >>> ((6 : Int32) &&& 31).toUInt32).toInt32) &&& (15 : Int32))), .val (.int fl), .val (.ref f5), .val (.ref ww), .unset, .unset]) (argsL := []) (rest := [(.ref al)]) (by rw [hml]; rfl) (lenOf own_pd4 rfl) rfl (hb hby at_77) (by decide) (by decide) (by decide) (by decide) ?_
      intro v246 T246 L246 X246 hQ246
      obtain ⟨rfl, N246, K246, f1246, f2246, f3246, f4246⟩ := hQ246
      show OGo p e below (T246.setTop (mkF m 80 #[.val (.int p1), .val (.int p2), .val (.int p3), .val (.int (p1 &&& (7 : Int32))), .val (.int (((p1.toUInt32 >>> ((3 : Int32) &&& 31).toUInt32).toInt32) &&& (7 : Int32))), .val (.int (((p1.toUInt32 >>> ((6 : Int32) &&& 31).toUInt32).toInt32) &&& (15 : Int32))), .val (.int fl), .val (.ref f5), .val (.ref ww), .unset, .unset] [(.ref al)])) _
      have Nc246 := Fr.app Nc238 N246
      have sz246 : n0 ≤ T246.heap.size := Nat.le_trans sz242 K246.1
      have OW247 := OW243.keep K246 (sfS (Safe.exa (EL := consts_1) OW243.2.1.alike A242 (by decide) (by decide)) sf0)
      refine OGo.step (fun _ kk => XS.astore X246.here hx rfl (hb hby at_80) rfl rfl (l' := #[.val (.int p1), .val (.int p2), .val (.int p3), .val (.int (p1 &&& (7 : Int32))), .val (.int (((p1.toUInt32 >>> ((3 : Int32) &&& 31).toUInt32).toInt32) &&& (7 : Int32))), .val (.int (((p1.toUInt32 >>> ((6 : Int32) &&& 31).toUInt32).toInt32) &&& (15 : Int32))), .val (.int fl), .val (.ref f5), .val (.ref ww), .val (.ref al), .unset]) rfl kk) ?_
      show OGo p e below (T246.setTop (mkF m 82 #[.val (.int p1), .val (.int p2), .val (.int p3), .val (.int (p1 &&& (7 : Int32))), .val (.int (((p1.toUInt32 >>> ((3 : Int32) &&& 31).toUInt32).toInt32) &&& (7 : Int32))), .val (.int (((p1.toUInt32 >>> ((6 : Int32) &&& 31).toUInt32).toInt32) &&& (15 : Int32))), .val (.int fl), .val (.ref f5), .val (.ref ww), .val (.ref al), .unset] [])) _
      obtain ⟨nn, hnn⟩ : ∃ z, z = (p1 &&& (7 : Int32)) := ⟨_, rfl⟩
      have h8 := own_eight p1
      rw [← hnn] at h8
      rw [← hnn]
      show OGo p e below (T246.setTop (mkF m 82 #[.val (.int p1), .val (.int p2), .val (.int p3), .val (.int nn), .val (.int (((p1.toUInt32 >>> ((3 : Int32) &&& 31).toUInt32).toInt32) &&& (7 : Int32))), .val (.int (((p1.toUInt32 >>> ((6 : Int32) &&& 31).toUInt32).toInt32) &&& (15 : Int32))), .val (.int fl), .val (.ref f5), .val (.ref ww), .val (.ref al), .unset] [])) _
      clear hnn
      refine OGo.step (fun _ kk => XS.iloadN X246.here hx rfl (hb hby at_82) rfl kk) ?_
      show OGo p e below (T246.setTop (mkF m 83 #[.val (.int p1), .val (.int p2), .val (.int p3), .val (.int nn), .val (.int (((p1.toUInt32 >>> ((3 : Int32) &&& 31).toUInt32).toInt32) &&& (7 : Int32))), .val (.int (((p1.toUInt32 >>> ((6 : Int32) &&& 31).toUInt32).toInt32) &&& (15 : Int32))), .val (.int fl), .val (.ref f5), .val (.ref ww), .val (.ref al), .unset] [(.int nn)])) _
      by_cases hf0 : (0 : Int32) < nn
      · refine OGo.step (fun _ kk => XS.ifNo X246.here hx rfl (hb hby at_83) rfl ((if0 _ _).trans (tlt hf0).2.2.2) kk) ?_
        show OGo p e below (T246.setTop (mkF m 86 #[.val (.int p1), .val (.int p2), .val (.int p3), .val (.int nn), .val (.int (((p1.toUInt32 >>> ((3 : Int32) &&& 31).toUInt32).toInt32) &&& (7 : Int32))), .val (.int (((p1.toUInt32 >>> ((6 : Int32) &&& 31).toUInt32).toInt32) &&& (15 : Int32))), .val (.int fl), .val (.ref f5), .val (.ref ww), .val (.ref al), .unset] [])) _
        refine OGo.step (fun _ kk => XS.aload X246.here hx rfl (hb hby at_86) rfl rfl kk) ?_
        refine OGo.step (fun _ kk => XS.aload X246.here hx rfl (hb hby at_88) rfl rfl kk) ?_
        show OGo p e below (T246.setTop (mkF m 90 #[.val (.int p1), .val (.int p2), .val (.int p3), .val (.int nn), .val (.int (((p1.toUInt32 >>> ((3 : Int32) &&& 31).toUInt32).toInt32) &&& (7 : Int32))), .val (.int (((p1.toUInt32 >>> ((6 : Int32) &&& 31).toUInt32).toInt32) &&& (15 : Int32))), .val (.int fl), .val (.ref f5), .val (.ref ww), .val (.ref al), .unset] [(.ref ww), (.ref al)])) _
        have xt248 := (own_ext_keep E242 K246 (allS (Nat.le_of_eq g242.symm) all0))
        have fx249 := Ow238.ext xt248
        have nx0 : ww ≠ al := own_neSa (fx249).exa f1246
        have xt250 := (own_ext_keep xt244 K246 (allS (Nat.le_trans xt240.1 (Nat.le_of_eq g242.symm)) all0))
        have fx251 := SD.ext xt250
        have fx252 := Ad.ext xt250
        refine own_iface X246 hx hZ (y := (⟨"java/util/List", "add", "(Ljava/lang/Object;)Z"⟩ : MethodName)) (z := (⟨"java/util/ArrayList", "add", "(Ljava/lang/Object;)Z"⟩ : MethodName)) hown (hw _ (List.mem_of_getElem? (i := 72) rfl)) (hw _ (List.mem_of_getElem? (i := 73) rfl)) (mvT hZ (hw _ (List.mem_of_getElem? (i := 74) rfl))) (hw _ (List.mem_of_getElem? (i := 75) rfl)) (hw _ (List.mem_of_getElem? (i := 76) rfl)) (mvT hZ (hw _ (List.mem_of_getElem? (i := 77) rfl))) (mvT hZ (hw _ (List.mem_of_getElem? (i := 78) rfl))) (mvT hZ (hw _ (List.mem_of_getElem? (i := 68) rfl))) (by decide) (hw _ (List.mem_of_getElem? (i := 79) rfl)) (hw _ (List.mem_of_getElem? (i := 35) rfl)) (b := al) f1246 (W := 0) (own_add10 l Z a0 hw [] al ww dd cd (0 : Int32) T246.heap n0 sz246 fx251 fx252 Sd nda f1246 f2246 f3246 f4246 gf_al (fx249).exa nx0) rfl  (pc := 90) (Ls := #[.val (.int p1), .val (.int p2), .val (.int p3), .val (.int nn), .val (.int (((p1.toUInt32 >>> ((3 : Int32) &&& 31).toUInt32).toInt32) &&& (7 : Int32))), .val (.int (((p1.toUInt32 >>> ((6 : Int32) &&& 31).toUInt32).toInt32) &&& (15 : Int32))), .val (.int fl), .val (.ref f5), .val (.ref ww), .val (.ref al), .unset]) (argsL := [(.ref ww)]) (rest := []) (by rw [hml]; rfl) (lenOf own_pd11 rfl) rfl (hb hby at_90) (by decide) (by decide) (by decide) (by decide) ?_
        intro v253 T253 L253 X253 hQ253
        obtain ⟨e_, ke, rfl, N253, K253, ge_, f1253, f2253, f3253, f4253, f5_253, f6⟩ := hQ253
        show OGo p e below (T253.setTop (mkF m 95 #[.val (.int p1), .val (.int p2), .val (.int p3), .val (.int nn), .val (.int (((p1.toUInt32 >>> ((3 : Int32) &&& 31).toUInt32).toInt32) &&& (7 : Int32))), .val (.int (((p1.toUInt32 >>> ((6 : Int32) &&& 31).toUInt32).toInt32) &&& (15 : Int32))), .val (.int fl), .val (.ref f5), .val (.ref ww), .val (.ref al), .unset] [(.int (1 : Int32))])) _
        have nae : al ≠ e_ := Nat.ne_of_lt (Nat.lt_of_lt_of_le (f1246).lt ge_)
        have gfe : n0 ≤ e_ := Nat.le_trans sz246 ge_
        have Nc253 := Fr.app Nc246 N253
        have sz253 : n0 ≤ T253.heap.size := Nat.le_trans sz246 K253.1
        have OW254 := OW247.keep K253 (sfS (Safe.exa (EL := consts_1) OW247.2.1.alike f1246 (by decide) (by decide)) sf0)
        have sfe := Safe.arv (EL := consts_1) OW254.2.1.alike f5_253 (by decide)
        refine OGo.step (fun _ kk => XS.pop X253.here hx rfl (hb hby at_95) rfl rfl kk) ?_
        refine OGo.step (fun _ kk => XS.iloadN X253.here hx rfl (hb hby at_96) rfl kk) ?_
        refine OGo.step (fun _ kk => XS.iconst X253.here hx rfl (hb hby at_97) kk) ?_
        show OGo p e below (T253.setTop (mkF m 98 #[.val (.int p1), .val (.int p2), .val (.int p3), .val (.int nn), .val (.int (((p1.toUInt32 >>> ((3 : Int32) &&& 31).toUInt32).toInt32) &&& (7 : Int32))), .val (.int (((p1.toUInt32 >>> ((6 : Int32) &&& 31).toUInt32).toInt32) &&& (15 : Int32))), .val (.int fl), .val (.ref f5), .val (.ref ww), .val (.ref al), .unset] [(.int (1 : Int32)), (.int nn)])) _
        by_cases hf1 : (1 : Int32) < nn
        · refine OGo.step (fun _ kk => XS.icmpNo X253.here hx rfl (hb hby at_98) rfl (tlt hf1).2.2.2 kk) ?_
          show OGo p e below (T253.setTop (mkF m 101 #[.val (.int p1), .val (.int p2), .val (.int p3), .val (.int nn), .val (.int (((p1.toUInt32 >>> ((3 : Int32) &&& 31).toUInt32).toInt32) &&& (7 : Int32))), .val (.int (((p1.toUInt32 >>> ((6 : Int32) &&& 31).toUInt32).toInt32) &&& (15 : Int32))), .val (.int fl), .val (.ref f5), .val (.ref ww), .val (.ref al), .unset] [])) _
          refine OGo.step (fun _ kk => XS.aload X253.here hx rfl (hb hby at_101) rfl rfl kk) ?_
          refine OGo.step (fun _ kk => XS.aload X253.here hx rfl (hb hby at_103) rfl rfl kk) ?_
          show OGo p e below (T253.setTop (mkF m 105 #[.val (.int p1), .val (.int p2), .val (.int p3), .val (.int nn), .val (.int (((p1.toUInt32 >>> ((3 : Int32) &&& 31).toUInt32).toInt32) &&& (7 : Int32))), .val (.int (((p1.toUInt32 >>> ((6 : Int32) &&& 31).toUInt32).toInt32) &&& (15 : Int32))), .val (.int fl), .val (.ref f5), .val (.ref ww), .val (.ref al), .unset] [(.ref ww), (.ref al)])) _
          have xt255 := (own_ext_keep xt248 K253 (allS (Nat.le_of_eq g242.symm) all0))
          have fx256 := Ow238.ext xt255
          have nx1 : ww ≠ al := own_neSa (fx256).exa f1253
          refine own_iface X253 hx hZ (y := (⟨"java/util/List", "add", "(Ljava/lang/Object;)Z"⟩ : MethodName)) (z := (⟨"java/util/ArrayList", "add", "(Ljava/lang/Object;)Z"⟩ : MethodName)) hown (hw _ (List.mem_of_getElem? (i := 72) rfl)) (hw _ (List.mem_of_getElem? (i := 73) rfl)) (mvT hZ (hw _ (List.mem_of_getElem? (i := 74) rfl))) (hw _ (List.mem_of_getElem? (i := 75) rfl)) (hw _ (List.mem_of_getElem? (i := 76) rfl)) (mvT hZ (hw _ (List.mem_of_getElem? (i := 77) rfl))) (mvT hZ (hw _ (List.mem_of_getElem? (i := 78) rfl))) (mvT hZ (hw _ (List.mem_of_getElem? (i := 68) rfl))) (by decide) (hw _ (List.mem_of_getElem? (i := 79) rfl)) (hw _ (List.mem_of_getElem? (i := 35) rfl)) (b := al) f1253 (W := 0) (own_add1n l Z a0 hw [] al ww e_ ke ([] ++ [.ref ww]) 1 ((0 : Int32) + 1) T253.heap n0 sz253 f1253 f2253 f3253 f4253 gf_al f5_253 f6 rfl (by decide) (by decide) nae gfe (fx256).exa nx1) rfl  (pc := 105) (Ls := #[.val (.int p1), .val (.int p2), .val (.int p3), .val (.int nn), .val (.int (((p1.toUInt32 >>> ((3 : Int32) &&& 31).toUInt32).toInt32) &&& (7 : Int32))), .val (.int (((p1.toUInt32 >>> ((6 : Int32) &&& 31).toUInt32).toInt32) &&& (15 : Int32))), .val (.int fl), .val (.ref f5), .val (.ref ww), .val (.ref al), .unset]) (argsL := [(.ref ww)]) (rest := []) (by rw [hml]; rfl) (lenOf own_pd11 rfl) rfl (hb hby at_105) (by decide) (by decide) (by decide) (by decide) ?_
          intro v257 T257 L257 X257 hQ257
          obtain ⟨rfl, N257, K257, f1257, f2257, f3257, f4257, f5_257⟩ := hQ257
          show OGo p e below (T257.setTop (mkF m 110 #[.val (.int p1), .val (.int p2), .val (.int p3), .val (.int nn), .val (.int (((p1.toUInt32 >>> ((3 : Int32) &&& 31).toUInt32).toInt32) &&& (7 : Int32))), .val (.int (((p1.toUInt32 >>> ((6 : Int32) &&& 31).toUInt32).toInt32) &&& (15 : Int32))), .val (.int fl), .val (.ref f5), .val (.ref ww), .val (.ref al), .unset] [(.int (1 : Int32))])) _
          have Nc257 := Fr.app Nc253 N257
          have sz257 : n0 ≤ T257.heap.size := Nat.le_trans sz253 K257.1
          have sf258 := Safe.keep K257 (sfS (Safe.exa (EL := consts_1) OW254.2.1.alike f1253 (by decide) (by decide)) (sfS sfe sf0)) OW254.chv sfe
          have OW259 := OW254.keep K257 (sfS (Safe.exa (EL := consts_1) OW254.2.1.alike f1253 (by decide) (by decide)) (sfS sfe sf0))
          refine OGo.step (fun _ kk => XS.pop X257.here hx rfl (hb hby at_110) rfl rfl kk) ?_
          refine OGo.step (fun _ kk => XS.iloadN X257.here hx rfl (hb hby at_111) rfl kk) ?_
          refine OGo.step (fun _ kk => XS.iconst X257.here hx rfl (hb hby at_112) kk) ?_
          show OGo p e below (T257.setTop (mkF m 113 #[.val (.int p1), .val (.int p2), .val (.int p3), .val (.int nn), .val (.int (((p1.toUInt32 >>> ((3 : Int32) &&& 31).toUInt32).toInt32) &&& (7 : Int32))), .val (.int (((p1.toUInt32 >>> ((6 : Int32) &&& 31).toUInt32).toInt32) &&& (15 : Int32))), .val (.int fl), .val (.ref f5), .val (.ref ww), .val (.ref al), .unset] [(.int (2 : Int32)), (.int nn)])) _
          by_cases hf2 : (2 : Int32) < nn
          · refine OGo.step (fun _ kk => XS.icmpNo X257.here hx rfl (hb hby at_113) rfl (tlt hf2).2.2.2 kk) ?_
            show OGo p e below (T257.setTop (mkF m 116 #[.val (.int p1), .val (.int p2), .val (.int p3), .val (.int nn), .val (.int (((p1.toUInt32 >>> ((3 : Int32) &&& 31).toUInt32).toInt32) &&& (7 : Int32))), .val (.int (((p1.toUInt32 >>> ((6 : Int32) &&& 31).toUInt32).toInt32) &&& (15 : Int32))), .val (.int fl), .val (.ref f5), .val (.ref ww), .val (.ref al), .unset] [])) _
            refine OGo.step (fun _ kk => XS.aload X257.here hx rfl (hb hby at_116) rfl rfl kk) ?_
            refine OGo.step (fun _ kk => XS.aload X257.here hx rfl (hb hby at_118) rfl rfl kk) ?_
            show OGo p e below (T257.setTop (mkF m 120 #[.val (.int p1), .val (.int p2), .val (.int p3), .val (.int nn), .val (.int (((p1.toUInt32 >>> ((3 : Int32) &&& 31).toUInt32).toInt32) &&& (7 : Int32))), .val (.int (((p1.toUInt32 >>> ((6 : Int32) &&& 31).toUInt32).toInt32) &&& (15 : Int32))), .val (.int fl), .val (.ref f5), .val (.ref ww), .val (.ref al), .unset] [(.ref ww), (.ref al)])) _
            have xt260 := (own_ext_keep xt255 K257 (allS (Nat.le_of_eq g242.symm) (allS (Nat.le_trans xt248.1 ge_) all0)))
            have fx261 := Ow238.ext xt260
            have nx2 : ww ≠ al := own_neSa (fx261).exa f1257
            refine own_iface X257 hx hZ (y := (⟨"java/util/List", "add", "(Ljava/lang/Object;)Z"⟩ : MethodName)) (z := (⟨"java/util/ArrayList", "add", "(Ljava/lang/Object;)Z"⟩ : MethodName)) hown (hw _ (List.mem_of_getElem? (i := 72) rfl)) (hw _ (List.mem_of_getElem? (i := 73) rfl)) (mvT hZ (hw _ (List.mem_of_getElem? (i := 74) rfl))) (hw _ (List.mem_of_getElem? (i := 75) rfl)) (hw _ (List.mem_of_getElem? (i := 76) rfl)) (mvT hZ (hw _ (List.mem_of_getElem? (i := 77) rfl))) (mvT hZ (hw _ (List.mem_of_getElem? (i := 78) rfl))) (mvT hZ (hw _ (List.mem_of_getElem? (i := 68) rfl))) (by decide) (hw _ (List.mem_of_getElem? (i := 79) rfl)) (hw _ (List.mem_of_getElem? (i := 35) rfl)) (b := al) f1257 (W := 0) (own_add1n l Z a0 hw [] al ww e_ ke (([] ++ [.ref ww]) ++ [.ref ww]) 2 (((0 : Int32) + 1) + 1) T257.heap n0 sz257 f1257 f2257 f3257 f4257 gf_al f5_257 f6 rfl (by decide) (by decide) nae gfe (fx261).exa nx2) rfl  (pc := 120) (Ls := #[.val (.int p1), .val (.int p2), .val (.int p3), .val (.int nn), .val (.int (((p1.toUInt32 >>> ((3 : Int32) &&& 31).toUInt32).toInt32) &&& (7 : Int32))), .val (.int (((p1.toUInt32 >>> ((6 : Int32) &&& 31).toUInt32).toInt32) &&& (15 : Int32))), .val (.int fl), .val (.ref f5), .val (.ref ww), .val (.ref al), .unset]) (argsL := [(.ref ww)]) (rest := []) (by rw [hml]; rfl) (lenOf own_pd11 rfl) rfl (hb hby at_120) (by decide) (by decide) (by decide) (by decide) ?_
            intro v262 T262 L262 X262 hQ262
            obtain ⟨rfl, N262, K262, f1262, f2262, f3262, f4262, f5_262⟩ := hQ262
            show OGo p e below (T262.setTop (mkF m 125 #[.val (.int p1), .val (.int p2), .val (.int p3), .val (.int nn), .val (.int (((p1.toUInt32 >>> ((3 : Int32) &&& 31).toUInt32).toInt32) &&& (7 : Int32))), .val (.int (((p1.toUInt32 >>> ((6 : Int32) &&& 31).toUInt32).toInt32) &&& (15 : Int32))), .val (.int fl), .val (.ref f5), .val (.ref ww), .val (.ref al), .unset] [(.int (1 : Int32))])) _
            have Nc262 := Fr.app Nc257 N262
            have sz262 : n0 ≤ T262.heap.size := Nat.le_trans sz257 K262.1
            have sf263 := Safe.keep K262 (sfS (Safe.exa (EL := consts_1) OW259.2.1.alike f1257 (by decide) (by decide)) (sfS sf258 sf0)) OW259.chv sf258
            have OW264 := OW259.keep K262 (sfS (Safe.exa (EL := consts_1) OW259.2.1.alike f1257 (by decide) (by decide)) (sfS sf258 sf0))
            refine OGo.step (fun _ kk => XS.pop X262.here hx rfl (hb hby at_125) rfl rfl kk) ?_
            refine OGo.step (fun _ kk => XS.iloadN X262.here hx rfl (hb hby at_126) rfl kk) ?_
            refine OGo.step (fun _ kk => XS.iconst X262.here hx rfl (hb hby at_127) kk) ?_
            show OGo p e below (T262.setTop (mkF m 128 #[.val (.int p1), .val (.int p2), .val (.int p3), .val (.int nn), .val (.int (((p1.toUInt32 >>> ((3 : Int32) &&& 31).toUInt32).toInt32) &&& (7 : Int32))), .val (.int (((p1.toUInt32 >>> ((6 : Int32) &&& 31).toUInt32).toInt32) &&& (15 : Int32))), .val (.int fl), .val (.ref f5), .val (.ref ww), .val (.ref al), .unset] [(.int (3 : Int32)), (.int nn)])) _
            by_cases hf3 : (3 : Int32) < nn
            · refine OGo.step (fun _ kk => XS.icmpNo X262.here hx rfl (hb hby at_128) rfl (tlt hf3).2.2.2 kk) ?_
              show OGo p e below (T262.setTop (mkF m 131 #[.val (.int p1), .val (.int p2), .val (.int p3), .val (.int nn), .val (.int (((p1.toUInt32 >>> ((3 : Int32) &&& 31).toUInt32).toInt32) &&& (7 : Int32))), .val (.int (((p1.toUInt32 >>> ((6 : Int32) &&& 31).toUInt32).toInt32) &&& (15 : Int32))), .val (.int fl), .val (.ref f5), .val (.ref ww), .val (.ref al), .unset] [])) _
              refine OGo.step (fun _ kk => XS.aload X262.here hx rfl (hb hby at_131) rfl rfl kk) ?_
              refine OGo.step (fun _ kk => XS.aload X262.here hx rfl (hb hby at_133) rfl rfl kk) ?_
              show OGo p e below (T262.setTop (mkF m 135 #[.val (.int p1), .val (.int p2), .val (.int p3), .val (.int nn), .val (.int (((p1.toUInt32 >>> ((3 : Int32) &&& 31).toUInt32).toInt32) &&& (7 : Int32))), .val (.int (((p1.toUInt32 >>> ((6 : Int32) &&& 31).toUInt32).toInt32) &&& (15 : Int32))), .val (.int fl), .val (.ref f5), .val (.ref ww), .val (.ref al), .unset] [(.ref ww), (.ref al)])) _
              have xt265 := (own_ext_keep xt260 K262 (allS (Nat.le_of_eq g242.symm) (allS (Nat.le_trans xt248.1 ge_) all0)))
              have fx266 := Ow238.ext xt265
              have nx3 : ww ≠ al := own_neSa (fx266).exa f1262
              refine own_iface X262 hx hZ (y := (⟨"java/util/List", "add", "(Ljava/lang/Object;)Z"⟩ : MethodName)) (z := (⟨"java/util/ArrayList", "add", "(Ljava/lang/Object;)Z"⟩ : MethodName)) hown (hw _ (List.mem_of_getElem? (i := 72) rfl)) (hw _ (List.mem_of_getElem? (i := 73) rfl)) (mvT hZ (hw _ (List.mem_of_getElem? (i := 74) rfl))) (hw _ (List.mem_of_getElem? (i := 75) rfl)) (hw _ (List.mem_of_getElem? (i := 76) rfl)) (mvT hZ (hw _ (List.mem_of_getElem? (i := 77) rfl))) (mvT hZ (hw _ (List.mem_of_getElem? (i := 78) rfl))) (mvT hZ (hw _ (List.mem_of_getElem? (i := 68) rfl))) (by decide) (hw _ (List.mem_of_getElem? (i := 79) rfl)) (hw _ (List.mem_of_getElem? (i := 35) rfl)) (b := al) f1262 (W := 0) (own_add1n l Z a0 hw [] al ww e_ ke ((([] ++ [.ref ww]) ++ [.ref ww]) ++ [.ref ww]) 3 ((((0 : Int32) + 1) + 1) + 1) T262.heap n0 sz262 f1262 f2262 f3262 f4262 gf_al f5_262 f6 rfl (by decide) (by decide) nae gfe (fx266).exa nx3) rfl  (pc := 135) (Ls := #[.val (.int p1), .val (.int p2), .val (.int p3), .val (.int nn), .val (.int (((p1.toUInt32 >>> ((3 : Int32) &&& 31).toUInt32).toInt32) &&& (7 : Int32))), .val (.int (((p1.toUInt32 >>> ((6 : Int32) &&& 31).toUInt32).toInt32) &&& (15 : Int32))), .val (.int fl), .val (.ref f5), .val (.ref ww), .val (.ref al), .unset]) (argsL := [(.ref ww)]) (rest := []) (by rw [hml]; rfl) (lenOf own_pd11 rfl) rfl (hb hby at_135) (by decide) (by decide) (by decide) (by decide) ?_
              intro v267 T267 L267 X267 hQ267
              obtain ⟨rfl, N267, K267, f1267, f2267, f3267, f4267, f5_267⟩ := hQ267
              show OGo p e below (T267.setTop (mkF m 140 #[.val (.int p1), .val (.int p2), .val (.int p3), .val (.int nn), .val (.int (((p1.toUInt32 >>> ((3 : Int32) &&& 31).toUInt32).toInt32) &&& (7 : Int32))), .val (.int (((p1.toUInt32 >>> ((6 : Int32) &&& 31).toUInt32).toInt32) &&& (15 : Int32))), .val (.int fl), .val (.ref f5), .val (.ref ww), .val (.ref al), .unset] [(.int (1 : Int32))])) _
              have Nc267 := Fr.app Nc262 N267
              have sz267 : n0 ≤ T267.heap.size := Nat.le_trans sz262 K267.1
              have sf268 := Safe.keep K267 (sfS (Safe.exa (EL := consts_1) OW264.2.1.alike f1262 (by decide) (by decide)) (sfS sf263 sf0)) OW264.chv sf263
              have OW269 := OW264.keep K267 (sfS (Safe.exa (EL := consts_1) OW264.2.1.alike f1262 (by decide) (by decide)) (sfS sf263 sf0))
              refine OGo.step (fun _ kk => XS.pop X267.here hx rfl (hb hby at_140) rfl rfl kk) ?_
              refine OGo.step (fun _ kk => XS.iloadN X267.here hx rfl (hb hby at_141) rfl kk) ?_
              refine OGo.step (fun _ kk => XS.iconst X267.here hx rfl (hb hby at_142) kk) ?_
              show OGo p e below (T267.setTop (mkF m 143 #[.val (.int p1), .val (.int p2), .val (.int p3), .val (.int nn), .val (.int (((p1.toUInt32 >>> ((3 : Int32) &&& 31).toUInt32).toInt32) &&& (7 : Int32))), .val (.int (((p1.toUInt32 >>> ((6 : Int32) &&& 31).toUInt32).toInt32) &&& (15 : Int32))), .val (.int fl), .val (.ref f5), .val (.ref ww), .val (.ref al), .unset] [(.int (4 : Int32)), (.int nn)])) _
              by_cases hf4 : (4 : Int32) < nn
              · refine OGo.step (fun _ kk => XS.icmpNo X267.here hx rfl (hb hby at_143) rfl (tlt hf4).2.2.2 kk) ?_
                show OGo p e below (T267.setTop (mkF m 146 #[.val (.int p1), .val (.int p2), .val (.int p3), .val (.int nn), .val (.int (((p1.toUInt32 >>> ((3 : Int32) &&& 31).toUInt32).toInt32) &&& (7 : Int32))), .val (.int (((p1.toUInt32 >>> ((6 : Int32) &&& 31).toUInt32).toInt32) &&& (15 : Int32))), .val (.int fl), .val (.ref f5), .val (.ref ww), .val (.ref al), .unset] [])) _
                refine OGo.step (fun _ kk => XS.aload X267.here hx rfl (hb hby at_146) rfl rfl kk) ?_
                refine OGo.step (fun _ kk => XS.aload X267.here hx rfl (hb hby at_148) rfl rfl kk) ?_
                show OGo p e below (T267.setTop (mkF m 150 #[.val (.int p1), .val (.int p2), .val (.int p3), .val (.int nn), .val (.int (((p1.toUInt32 >>> ((3 : Int32) &&& 31).toUInt32).toInt32) &&& (7 : Int32))), .val (.int (((p1.toUInt32 >>> ((6 : Int32) &&& 31).toUInt32).toInt32) &&& (15 : Int32))), .val (.int fl), .val (.ref f5), .val (.ref ww), .val (.ref al), .unset] [(.ref f5), (.ref al)])) _
                have xt270 := (own_ext_trans Xe238 E242)
                have xt271 := (own_ext_keep xt270 K246 (allS (Nat.le_trans Xe238.1 (Nat.le_of_eq g242.symm)) all0))
                have xt272 := (own_ext_keep xt271 K253 (allS (Nat.le_trans Xe238.1 (Nat.le_of_eq g242.symm)) all0))
                have xt273 := (own_ext_keep xt272 K257 (allS (Nat.le_trans Xe238.1 (Nat.le_of_eq g242.symm)) (allS (Nat.le_trans xt271.1 ge_) all0)))
                have xt274 := (own_ext_keep xt273 K262 (allS (Nat.le_trans Xe238.1 (Nat.le_of_eq g242.symm)) (allS (Nat.le_trans xt271.1 ge_) all0)))
                have xt275 := (own_ext_keep xt274 K267 (allS (Nat.le_trans Xe238.1 (Nat.le_of_eq g242.symm)) (allS (Nat.le_trans xt271.1 ge_) all0)))
                have fx276 := Of236.ext xt275
                have nx4 : f5 ≠ al := own_neSa (fx276).exa f1267
                refine own_iface X267 hx hZ (y := (⟨"java/util/List", "add", "(Ljava/lang/Object;)Z"⟩ : MethodName)) (z := (⟨"java/util/ArrayList", "add", "(Ljava/lang/Object;)Z"⟩ : MethodName)) hown (hw _ (List.mem_of_getElem? (i := 72) rfl)) (hw _ (List.mem_of_getElem? (i := 73) rfl)) (mvT hZ (hw _ (List.mem_of_getElem? (i := 74) rfl))) (hw _ (List.mem_of_getElem? (i := 75) rfl)) (hw _ (List.mem_of_getElem? (i := 76) rfl)) (mvT hZ (hw _ (List.mem_of_getElem? (i := 77) rfl))) (mvT hZ (hw _ (List.mem_of_getElem? (i := 78) rfl))) (mvT hZ (hw _ (List.mem_of_getElem? (i := 68) rfl))) (by decide) (hw _ (List.mem_of_getElem? (i := 79) rfl)) (hw _ (List.mem_of_getElem? (i := 35) rfl)) (b := al) f1267 (W := 0) (own_add1n l Z a0 hw [] al f5 e_ ke (((([] ++ [.ref ww]) ++ [.ref ww]) ++ [.ref ww]) ++ [.ref ww]) 4 (((((0 : Int32) + 1) + 1) + 1) + 1) T267.heap n0 sz267 f1267 f2267 f3267 f4267 gf_al f5_267 f6 rfl (by decide) (by decide) nae gfe (fx276).exa nx4) rfl  (pc := 150) (Ls := #[.val (.int p1), .val (.int p2), .val (.int p3), .val (.int nn), .val (.int (((p1.toUInt32 >>> ((3 : Int32) &&& 31).toUInt32).toInt32) &&& (7 : Int32))), .val (.int (((p1.toUInt32 >>> ((6 : Int32) &&& 31).toUInt32).toInt32) &&& (15 : Int32))), .val (.int fl), .val (.ref f5), .val (.ref ww), .val (.ref al), .unset]) (argsL := [(.ref f5)]) (rest := []) (by rw [hml]; rfl) (lenOf own_pd11 rfl) rfl (hb hby at_150) (by decide) (by decide) (by decide) (by decide) ?_
                intro v277 T277 L277 X277 hQ277
                obtain ⟨rfl, N277, K277, f1277, f2277, f3277, f4277, f5_277⟩ := hQ277
                show OGo p e below (T277.setTop (mkF m 155 #[.val (.int p1), .val (.int p2), .val (.int p3), .val (.int nn), .val (.int (((p1.toUInt32 >>> ((3 : Int32) &&& 31).toUInt32).toInt32) &&& (7 : Int32))), .val (.int (((p1.toUInt32 >>> ((6 : Int32) &&& 31).toUInt32).toInt32) &&& (15 : Int32))), .val (.int fl), .val (.ref f5), .val (.ref ww), .val (.ref al), .unset] [(.int (1 : Int32))])) _
                have Nc277 := Fr.app Nc267 N277
                have sz277 : n0 ≤ T277.heap.size := Nat.le_trans sz267 K277.1
                have sf278 := Safe.keep K277 (sfS (Safe.exa (EL := consts_1) OW269.2.1.alike f1267 (by decide) (by decide)) (sfS sf268 sf0)) OW269.chv sf268
                have OW279 := OW269.keep K277 (sfS (Safe.exa (EL := consts_1) OW269.2.1.alike f1267 (by decide) (by decide)) (sfS sf268 sf0))
                refine OGo.step (fun _ kk => XS.pop X277.here hx rfl (hb hby at_155) rfl rfl kk) ?_
                refine OGo.step (fun _ kk => XS.iloadN X277.here hx rfl (hb hby at_156) rfl kk) ?_
                refine OGo.step (fun _ kk => XS.iconst X277.here hx rfl (hb hby at_157) kk) ?_
                show OGo p e below (T277.setTop (mkF m 158 #[.val (.int p1), .val (.int p2), .val (.int p3), .val (.int nn), .val (.int (((p1.toUInt32 >>> ((3 : Int32) &&& 31).toUInt32).toInt32) &&& (7 : Int32))), .val (.int (((p1.toUInt32 >>> ((6 : Int32) &&& 31).toUInt32).toInt32) &&& (15 : Int32))), .val (.int fl), .val (.ref f5), .val (.ref ww), .val (.ref al), .unset] [(.int (5 : Int32)), (.int nn)])) _
                by_cases hf5 : (5 : Int32) < nn
                · refine OGo.step (fun _ kk => XS.icmpNo X277.here hx rfl (hb hby at_158) rfl (tlt hf5).2.2.2 kk) ?_
                  show OGo p e below (T277.setTop (mkF m 161 #[.val (.int p1), .val (.int p2), .val (.int p3), .val (.int nn), .val (.int (((p1.toUInt32 >>> ((3 : Int32) &&& 31).toUInt32).toInt32) &&& (7 : Int32))), .val (.int (((p1.toUInt32 >>> ((6 : Int32) &&& 31).toUInt32).toInt32) &&& (15 : Int32))), .val (.int fl), .val (.ref f5), .val (.ref ww), .val (.ref al), .unset] [])) _
                  refine OGo.step (fun _ kk => XS.aload X277.here hx rfl (hb hby at_161) rfl rfl kk) ?_
                  refine OGo.step (fun _ kk => XS.aload X277.here hx rfl (hb hby at_163) rfl rfl kk) ?_
                  show OGo p e below (T277.setTop (mkF m 165 #[.val (.int p1), .val (.int p2), .val (.int p3), .val (.int nn), .val (.int (((p1.toUInt32 >>> ((3 : Int32) &&& 31).toUInt32).toInt32) &&& (7 : Int32))), .val (.int (((p1.toUInt32 >>> ((6 : Int32) &&& 31).toUInt32).toInt32) &&& (15 : Int32))), .val (.int fl), .val (.ref f5), .val (.ref ww), .val (.ref al), .unset] [(.ref ww), (.ref al)])) _
                  have xt280 := (own_ext_keep xt265 K267 (allS (Nat.le_of_eq g242.symm) (allS (Nat.le_trans xt248.1 ge_) all0)))
                  have xt281 := (own_ext_keep xt280 K277 (allS (Nat.le_of_eq g242.symm) (allS (Nat.le_trans xt248.1 ge_) all0)))
                  have fx282 := Ow238.ext xt281
                  have nx5 : ww ≠ al := own_neSa (fx282).exa f1277
                  refine own_iface X277 hx hZ (y := (⟨"java/util/List", "add", "(Ljava/lang/Object;)Z"⟩ : MethodName)) (z := (⟨"java/util/ArrayList", "add", "(Ljava/lang/Object;)Z"⟩ : MethodName)) hown (hw _ (List.mem_of_getElem? (i := 72) rfl)) (hw _ (List.mem_of_getElem? (i := 73) rfl)) (mvT hZ (hw _ (List.mem_of_getElem? (i := 74) rfl))) (hw _ (List.mem_of_getElem? (i := 75) rfl)) (hw _ (List.mem_of_getElem? (i := 76) rfl)) (mvT hZ (hw _ (List.mem_of_getElem? (i := 77) rfl))) (mvT hZ (hw _ (List.mem_of_getElem? (i := 78) rfl))) (mvT hZ (hw _ (List.mem_of_getElem? (i := 68) rfl))) (by decide) (hw _ (List.mem_of_getElem? (i := 79) rfl)) (hw _ (List.mem_of_getElem? (i := 35) rfl)) (b := al) f1277 (W := 0) (own_add1n l Z a0 hw [] al ww e_ ke ((((([] ++ [.ref ww]) ++ [.ref ww]) ++ [.ref ww]) ++ [.ref ww]) ++ [.ref f5]) 5 ((((((0 : Int32) + 1) + 1) + 1) + 1) + 1) T277.heap n0 sz277 f1277 f2277 f3277 f4277 gf_al f5_277 f6 rfl (by decide) (by decide) nae gfe (fx282).exa nx5) rfl  (pc := 165) (Ls := #[.val (.int p1), .val (.int p2), .val (.int p3), .val (.int nn), .val (.int (((p1.toUInt32 >>> ((3 : Int32) &&& 31).toUInt32).toInt32) &&& (7 : Int32))), .val (.int (((p1.toUInt32 >>> ((6 : Int32) &&& 31).toUInt32).toInt32) &&& (15 : Int32))), .val (.int fl), .val (.ref f5), .val (.ref ww), .val (.ref al), .unset]) (argsL := [(.ref ww)]) (rest := []) (by rw [hml]; rfl) (lenOf own_pd11 rfl) rfl (hb hby at_165) (by decide) (by decide) (by decide) (by decide) ?_
                  intro v283 T283 L283 X283 hQ283
                  obtain ⟨rfl, N283, K283, f1283, f2283, f3283, f4283, f5_283⟩ := hQ283
                  show OGo p e below (T283.setTop (mkF m 170 #[.val (.int p1), .val (.int p2), .val (.int p3), .val (.int nn), .val (.int (((p1.toUInt32 >>> ((3 : Int32) &&& 31).toUInt32).toInt32) &&& (7 : Int32))), .val (.int (((p1.toUInt32 >>> ((6 : Int32) &&& 31).toUInt32).toInt32) &&& (15 : Int32))), .val (.int fl), .val (.ref f5), .val (.ref ww), .val (.ref al), .unset] [(.int (1 : Int32))])) _
                  have Nc283 := Fr.app Nc277 N283
                  have sz283 : n0 ≤ T283.heap.size := Nat.le_trans sz277 K283.1
                  have sf284 := Safe.keep K283 (sfS (Safe.exa (EL := consts_1) OW279.2.1.alike f1277 (by decide) (by decide)) (sfS sf278 sf0)) OW279.chv sf278
                  have OW285 := OW279.keep K283 (sfS (Safe.exa (EL := consts_1) OW279.2.1.alike f1277 (by decide) (by decide)) (sfS sf278 sf0))
                  refine OGo.step (fun _ kk => XS.pop X283.here hx rfl (hb hby at_170) rfl rfl kk) ?_
                  refine OGo.step (fun _ kk => XS.iloadN X283.here hx rfl (hb hby at_171) rfl kk) ?_
                  refine OGo.step (fun _ kk => XS.bipush X283.here hx rfl (hb hby at_172) kk) ?_
                  show OGo p e below (T283.setTop (mkF m 174 #[.val (.int p1), .val (.int p2), .val (.int p3), .val (.int nn), .val (.int (((p1.toUInt32 >>> ((3 : Int32) &&& 31).toUInt32).toInt32) &&& (7 : Int32))), .val (.int (((p1.toUInt32 >>> ((6 : Int32) &&& 31).toUInt32).toInt32) &&& (15 : Int32))), .val (.int fl), .val (.ref f5), .val (.ref ww), .val (.ref al), .unset] [(.int (6 : Int32)), (.int nn)])) _
                  by_cases hf6 : (6 : Int32) < nn
                  · refine OGo.step (fun _ kk => XS.icmpNo X283.here hx rfl (hb hby at_174) rfl (tlt hf6).2.2.2 kk) ?_
                    show OGo p e below (T283.setTop (mkF m 177 #[.val (.int p1), .val (.int p2), .val (.int p3), .val (.int nn), .val (.int (((p1.toUInt32 >>> ((3 : Int32) &&& 31).toUInt32).toInt32) &&& (7 : Int32))), .val (.int (((p1.toUInt32 >>> ((6 : Int32) &&& 31).toUInt32).toInt32) &&& (15 : Int32))), .val (.int fl), .val (.ref f5), .val (.ref ww), .val (.ref al), .unset] [])) _
                    refine OGo.step (fun _ kk => XS.aload X283.here hx rfl (hb hby at_177) rfl rfl kk) ?_
                    refine OGo.step (fun _ kk => XS.aload X283.here hx rfl (hb hby at_179) rfl rfl kk) ?_
                    show OGo p e below (T283.setTop (mkF m 181 #[.val (.int p1), .val (.int p2), .val (.int p3), .val (.int nn), .val (.int (((p1.toUInt32 >>> ((3 : Int32) &&& 31).toUInt32).toInt32) &&& (7 : Int32))), .val (.int (((p1.toUInt32 >>> ((6 : Int32) &&& 31).toUInt32).toInt32) &&& (15 : Int32))), .val (.int fl), .val (.ref f5), .val (.ref ww), .val (.ref al), .unset] [(.ref ww), (.ref al)])) _
                    have xt286 := (own_ext_keep xt281 K283 (allS (Nat.le_of_eq g242.symm) (allS (Nat.le_trans xt248.1 ge_) all0)))
                    have fx287 := Ow238.ext xt286
                    have nx6 : ww ≠ al := own_neSa (fx287).exa f1283
                    refine own_iface X283 hx hZ (y := (⟨"java/util/List", "add", "(Ljava/lang/Object;)Z"⟩ : MethodName)) (z := (⟨"java/util/ArrayList", "add", "(Ljava/lang/Object;)Z"⟩ : MethodName)) hown (hw _ (List.mem_of_getElem? (i := 72) rfl)) (hw _ (List.mem_of_getElem? (i := 73) rfl)) (mvT hZ (hw _ (List.mem_of_getElem? (i := 74) rfl))) (hw _ (List.mem_of_getElem? (i := 75) rfl)) (hw _ (List.mem_of_getElem? (i := 76) rfl)) (mvT hZ (hw _ (List.mem_of_getElem? (i := 77) rfl))) (mvT hZ (hw _ (List.mem_of_getElem? (i := 78) rfl))) (mvT hZ (hw _ (List.mem_of_getElem? (i := 68) rfl))) (by decide) (hw _ (List.mem_of_getElem? (i := 79) rfl)) (hw _ (List.mem_of_getElem? (i := 35) rfl)) (b := al) f1283 (W := 0) (own_add1n l Z a0 hw [] al ww e_ ke (((((([] ++ [.ref ww]) ++ [.ref ww]) ++ [.ref ww]) ++ [.ref ww]) ++ [.ref f5]) ++ [.ref ww]) 6 (((((((0 : Int32) + 1) + 1) + 1) + 1) + 1) + 1) T283.heap n0 sz283 f1283 f2283 f3283 f4283 gf_al f5_283 f6 rfl (by decide) (by decide) nae gfe (fx287).exa nx6) rfl  (pc := 181) (Ls := #[.val (.int p1), .val (.int p2), .val (.int p3), .val (.int nn), .val (.int (((p1.toUInt32 >>> ((3 : Int32) &&& 31).toUInt32).toInt32) &&& (7 : Int32))), .val (.int (((p1.toUInt32 >>> ((6 : Int32) &&& 31).toUInt32).toInt32) &&& (15 : Int32))), .val (.int fl), .val (.ref f5), .val (.ref ww), .val (.ref al), .unset]) (argsL := [(.ref ww)]) (rest := []) (by rw [hml]; rfl) (lenOf own_pd11 rfl) rfl (hb hby at_181) (by decide) (by decide) (by decide) (by decide) ?_
                    intro v288 T288 L288 X288 hQ288
                    obtain ⟨rfl, N288, K288, f1288, f2288, f3288, f4288, f5_288⟩ := hQ288
                    show OGo p e below (T288.setTop (mkF m 186 #[.val (.int p1), .val (.int p2), .val (.int p3), .val (.int nn), .val (.int (((p1.toUInt32 >>> ((3 : Int32) &&& 31).toUInt32).toInt32) &&& (7 : Int32))), .val (.int (((p1.toUInt32 >>> ((6 : Int32) &&& 31).toUInt32).toInt32) &&& (15 : Int32))), .val (.int fl), .val (.ref f5), .val (.ref ww), .val (.ref al), .unset] [(.int (1 : Int32))])) _
                    have Nc288 := Fr.app Nc283 N288
                    have sz288 : n0 ≤ T288.heap.size := Nat.le_trans sz283 K288.1
                    have sf289 := Safe.keep K288 (sfS (Safe.exa (EL := consts_1) OW285.2.1.alike f1283 (by decide) (by decide)) (sfS sf284 sf0)) OW285.chv sf284
                    have OW290 := OW285.keep K288 (sfS (Safe.exa (EL := consts_1) OW285.2.1.alike f1283 (by decide) (by decide)) (sfS sf284 sf0))
                    obtain rfl := own_sk7 h8 hf6
                    show OGo p e below (T288.setTop (mkF m 186 #[.val (.int p1), .val (.int p2), .val (.int p3), .val (.int (7 : Int32)), .val (.int (((p1.toUInt32 >>> ((3 : Int32) &&& 31).toUInt32).toInt32) &&& (7 : Int32))), .val (.int (((p1.toUInt32 >>> ((6 : Int32) &&& 31).toUInt32).toInt32) &&& (15 : Int32))), .val (.int fl), .val (.ref f5), .val (.ref ww), .val (.ref al), .unset] [(.int (1 : Int32))])) _
                    refine OGo.step (fun _ kk => XS.pop X288.here hx rfl (hb hby at_186) rfl rfl kk) ?_
                    refine OGo.step (fun _ kk => XS.iloadN X288.here hx rfl (hb hby at_187) rfl kk) ?_
                    refine OGo.step (fun _ kk => XS.iconst X288.here hx rfl (hb hby at_188) kk) ?_
                    show OGo p e below (T288.setTop (mkF m 189 #[.val (.int p1), .val (.int p2), .val (.int p3), .val (.int (7 : Int32)), .val (.int (((p1.toUInt32 >>> ((3 : Int32) &&& 31).toUInt32).toInt32) &&& (7 : Int32))), .val (.int (((p1.toUInt32 >>> ((6 : Int32) &&& 31).toUInt32).toInt32) &&& (15 : Int32))), .val (.int fl), .val (.ref f5), .val (.ref ww), .val (.ref al), .unset] [(.int (4 : Int32)), (.int (7 : Int32))])) _
                    refine OGo.step (fun _ kk => XS.icmpNo X288.here hx rfl (hb hby at_189) rfl (feq (by decide)).1 kk) ?_
                    show OGo p e below (T288.setTop (mkF m 192 #[.val (.int p1), .val (.int p2), .val (.int p3), .val (.int (7 : Int32)), .val (.int (((p1.toUInt32 >>> ((3 : Int32) &&& 31).toUInt32).toInt32) &&& (7 : Int32))), .val (.int (((p1.toUInt32 >>> ((6 : Int32) &&& 31).toUInt32).toInt32) &&& (15 : Int32))), .val (.int fl), .val (.ref f5), .val (.ref ww), .val (.ref al), .unset] [])) _
                    refine OGo.step (fun _ kk => XS.iloadN X288.here hx rfl (hb hby at_192) rfl kk) ?_
                    refine OGo.step (fun _ kk => XS.bipush X288.here hx rfl (hb hby at_193) kk) ?_
                    show OGo p e below (T288.setTop (mkF m 195 #[.val (.int p1), .val (.int p2), .val (.int p3), .val (.int (7 : Int32)), .val (.int (((p1.toUInt32 >>> ((3 : Int32) &&& 31).toUInt32).toInt32) &&& (7 : Int32))), .val (.int (((p1.toUInt32 >>> ((6 : Int32) &&& 31).toUInt32).toInt32) &&& (15 : Int32))), .val (.int fl), .val (.ref f5), .val (.ref ww), .val (.ref al), .unset] [(.int (6 : Int32)), (.int (7 : Int32))])) _
                    refine OGo.step (fun _ kk => XS.icmpYes X288.here hx rfl (pc0 := 195) (pc' := 210) rfl (hb hby at_195) rfl (feq (by decide)).2 (by decide) (by decide) kk) ?_
                    show OGo p e below (T288.setTop (mkF m 210 #[.val (.int p1), .val (.int p2), .val (.int p3), .val (.int (7 : Int32)), .val (.int (((p1.toUInt32 >>> ((3 : Int32) &&& 31).toUInt32).toInt32) &&& (7 : Int32))), .val (.int (((p1.toUInt32 >>> ((6 : Int32) &&& 31).toUInt32).toInt32) &&& (15 : Int32))), .val (.int fl), .val (.ref f5), .val (.ref ww), .val (.ref al), .unset] [])) _
                    refine OGo.step (fun _ kk => XS.iconst X288.here hx rfl (hb hby at_210) kk) ?_
                    refine OGo.step (fun _ kk => XS.istore X288.here hx rfl (hb hby at_211) rfl (l' := #[.val (.int p1), .val (.int p2), .val (.int p3), .val (.int (7 : Int32)), .val (.int (((p1.toUInt32 >>> ((3 : Int32) &&& 31).toUInt32).toInt32) &&& (7 : Int32))), .val (.int (((p1.toUInt32 >>> ((6 : Int32) &&& 31).toUInt32).toInt32) &&& (15 : Int32))), .val (.int fl), .val (.ref f5), .val (.ref ww), .val (.ref al), .val (.int (0 : Int32))]) rfl kk) ?_
                    refine OGo.step (fun _ kk => XS.aload X288.here hx rfl (hb hby at_213) rfl rfl kk) ?_
                    show OGo p e below (T288.setTop (mkF m 215 #[.val (.int p1), .val (.int p2), .val (.int p3), .val (.int (7 : Int32)), .val (.int (((p1.toUInt32 >>> ((3 : Int32) &&& 31).toUInt32).toInt32) &&& (7 : Int32))), .val (.int (((p1.toUInt32 >>> ((6 : Int32) &&& 31).toUInt32).toInt32) &&& (15 : Int32))), .val (.int fl), .val (.ref f5), .val (.ref ww), .val (.ref al), .val (.int (0 : Int32))] [(.ref al)])) _
                    refine own_callSW X288 hx hZ (y := (⟨"com/example/tags_to_grants/tagstogrants/cli/TagsToGrants", "isOneRequest", "(Ljava/util/List;)Z"⟩ : MethodName)) hown (hw _ (List.mem_of_getElem? (i := 57) rfl)) (hw _ (List.mem_of_getElem? (i := 58) rfl)) (hw _ (List.mem_of_getElem? (i := 59) rfl)) (hw _ (List.mem_of_getElem? (i := 60) rfl)) (by decide) hEL OW290 (W := 0) (own_one7 l Z a0 hw [] al T288.heap n0 sz288 f1288 f3288) rfl  (pc := 215) (Ls := #[.val (.int p1), .val (.int p2), .val (.int p3), .val (.int (7 : Int32)), .val (.int (((p1.toUInt32 >>> ((3 : Int32) &&& 31).toUInt32).toInt32) &&& (7 : Int32))), .val (.int (((p1.toUInt32 >>> ((6 : Int32) &&& 31).toUInt32).toInt32) &&& (15 : Int32))), .val (.int fl), .val (.ref f5), .val (.ref ww), .val (.ref al), .val (.int (0 : Int32))]) (argsL := [(.ref al)]) (rest := []) (by rw [hml]; rfl) (lenOf own_pd13 rfl) rfl (hb hby at_215) (by decide) (by decide) (by decide) (by decide) ?_
                    intro v291 T291 L291 X291 hQ291 OW291 hZ hown CH291
                    obtain ⟨rfl, N291, Xe291⟩ := hQ291
                    have sf292 := CH291.safe (f5_288).lt sf289
                    show OGo p e below (T291.setTop (mkF m 218 #[.val (.int p1), .val (.int p2), .val (.int p3), .val (.int (7 : Int32)), .val (.int (((p1.toUInt32 >>> ((3 : Int32) &&& 31).toUInt32).toInt32) &&& (7 : Int32))), .val (.int (((p1.toUInt32 >>> ((6 : Int32) &&& 31).toUInt32).toInt32) &&& (15 : Int32))), .val (.int fl), .val (.ref f5), .val (.ref ww), .val (.ref al), .val (.int (0 : Int32))] [(.int (0 : Int32))])) _
                    have Nc291 := Fr.app Nc288 N291
                    have sz291 : n0 ≤ T291.heap.size := Nat.le_trans sz288 Xe291.1
                    refine OGo.step (fun _ kk => XS.iload X291.here hx rfl (hb hby at_218) rfl kk) ?_
                    show OGo p e below (T291.setTop (mkF m 220 #[.val (.int p1), .val (.int p2), .val (.int p3), .val (.int (7 : Int32)), .val (.int (((p1.toUInt32 >>> ((3 : Int32) &&& 31).toUInt32).toInt32) &&& (7 : Int32))), .val (.int (((p1.toUInt32 >>> ((6 : Int32) &&& 31).toUInt32).toInt32) &&& (15 : Int32))), .val (.int fl), .val (.ref f5), .val (.ref ww), .val (.ref al), .val (.int (0 : Int32))] [(.int (0 : Int32)), (.int (0 : Int32))])) _
                    refine OGo.step (fun _ kk => XS.icmpNo X291.here hx rfl (hb hby at_220) rfl (teq rfl).2 kk) ?_
                    show OGo p e below (T291.setTop (mkF m 223 #[.val (.int p1), .val (.int p2), .val (.int p3), .val (.int (7 : Int32)), .val (.int (((p1.toUInt32 >>> ((3 : Int32) &&& 31).toUInt32).toInt32) &&& (7 : Int32))), .val (.int (((p1.toUInt32 >>> ((6 : Int32) &&& 31).toUInt32).toInt32) &&& (15 : Int32))), .val (.int fl), .val (.ref f5), .val (.ref ww), .val (.ref al), .val (.int (0 : Int32))] [])) _
                    refine OGo.step (fun _ kk => XS.iconst X291.here hx rfl (hb hby at_223) kk) ?_
                    refine OGo.step (fun _ kk => XS.goto X291.here hx rfl (pc0 := 224) (pc' := 228) rfl (hb hby at_224) (by decide) (by decide) kk) ?_
                    show OGo p e below (T291.setTop (mkF m 228 #[.val (.int p1), .val (.int p2), .val (.int p3), .val (.int (7 : Int32)), .val (.int (((p1.toUInt32 >>> ((3 : Int32) &&& 31).toUInt32).toInt32) &&& (7 : Int32))), .val (.int (((p1.toUInt32 >>> ((6 : Int32) &&& 31).toUInt32).toInt32) &&& (15 : Int32))), .val (.int fl), .val (.ref f5), .val (.ref ww), .val (.ref al), .val (.int (0 : Int32))] [(.int (1 : Int32))])) _
                    exact own_retNW X291 hx hlk hEL OW291 rfl hret (by simp) (hb hby at_228) ⟨by rw [own_nar1], Nc291⟩ (by decide) (by decide)
                  · refine OGo.step (fun _ kk => XS.icmpYes X283.here hx rfl (pc0 := 174) (pc' := 187) rfl (hb hby at_174) rfl (flt hf6).2.2.2 (by decide) (by decide) kk) ?_
                    show OGo p e below (T283.setTop (mkF m 187 #[.val (.int p1), .val (.int p2), .val (.int p3), .val (.int nn), .val (.int (((p1.toUInt32 >>> ((3 : Int32) &&& 31).toUInt32).toInt32) &&& (7 : Int32))), .val (.int (((p1.toUInt32 >>> ((6 : Int32) &&& 31).toUInt32).toInt32) &&& (15 : Int32))), .val (.int fl), .val (.ref f5), .val (.ref ww), .val (.ref al), .unset] [])) _
                    obtain rfl := own_sk6 h8 hf5 hf6
                    show OGo p e below (T283.setTop (mkF m 187 #[.val (.int p1), .val (.int p2), .val (.int p3), .val (.int (6 : Int32)), .val (.int (((p1.toUInt32 >>> ((3 : Int32) &&& 31).toUInt32).toInt32) &&& (7 : Int32))), .val (.int (((p1.toUInt32 >>> ((6 : Int32) &&& 31).toUInt32).toInt32) &&& (15 : Int32))), .val (.int fl), .val (.ref f5), .val (.ref ww), .val (.ref al), .unset] [])) _
                    refine OGo.step (fun _ kk => XS.iloadN X283.here hx rfl (hb hby at_187) rfl kk) ?_
                    refine OGo.step (fun _ kk => XS.iconst X283.here hx rfl (hb hby at_188) kk) ?_
                    show OGo p e below (T283.setTop (mkF m 189 #[.val (.int p1), .val (.int p2), .val (.int p3), .val (.int (6 : Int32)), .val (.int (((p1.toUInt32 >>> ((3 : Int32) &&& 31).toUInt32).toInt32) &&& (7 : Int32))), .val (.int (((p1.toUInt32 >>> ((6 : Int32) &&& 31).toUInt32).toInt32) &&& (15 : Int32))), .val (.int fl), .val (.ref f5), .val (.ref ww), .val (.ref al), .unset] [(.int (4 : Int32)), (.int (6 : Int32))])) _
                    refine OGo.step (fun _ kk => XS.icmpNo X283.here hx rfl (hb hby at_189) rfl (feq (by decide)).1 kk) ?_
                    show OGo p e below (T283.setTop (mkF m 192 #[.val (.int p1), .val (.int p2), .val (.int p3), .val (.int (6 : Int32)), .val (.int (((p1.toUInt32 >>> ((3 : Int32) &&& 31).toUInt32).toInt32) &&& (7 : Int32))), .val (.int (((p1.toUInt32 >>> ((6 : Int32) &&& 31).toUInt32).toInt32) &&& (15 : Int32))), .val (.int fl), .val (.ref f5), .val (.ref ww), .val (.ref al), .unset] [])) _
                    refine OGo.step (fun _ kk => XS.iloadN X283.here hx rfl (hb hby at_192) rfl kk) ?_
                    refine OGo.step (fun _ kk => XS.bipush X283.here hx rfl (hb hby at_193) kk) ?_
                    show OGo p e below (T283.setTop (mkF m 195 #[.val (.int p1), .val (.int p2), .val (.int p3), .val (.int (6 : Int32)), .val (.int (((p1.toUInt32 >>> ((3 : Int32) &&& 31).toUInt32).toInt32) &&& (7 : Int32))), .val (.int (((p1.toUInt32 >>> ((6 : Int32) &&& 31).toUInt32).toInt32) &&& (15 : Int32))), .val (.int fl), .val (.ref f5), .val (.ref ww), .val (.ref al), .unset] [(.int (6 : Int32)), (.int (6 : Int32))])) _
                    refine OGo.step (fun _ kk => XS.icmpNo X283.here hx rfl (hb hby at_195) rfl (teq rfl).2 kk) ?_
                    show OGo p e below (T283.setTop (mkF m 198 #[.val (.int p1), .val (.int p2), .val (.int p3), .val (.int (6 : Int32)), .val (.int (((p1.toUInt32 >>> ((3 : Int32) &&& 31).toUInt32).toInt32) &&& (7 : Int32))), .val (.int (((p1.toUInt32 >>> ((6 : Int32) &&& 31).toUInt32).toInt32) &&& (15 : Int32))), .val (.int fl), .val (.ref f5), .val (.ref ww), .val (.ref al), .unset] [])) _
                    refine OGo.step (fun _ kk => XS.aload X283.here hx rfl (hb hby at_198) rfl rfl kk) ?_
                    show OGo p e below (T283.setTop (mkF m 200 #[.val (.int p1), .val (.int p2), .val (.int p3), .val (.int (6 : Int32)), .val (.int (((p1.toUInt32 >>> ((3 : Int32) &&& 31).toUInt32).toInt32) &&& (7 : Int32))), .val (.int (((p1.toUInt32 >>> ((6 : Int32) &&& 31).toUInt32).toInt32) &&& (15 : Int32))), .val (.int fl), .val (.ref f5), .val (.ref ww), .val (.ref al), .unset] [(.ref f5)])) _
                    have xt293 := (own_ext_keep xt250 K253 (allS (Nat.le_trans xt240.1 (Nat.le_of_eq g242.symm)) all0))
                    have xt294 := (own_ext_keep xt293 K257 (allS (Nat.le_trans xt240.1 (Nat.le_of_eq g242.symm)) (allS (Nat.le_trans xt250.1 ge_) all0)))
                    have xt295 := (own_ext_keep xt294 K262 (allS (Nat.le_trans xt240.1 (Nat.le_of_eq g242.symm)) (allS (Nat.le_trans xt250.1 ge_) all0)))
                    have xt296 := (own_ext_keep xt295 K267 (allS (Nat.le_trans xt240.1 (Nat.le_of_eq g242.symm)) (allS (Nat.le_trans xt250.1 ge_) all0)))
                    have xt297 := (own_ext_keep xt296 K277 (allS (Nat.le_trans xt240.1 (Nat.le_of_eq g242.symm)) (allS (Nat.le_trans xt250.1 ge_) all0)))
                    have xt298 := (own_ext_keep xt297 K283 (allS (Nat.le_trans xt240.1 (Nat.le_of_eq g242.symm)) (allS (Nat.le_trans xt250.1 ge_) all0)))
                    have fx299 := SC.ext xt298
                    have fx300 := SF.ext xt298
                    have xt301 := (own_ext_keep xt275 K277 (allS (Nat.le_trans Xe238.1 (Nat.le_of_eq g242.symm)) (allS (Nat.le_trans xt271.1 ge_) all0)))
                    have xt302 := (own_ext_keep xt301 K283 (allS (Nat.le_trans Xe238.1 (Nat.le_of_eq g242.symm)) (allS (Nat.le_trans xt271.1 ge_) all0)))
                    have fx303 := Of236.ext xt302
                    refine own_callS X283 hx hZ (y := (⟨"com/example/tags_to_grants/tagstogrants/cli/TagsToGrantsIsOneRequestPinLaw", "isAs", "(Ljava/lang/String;)Z"⟩ : MethodName)) hown (hw _ (List.mem_of_getElem? (i := 123) rfl)) (hw _ (List.mem_of_getElem? (i := 124) rfl)) (hw _ (List.mem_of_getElem? (i := 2) rfl)) (hw _ (List.mem_of_getElem? (i := 125) rfl)) (by decide) (W := 0) (own_isAs l Z a0 hw [] f5 cs zc fm T283.heap n0 sz283 fx299 hzc fx300 hfm fx303 hs) rfl  (pc := 200) (Ls := #[.val (.int p1), .val (.int p2), .val (.int p3), .val (.int (6 : Int32)), .val (.int (((p1.toUInt32 >>> ((3 : Int32) &&& 31).toUInt32).toInt32) &&& (7 : Int32))), .val (.int (((p1.toUInt32 >>> ((6 : Int32) &&& 31).toUInt32).toInt32) &&& (15 : Int32))), .val (.int fl), .val (.ref f5), .val (.ref ww), .val (.ref al), .unset]) (argsL := [(.ref f5)]) (rest := []) (by rw [hml]; rfl) (lenOf own_pd14 rfl) rfl (hb hby at_200) (by decide) (by decide) (by decide) (by decide) ?_
                    intro v304 T304 L304 X304 hQ304
                    obtain ⟨rfl, N304, e304⟩ := hQ304
                    show OGo p e below (T304.setTop (mkF m 203 #[.val (.int p1), .val (.int p2), .val (.int p3), .val (.int (6 : Int32)), .val (.int (((p1.toUInt32 >>> ((3 : Int32) &&& 31).toUInt32).toInt32) &&& (7 : Int32))), .val (.int (((p1.toUInt32 >>> ((6 : Int32) &&& 31).toUInt32).toInt32) &&& (15 : Int32))), .val (.int fl), .val (.ref f5), .val (.ref ww), .val (.ref al), .unset] [(.int (if cs = ([45, 45, 97, 115] : List Int32) then (1 : Int32) else 0))])) _
                    have Nc304 := Fr.app Nc283 N304
                    by_cases hr : (if cs = ([45, 45, 97, 115] : List Int32) then (1 : Int32) else 0) = (0 : Int32)
                    · refine OGo.step (fun _ kk => XS.ifYes X304.here hx rfl (pc0 := 203) (pc' := 210) rfl (hb hby at_203) rfl ((if0 _ _).trans (teq hr).1) (by decide) (by decide) kk) ?_
                      show OGo p e below (T304.setTop (mkF m 210 #[.val (.int p1), .val (.int p2), .val (.int p3), .val (.int (6 : Int32)), .val (.int (((p1.toUInt32 >>> ((3 : Int32) &&& 31).toUInt32).toInt32) &&& (7 : Int32))), .val (.int (((p1.toUInt32 >>> ((6 : Int32) &&& 31).toUInt32).toInt32) &&& (15 : Int32))), .val (.int fl), .val (.ref f5), .val (.ref ww), .val (.ref al), .unset] [])) _
                      refine OGo.step (fun _ kk => XS.iconst X304.here hx rfl (hb hby at_210) kk) ?_
                      refine OGo.step (fun _ kk => XS.istore X304.here hx rfl (hb hby at_211) rfl (l' := #[.val (.int p1), .val (.int p2), .val (.int p3), .val (.int (6 : Int32)), .val (.int (((p1.toUInt32 >>> ((3 : Int32) &&& 31).toUInt32).toInt32) &&& (7 : Int32))), .val (.int (((p1.toUInt32 >>> ((6 : Int32) &&& 31).toUInt32).toInt32) &&& (15 : Int32))), .val (.int fl), .val (.ref f5), .val (.ref ww), .val (.ref al), .val (.int (0 : Int32))]) rfl kk) ?_
                      refine OGo.step (fun _ kk => XS.aload X304.here hx rfl (hb hby at_213) rfl rfl kk) ?_
                      show OGo p e below (T304.setTop (mkF m 215 #[.val (.int p1), .val (.int p2), .val (.int p3), .val (.int (6 : Int32)), .val (.int (((p1.toUInt32 >>> ((3 : Int32) &&& 31).toUInt32).toInt32) &&& (7 : Int32))), .val (.int (((p1.toUInt32 >>> ((6 : Int32) &&& 31).toUInt32).toInt32) &&& (15 : Int32))), .val (.int fl), .val (.ref f5), .val (.ref ww), .val (.ref al), .val (.int (0 : Int32))] [(.ref al)])) _
                      refine own_callSW X304 hx hZ (y := (⟨"com/example/tags_to_grants/tagstogrants/cli/TagsToGrants", "isOneRequest", "(Ljava/util/List;)Z"⟩ : MethodName)) hown (hw _ (List.mem_of_getElem? (i := 57) rfl)) (hw _ (List.mem_of_getElem? (i := 58) rfl)) (hw _ (List.mem_of_getElem? (i := 59) rfl)) (hw _ (List.mem_of_getElem? (i := 60) rfl)) (by decide) hEL OW285 (W := 0) (own_one6 l Z a0 hw [] al e_ f5 ke (((((([] ++ [.ref ww]) ++ [.ref ww]) ++ [.ref ww]) ++ [.ref ww]) ++ [.ref f5]) ++ [.ref ww]) cs zc T283.heap n0 sz283 fx299 hzc f1283 f3283 f2283 f5_283 rfl fx303) e304  (pc := 215) (Ls := #[.val (.int p1), .val (.int p2), .val (.int p3), .val (.int (6 : Int32)), .val (.int (((p1.toUInt32 >>> ((3 : Int32) &&& 31).toUInt32).toInt32) &&& (7 : Int32))), .val (.int (((p1.toUInt32 >>> ((6 : Int32) &&& 31).toUInt32).toInt32) &&& (15 : Int32))), .val (.int fl), .val (.ref f5), .val (.ref ww), .val (.ref al), .val (.int (0 : Int32))]) (argsL := [(.ref al)]) (rest := []) (by rw [hml]; rfl) (lenOf own_pd13 rfl) rfl (hb hby at_215) (by decide) (by decide) (by decide) (by decide) ?_
                      intro v305 T305 L305 X305 hQ305 OW305 hZ hown CH305
                      obtain ⟨rfl, N305, Xe305⟩ := hQ305
                      have sf306 := CH305.safe (f5_283).lt sf284
                      show OGo p e below (T305.setTop (mkF m 218 #[.val (.int p1), .val (.int p2), .val (.int p3), .val (.int (6 : Int32)), .val (.int (((p1.toUInt32 >>> ((3 : Int32) &&& 31).toUInt32).toInt32) &&& (7 : Int32))), .val (.int (((p1.toUInt32 >>> ((6 : Int32) &&& 31).toUInt32).toInt32) &&& (15 : Int32))), .val (.int fl), .val (.ref f5), .val (.ref ww), .val (.ref al), .val (.int (0 : Int32))] [(.int (if cs = ([45, 45, 97, 115] : List Int32) then (1 : Int32) else 0))])) _
                      have Nc305 := Fr.app Nc304 N305
                      have sz305 : n0 ≤ T305.heap.size := Nat.le_trans sz283 Xe305.1
                      refine OGo.step (fun _ kk => XS.iload X305.here hx rfl (hb hby at_218) rfl kk) ?_
                      show OGo p e below (T305.setTop (mkF m 220 #[.val (.int p1), .val (.int p2), .val (.int p3), .val (.int (6 : Int32)), .val (.int (((p1.toUInt32 >>> ((3 : Int32) &&& 31).toUInt32).toInt32) &&& (7 : Int32))), .val (.int (((p1.toUInt32 >>> ((6 : Int32) &&& 31).toUInt32).toInt32) &&& (15 : Int32))), .val (.int fl), .val (.ref f5), .val (.ref ww), .val (.ref al), .val (.int (0 : Int32))] [(.int (0 : Int32)), (.int (if cs = ([45, 45, 97, 115] : List Int32) then (1 : Int32) else 0))])) _
                      refine OGo.step (fun _ kk => XS.icmpNo X305.here hx rfl (hb hby at_220) rfl (teq (if_neg (own_if0 hr))).2 kk) ?_
                      show OGo p e below (T305.setTop (mkF m 223 #[.val (.int p1), .val (.int p2), .val (.int p3), .val (.int (6 : Int32)), .val (.int (((p1.toUInt32 >>> ((3 : Int32) &&& 31).toUInt32).toInt32) &&& (7 : Int32))), .val (.int (((p1.toUInt32 >>> ((6 : Int32) &&& 31).toUInt32).toInt32) &&& (15 : Int32))), .val (.int fl), .val (.ref f5), .val (.ref ww), .val (.ref al), .val (.int (0 : Int32))] [])) _
                      refine OGo.step (fun _ kk => XS.iconst X305.here hx rfl (hb hby at_223) kk) ?_
                      refine OGo.step (fun _ kk => XS.goto X305.here hx rfl (pc0 := 224) (pc' := 228) rfl (hb hby at_224) (by decide) (by decide) kk) ?_
                      show OGo p e below (T305.setTop (mkF m 228 #[.val (.int p1), .val (.int p2), .val (.int p3), .val (.int (6 : Int32)), .val (.int (((p1.toUInt32 >>> ((3 : Int32) &&& 31).toUInt32).toInt32) &&& (7 : Int32))), .val (.int (((p1.toUInt32 >>> ((6 : Int32) &&& 31).toUInt32).toInt32) &&& (15 : Int32))), .val (.int fl), .val (.ref f5), .val (.ref ww), .val (.ref al), .val (.int (0 : Int32))] [(.int (1 : Int32))])) _
                      exact own_retNW X305 hx hlk hEL OW305 rfl hret (by simp) (hb hby at_228) ⟨by rw [own_nar1], Nc305⟩ (by decide) (by decide)
                    · refine OGo.step (fun _ kk => XS.ifNo X304.here hx rfl (hb hby at_203) rfl ((if0 _ _).trans (feq hr).1) kk) ?_
                      show OGo p e below (T304.setTop (mkF m 206 #[.val (.int p1), .val (.int p2), .val (.int p3), .val (.int (6 : Int32)), .val (.int (((p1.toUInt32 >>> ((3 : Int32) &&& 31).toUInt32).toInt32) &&& (7 : Int32))), .val (.int (((p1.toUInt32 >>> ((6 : Int32) &&& 31).toUInt32).toInt32) &&& (15 : Int32))), .val (.int fl), .val (.ref f5), .val (.ref ww), .val (.ref al), .unset] [])) _
                      refine OGo.step (fun _ kk => XS.iconst X304.here hx rfl (hb hby at_206) kk) ?_
                      refine OGo.step (fun _ kk => XS.goto X304.here hx rfl (pc0 := 207) (pc' := 211) rfl (hb hby at_207) (by decide) (by decide) kk) ?_
                      refine OGo.step (fun _ kk => XS.istore X304.here hx rfl (hb hby at_211) rfl (l' := #[.val (.int p1), .val (.int p2), .val (.int p3), .val (.int (6 : Int32)), .val (.int (((p1.toUInt32 >>> ((3 : Int32) &&& 31).toUInt32).toInt32) &&& (7 : Int32))), .val (.int (((p1.toUInt32 >>> ((6 : Int32) &&& 31).toUInt32).toInt32) &&& (15 : Int32))), .val (.int fl), .val (.ref f5), .val (.ref ww), .val (.ref al), .val (.int (1 : Int32))]) rfl kk) ?_
                      refine OGo.step (fun _ kk => XS.aload X304.here hx rfl (hb hby at_213) rfl rfl kk) ?_
                      show OGo p e below (T304.setTop (mkF m 215 #[.val (.int p1), .val (.int p2), .val (.int p3), .val (.int (6 : Int32)), .val (.int (((p1.toUInt32 >>> ((3 : Int32) &&& 31).toUInt32).toInt32) &&& (7 : Int32))), .val (.int (((p1.toUInt32 >>> ((6 : Int32) &&& 31).toUInt32).toInt32) &&& (15 : Int32))), .val (.int fl), .val (.ref f5), .val (.ref ww), .val (.ref al), .val (.int (1 : Int32))] [(.ref al)])) _
                      refine own_callSW X304 hx hZ (y := (⟨"com/example/tags_to_grants/tagstogrants/cli/TagsToGrants", "isOneRequest", "(Ljava/util/List;)Z"⟩ : MethodName)) hown (hw _ (List.mem_of_getElem? (i := 57) rfl)) (hw _ (List.mem_of_getElem? (i := 58) rfl)) (hw _ (List.mem_of_getElem? (i := 59) rfl)) (hw _ (List.mem_of_getElem? (i := 60) rfl)) (by decide) hEL OW285 (W := 0) (own_one6 l Z a0 hw [] al e_ f5 ke (((((([] ++ [.ref ww]) ++ [.ref ww]) ++ [.ref ww]) ++ [.ref ww]) ++ [.ref f5]) ++ [.ref ww]) cs zc T283.heap n0 sz283 fx299 hzc f1283 f3283 f2283 f5_283 rfl fx303) e304  (pc := 215) (Ls := #[.val (.int p1), .val (.int p2), .val (.int p3), .val (.int (6 : Int32)), .val (.int (((p1.toUInt32 >>> ((3 : Int32) &&& 31).toUInt32).toInt32) &&& (7 : Int32))), .val (.int (((p1.toUInt32 >>> ((6 : Int32) &&& 31).toUInt32).toInt32) &&& (15 : Int32))), .val (.int fl), .val (.ref f5), .val (.ref ww), .val (.ref al), .val (.int (1 : Int32))]) (argsL := [(.ref al)]) (rest := []) (by rw [hml]; rfl) (lenOf own_pd13 rfl) rfl (hb hby at_215) (by decide) (by decide) (by decide) (by decide) ?_
                      intro v307 T307 L307 X307 hQ307 OW307 hZ hown CH307
                      obtain ⟨rfl, N307, Xe307⟩ := hQ307
                      have sf308 := CH307.safe (f5_283).lt sf284
                      show OGo p e below (T307.setTop (mkF m 218 #[.val (.int p1), .val (.int p2), .val (.int p3), .val (.int (6 : Int32)), .val (.int (((p1.toUInt32 >>> ((3 : Int32) &&& 31).toUInt32).toInt32) &&& (7 : Int32))), .val (.int (((p1.toUInt32 >>> ((6 : Int32) &&& 31).toUInt32).toInt32) &&& (15 : Int32))), .val (.int fl), .val (.ref f5), .val (.ref ww), .val (.ref al), .val (.int (1 : Int32))] [(.int (if cs = ([45, 45, 97, 115] : List Int32) then (1 : Int32) else 0))])) _
                      have Nc307 := Fr.app Nc304 N307
                      have sz307 : n0 ≤ T307.heap.size := Nat.le_trans sz283 Xe307.1
                      refine OGo.step (fun _ kk => XS.iload X307.here hx rfl (hb hby at_218) rfl kk) ?_
                      show OGo p e below (T307.setTop (mkF m 220 #[.val (.int p1), .val (.int p2), .val (.int p3), .val (.int (6 : Int32)), .val (.int (((p1.toUInt32 >>> ((3 : Int32) &&& 31).toUInt32).toInt32) &&& (7 : Int32))), .val (.int (((p1.toUInt32 >>> ((6 : Int32) &&& 31).toUInt32).toInt32) &&& (15 : Int32))), .val (.int fl), .val (.ref f5), .val (.ref ww), .val (.ref al), .val (.int (1 : Int32))] [(.int (1 : Int32)), (.int (if cs = ([45, 45, 97, 115] : List Int32) then (1 : Int32) else 0))])) _
                      refine OGo.step (fun _ kk => XS.icmpNo X307.here hx rfl (hb hby at_220) rfl (teq (if_pos (own_if1 hr))).2 kk) ?_
                      show OGo p e below (T307.setTop (mkF m 223 #[.val (.int p1), .val (.int p2), .val (.int p3), .val (.int (6 : Int32)), .val (.int (((p1.toUInt32 >>> ((3 : Int32) &&& 31).toUInt32).toInt32) &&& (7 : Int32))), .val (.int (((p1.toUInt32 >>> ((6 : Int32) &&& 31).toUInt32).toInt32) &&& (15 : Int32))), .val (.int fl), .val (.ref f5), .val (.ref ww), .val (.ref al), .val (.int (1 : Int32))] [])) _
                      refine OGo.step (fun _ kk => XS.iconst X307.here hx rfl (hb hby at_223) kk) ?_
                      refine OGo.step (fun _ kk => XS.goto X307.here hx rfl (pc0 := 224) (pc' := 228) rfl (hb hby at_224) (by decide) (by decide) kk) ?_
                      show OGo p e below (T307.setTop (mkF m 228 #[.val (.int p1), .val (.int p2), .val (.int p3), .val (.int (6 : Int32)), .val (.int (((p1.toUInt32 >>> ((3 : Int32) &&& 31).toUInt32).toInt32) &&& (7 : Int32))), .val (.int (((p1.toUInt32 >>> ((6 : Int32) &&& 31).toUInt32).toInt32) &&& (15 : Int32))), .val (.int fl), .val (.ref f5), .val (.ref ww), .val (.ref al), .val (.int (1 : Int32))] [(.int (1 : Int32))])) _
                      exact own_retNW X307 hx hlk hEL OW307 rfl hret (by simp) (hb hby at_228) ⟨by rw [own_nar1], Nc307⟩ (by decide) (by decide)
                · refine OGo.step (fun _ kk => XS.icmpYes X277.here hx rfl (pc0 := 158) (pc' := 171) rfl (hb hby at_158) rfl (flt hf5).2.2.2 (by decide) (by decide) kk) ?_
                  show OGo p e below (T277.setTop (mkF m 171 #[.val (.int p1), .val (.int p2), .val (.int p3), .val (.int nn), .val (.int (((p1.toUInt32 >>> ((3 : Int32) &&& 31).toUInt32).toInt32) &&& (7 : Int32))), .val (.int (((p1.toUInt32 >>> ((6 : Int32) &&& 31).toUInt32).toInt32) &&& (15 : Int32))), .val (.int fl), .val (.ref f5), .val (.ref ww), .val (.ref al), .unset] [])) _
                  obtain rfl := own_sk5 h8 hf4 hf5
                  show OGo p e below (T277.setTop (mkF m 171 #[.val (.int p1), .val (.int p2), .val (.int p3), .val (.int (5 : Int32)), .val (.int (((p1.toUInt32 >>> ((3 : Int32) &&& 31).toUInt32).toInt32) &&& (7 : Int32))), .val (.int (((p1.toUInt32 >>> ((6 : Int32) &&& 31).toUInt32).toInt32) &&& (15 : Int32))), .val (.int fl), .val (.ref f5), .val (.ref ww), .val (.ref al), .unset] [])) _
                  refine OGo.step (fun _ kk => XS.iloadN X277.here hx rfl (hb hby at_171) rfl kk) ?_
                  refine OGo.step (fun _ kk => XS.bipush X277.here hx rfl (hb hby at_172) kk) ?_
                  show OGo p e below (T277.setTop (mkF m 174 #[.val (.int p1), .val (.int p2), .val (.int p3), .val (.int (5 : Int32)), .val (.int (((p1.toUInt32 >>> ((3 : Int32) &&& 31).toUInt32).toInt32) &&& (7 : Int32))), .val (.int (((p1.toUInt32 >>> ((6 : Int32) &&& 31).toUInt32).toInt32) &&& (15 : Int32))), .val (.int fl), .val (.ref f5), .val (.ref ww), .val (.ref al), .unset] [(.int (6 : Int32)), (.int (5 : Int32))])) _
                  refine OGo.step (fun _ kk => XS.icmpYes X277.here hx rfl (pc0 := 174) (pc' := 187) rfl (hb hby at_174) rfl (flt (by decide)).2.2.2 (by decide) (by decide) kk) ?_
                  show OGo p e below (T277.setTop (mkF m 187 #[.val (.int p1), .val (.int p2), .val (.int p3), .val (.int (5 : Int32)), .val (.int (((p1.toUInt32 >>> ((3 : Int32) &&& 31).toUInt32).toInt32) &&& (7 : Int32))), .val (.int (((p1.toUInt32 >>> ((6 : Int32) &&& 31).toUInt32).toInt32) &&& (15 : Int32))), .val (.int fl), .val (.ref f5), .val (.ref ww), .val (.ref al), .unset] [])) _
                  refine OGo.step (fun _ kk => XS.iloadN X277.here hx rfl (hb hby at_187) rfl kk) ?_
                  refine OGo.step (fun _ kk => XS.iconst X277.here hx rfl (hb hby at_188) kk) ?_
                  show OGo p e below (T277.setTop (mkF m 189 #[.val (.int p1), .val (.int p2), .val (.int p3), .val (.int (5 : Int32)), .val (.int (((p1.toUInt32 >>> ((3 : Int32) &&& 31).toUInt32).toInt32) &&& (7 : Int32))), .val (.int (((p1.toUInt32 >>> ((6 : Int32) &&& 31).toUInt32).toInt32) &&& (15 : Int32))), .val (.int fl), .val (.ref f5), .val (.ref ww), .val (.ref al), .unset] [(.int (4 : Int32)), (.int (5 : Int32))])) _
                  refine OGo.step (fun _ kk => XS.icmpNo X277.here hx rfl (hb hby at_189) rfl (feq (by decide)).1 kk) ?_
                  show OGo p e below (T277.setTop (mkF m 192 #[.val (.int p1), .val (.int p2), .val (.int p3), .val (.int (5 : Int32)), .val (.int (((p1.toUInt32 >>> ((3 : Int32) &&& 31).toUInt32).toInt32) &&& (7 : Int32))), .val (.int (((p1.toUInt32 >>> ((6 : Int32) &&& 31).toUInt32).toInt32) &&& (15 : Int32))), .val (.int fl), .val (.ref f5), .val (.ref ww), .val (.ref al), .unset] [])) _
                  refine OGo.step (fun _ kk => XS.iloadN X277.here hx rfl (hb hby at_192) rfl kk) ?_
                  refine OGo.step (fun _ kk => XS.bipush X277.here hx rfl (hb hby at_193) kk) ?_
                  show OGo p e below (T277.setTop (mkF m 195 #[.val (.int p1), .val (.int p2), .val (.int p3), .val (.int (5 : Int32)), .val (.int (((p1.toUInt32 >>> ((3 : Int32) &&& 31).toUInt32).toInt32) &&& (7 : Int32))), .val (.int (((p1.toUInt32 >>> ((6 : Int32) &&& 31).toUInt32).toInt32) &&& (15 : Int32))), .val (.int fl), .val (.ref f5), .val (.ref ww), .val (.ref al), .unset] [(.int (6 : Int32)), (.int (5 : Int32))])) _
                  refine OGo.step (fun _ kk => XS.icmpYes X277.here hx rfl (pc0 := 195) (pc' := 210) rfl (hb hby at_195) rfl (feq (by decide)).2 (by decide) (by decide) kk) ?_
                  show OGo p e below (T277.setTop (mkF m 210 #[.val (.int p1), .val (.int p2), .val (.int p3), .val (.int (5 : Int32)), .val (.int (((p1.toUInt32 >>> ((3 : Int32) &&& 31).toUInt32).toInt32) &&& (7 : Int32))), .val (.int (((p1.toUInt32 >>> ((6 : Int32) &&& 31).toUInt32).toInt32) &&& (15 : Int32))), .val (.int fl), .val (.ref f5), .val (.ref ww), .val (.ref al), .unset] [])) _
                  refine OGo.step (fun _ kk => XS.iconst X277.here hx rfl (hb hby at_210) kk) ?_
                  refine OGo.step (fun _ kk => XS.istore X277.here hx rfl (hb hby at_211) rfl (l' := #[.val (.int p1), .val (.int p2), .val (.int p3), .val (.int (5 : Int32)), .val (.int (((p1.toUInt32 >>> ((3 : Int32) &&& 31).toUInt32).toInt32) &&& (7 : Int32))), .val (.int (((p1.toUInt32 >>> ((6 : Int32) &&& 31).toUInt32).toInt32) &&& (15 : Int32))), .val (.int fl), .val (.ref f5), .val (.ref ww), .val (.ref al), .val (.int (0 : Int32))]) rfl kk) ?_
                  refine OGo.step (fun _ kk => XS.aload X277.here hx rfl (hb hby at_213) rfl rfl kk) ?_
                  show OGo p e below (T277.setTop (mkF m 215 #[.val (.int p1), .val (.int p2), .val (.int p3), .val (.int (5 : Int32)), .val (.int (((p1.toUInt32 >>> ((3 : Int32) &&& 31).toUInt32).toInt32) &&& (7 : Int32))), .val (.int (((p1.toUInt32 >>> ((6 : Int32) &&& 31).toUInt32).toInt32) &&& (15 : Int32))), .val (.int fl), .val (.ref f5), .val (.ref ww), .val (.ref al), .val (.int (0 : Int32))] [(.ref al)])) _
                  refine own_callSW X277 hx hZ (y := (⟨"com/example/tags_to_grants/tagstogrants/cli/TagsToGrants", "isOneRequest", "(Ljava/util/List;)Z"⟩ : MethodName)) hown (hw _ (List.mem_of_getElem? (i := 57) rfl)) (hw _ (List.mem_of_getElem? (i := 58) rfl)) (hw _ (List.mem_of_getElem? (i := 59) rfl)) (hw _ (List.mem_of_getElem? (i := 60) rfl)) (by decide) hEL OW279 (W := 0) (own_one5 l Z a0 hw [] al T277.heap n0 sz277 f1277 f3277) rfl  (pc := 215) (Ls := #[.val (.int p1), .val (.int p2), .val (.int p3), .val (.int (5 : Int32)), .val (.int (((p1.toUInt32 >>> ((3 : Int32) &&& 31).toUInt32).toInt32) &&& (7 : Int32))), .val (.int (((p1.toUInt32 >>> ((6 : Int32) &&& 31).toUInt32).toInt32) &&& (15 : Int32))), .val (.int fl), .val (.ref f5), .val (.ref ww), .val (.ref al), .val (.int (0 : Int32))]) (argsL := [(.ref al)]) (rest := []) (by rw [hml]; rfl) (lenOf own_pd13 rfl) rfl (hb hby at_215) (by decide) (by decide) (by decide) (by decide) ?_
                  intro v309 T309 L309 X309 hQ309 OW309 hZ hown CH309
                  obtain ⟨rfl, N309, Xe309⟩ := hQ309
                  have sf310 := CH309.safe (f5_277).lt sf278
                  show OGo p e below (T309.setTop (mkF m 218 #[.val (.int p1), .val (.int p2), .val (.int p3), .val (.int (5 : Int32)), .val (.int (((p1.toUInt32 >>> ((3 : Int32) &&& 31).toUInt32).toInt32) &&& (7 : Int32))), .val (.int (((p1.toUInt32 >>> ((6 : Int32) &&& 31).toUInt32).toInt32) &&& (15 : Int32))), .val (.int fl), .val (.ref f5), .val (.ref ww), .val (.ref al), .val (.int (0 : Int32))] [(.int (0 : Int32))])) _
                  have Nc309 := Fr.app Nc277 N309
                  have sz309 : n0 ≤ T309.heap.size := Nat.le_trans sz277 Xe309.1
                  refine OGo.step (fun _ kk => XS.iload X309.here hx rfl (hb hby at_218) rfl kk) ?_
                  show OGo p e below (T309.setTop (mkF m 220 #[.val (.int p1), .val (.int p2), .val (.int p3), .val (.int (5 : Int32)), .val (.int (((p1.toUInt32 >>> ((3 : Int32) &&& 31).toUInt32).toInt32) &&& (7 : Int32))), .val (.int (((p1.toUInt32 >>> ((6 : Int32) &&& 31).toUInt32).toInt32) &&& (15 : Int32))), .val (.int fl), .val (.ref f5), .val (.ref ww), .val (.ref al), .val (.int (0 : Int32))] [(.int (0 : Int32)), (.int (0 : Int32))])) _
                  refine OGo.step (fun _ kk => XS.icmpNo X309.here hx rfl (hb hby at_220) rfl (teq rfl).2 kk) ?_
                  show OGo p e below (T309.setTop (mkF m 223 #[.val (.int p1), .val (.int p2), .val (.int p3), .val (.int (5 : Int32)), .val (.int (((p1.toUInt32 >>> ((3 : Int32) &&& 31).toUInt32).toInt32) &&& (7 : Int32))), .val (.int (((p1.toUInt32 >>> ((6 : Int32) &&& 31).toUInt32).toInt32) &&& (15 : Int32))), .val (.int fl), .val (.ref f5), .val (.ref ww), .val (.ref al), .val (.int (0 : Int32))] [])) _
                  refine OGo.step (fun _ kk => XS.iconst X309.here hx rfl (hb hby at_223) kk) ?_
                  refine OGo.step (fun _ kk => XS.goto X309.here hx rfl (pc0 := 224) (pc' := 228) rfl (hb hby at_224) (by decide) (by decide) kk) ?_
                  show OGo p e below (T309.setTop (mkF m 228 #[.val (.int p1), .val (.int p2), .val (.int p3), .val (.int (5 : Int32)), .val (.int (((p1.toUInt32 >>> ((3 : Int32) &&& 31).toUInt32).toInt32) &&& (7 : Int32))), .val (.int (((p1.toUInt32 >>> ((6 : Int32) &&& 31).toUInt32).toInt32) &&& (15 : Int32))), .val (.int fl), .val (.ref f5), .val (.ref ww), .val (.ref al), .val (.int (0 : Int32))] [(.int (1 : Int32))])) _
                  exact own_retNW X309 hx hlk hEL OW309 rfl hret (by simp) (hb hby at_228) ⟨by rw [own_nar1], Nc309⟩ (by decide) (by decide)
              · refine OGo.step (fun _ kk => XS.icmpYes X267.here hx rfl (pc0 := 143) (pc' := 156) rfl (hb hby at_143) rfl (flt hf4).2.2.2 (by decide) (by decide) kk) ?_
                show OGo p e below (T267.setTop (mkF m 156 #[.val (.int p1), .val (.int p2), .val (.int p3), .val (.int nn), .val (.int (((p1.toUInt32 >>> ((3 : Int32) &&& 31).toUInt32).toInt32) &&& (7 : Int32))), .val (.int (((p1.toUInt32 >>> ((6 : Int32) &&& 31).toUInt32).toInt32) &&& (15 : Int32))), .val (.int fl), .val (.ref f5), .val (.ref ww), .val (.ref al), .unset] [])) _
                obtain rfl := own_sk4 h8 hf3 hf4
                show OGo p e below (T267.setTop (mkF m 156 #[.val (.int p1), .val (.int p2), .val (.int p3), .val (.int (4 : Int32)), .val (.int (((p1.toUInt32 >>> ((3 : Int32) &&& 31).toUInt32).toInt32) &&& (7 : Int32))), .val (.int (((p1.toUInt32 >>> ((6 : Int32) &&& 31).toUInt32).toInt32) &&& (15 : Int32))), .val (.int fl), .val (.ref f5), .val (.ref ww), .val (.ref al), .unset] [])) _
                refine OGo.step (fun _ kk => XS.iloadN X267.here hx rfl (hb hby at_156) rfl kk) ?_
                refine OGo.step (fun _ kk => XS.iconst X267.here hx rfl (hb hby at_157) kk) ?_
                show OGo p e below (T267.setTop (mkF m 158 #[.val (.int p1), .val (.int p2), .val (.int p3), .val (.int (4 : Int32)), .val (.int (((p1.toUInt32 >>> ((3 : Int32) &&& 31).toUInt32).toInt32) &&& (7 : Int32))), .val (.int (((p1.toUInt32 >>> ((6 : Int32) &&& 31).toUInt32).toInt32) &&& (15 : Int32))), .val (.int fl), .val (.ref f5), .val (.ref ww), .val (.ref al), .unset] [(.int (5 : Int32)), (.int (4 : Int32))])) _
                refine OGo.step (fun _ kk => XS.icmpYes X267.here hx rfl (pc0 := 158) (pc' := 171) rfl (hb hby at_158) rfl (flt (by decide)).2.2.2 (by decide) (by decide) kk) ?_
                show OGo p e below (T267.setTop (mkF m 171 #[.val (.int p1), .val (.int p2), .val (.int p3), .val (.int (4 : Int32)), .val (.int (((p1.toUInt32 >>> ((3 : Int32) &&& 31).toUInt32).toInt32) &&& (7 : Int32))), .val (.int (((p1.toUInt32 >>> ((6 : Int32) &&& 31).toUInt32).toInt32) &&& (15 : Int32))), .val (.int fl), .val (.ref f5), .val (.ref ww), .val (.ref al), .unset] [])) _
                refine OGo.step (fun _ kk => XS.iloadN X267.here hx rfl (hb hby at_171) rfl kk) ?_
                refine OGo.step (fun _ kk => XS.bipush X267.here hx rfl (hb hby at_172) kk) ?_
                show OGo p e below (T267.setTop (mkF m 174 #[.val (.int p1), .val (.int p2), .val (.int p3), .val (.int (4 : Int32)), .val (.int (((p1.toUInt32 >>> ((3 : Int32) &&& 31).toUInt32).toInt32) &&& (7 : Int32))), .val (.int (((p1.toUInt32 >>> ((6 : Int32) &&& 31).toUInt32).toInt32) &&& (15 : Int32))), .val (.int fl), .val (.ref f5), .val (.ref ww), .val (.ref al), .unset] [(.int (6 : Int32)), (.int (4 : Int32))])) _
                refine OGo.step (fun _ kk => XS.icmpYes X267.here hx rfl (pc0 := 174) (pc' := 187) rfl (hb hby at_174) rfl (flt (by decide)).2.2.2 (by decide) (by decide) kk) ?_
                show OGo p e below (T267.setTop (mkF m 187 #[.val (.int p1), .val (.int p2), .val (.int p3), .val (.int (4 : Int32)), .val (.int (((p1.toUInt32 >>> ((3 : Int32) &&& 31).toUInt32).toInt32) &&& (7 : Int32))), .val (.int (((p1.toUInt32 >>> ((6 : Int32) &&& 31).toUInt32).toInt32) &&& (15 : Int32))), .val (.int fl), .val (.ref f5), .val (.ref ww), .val (.ref al), .unset] [])) _
                refine OGo.step (fun _ kk => XS.iloadN X267.here hx rfl (hb hby at_187) rfl kk) ?_
                refine OGo.step (fun _ kk => XS.iconst X267.here hx rfl (hb hby at_188) kk) ?_
                show OGo p e below (T267.setTop (mkF m 189 #[.val (.int p1), .val (.int p2), .val (.int p3), .val (.int (4 : Int32)), .val (.int (((p1.toUInt32 >>> ((3 : Int32) &&& 31).toUInt32).toInt32) &&& (7 : Int32))), .val (.int (((p1.toUInt32 >>> ((6 : Int32) &&& 31).toUInt32).toInt32) &&& (15 : Int32))), .val (.int fl), .val (.ref f5), .val (.ref ww), .val (.ref al), .unset] [(.int (4 : Int32)), (.int (4 : Int32))])) _
                refine OGo.step (fun _ kk => XS.icmpYes X267.here hx rfl (pc0 := 189) (pc' := 206) rfl (hb hby at_189) rfl (teq rfl).1 (by decide) (by decide) kk) ?_
                show OGo p e below (T267.setTop (mkF m 206 #[.val (.int p1), .val (.int p2), .val (.int p3), .val (.int (4 : Int32)), .val (.int (((p1.toUInt32 >>> ((3 : Int32) &&& 31).toUInt32).toInt32) &&& (7 : Int32))), .val (.int (((p1.toUInt32 >>> ((6 : Int32) &&& 31).toUInt32).toInt32) &&& (15 : Int32))), .val (.int fl), .val (.ref f5), .val (.ref ww), .val (.ref al), .unset] [])) _
                refine OGo.step (fun _ kk => XS.iconst X267.here hx rfl (hb hby at_206) kk) ?_
                refine OGo.step (fun _ kk => XS.goto X267.here hx rfl (pc0 := 207) (pc' := 211) rfl (hb hby at_207) (by decide) (by decide) kk) ?_
                refine OGo.step (fun _ kk => XS.istore X267.here hx rfl (hb hby at_211) rfl (l' := #[.val (.int p1), .val (.int p2), .val (.int p3), .val (.int (4 : Int32)), .val (.int (((p1.toUInt32 >>> ((3 : Int32) &&& 31).toUInt32).toInt32) &&& (7 : Int32))), .val (.int (((p1.toUInt32 >>> ((6 : Int32) &&& 31).toUInt32).toInt32) &&& (15 : Int32))), .val (.int fl), .val (.ref f5), .val (.ref ww), .val (.ref al), .val (.int (1 : Int32))]) rfl kk) ?_
                refine OGo.step (fun _ kk => XS.aload X267.here hx rfl (hb hby at_213) rfl rfl kk) ?_
                show OGo p e below (T267.setTop (mkF m 215 #[.val (.int p1), .val (.int p2), .val (.int p3), .val (.int (4 : Int32)), .val (.int (((p1.toUInt32 >>> ((3 : Int32) &&& 31).toUInt32).toInt32) &&& (7 : Int32))), .val (.int (((p1.toUInt32 >>> ((6 : Int32) &&& 31).toUInt32).toInt32) &&& (15 : Int32))), .val (.int fl), .val (.ref f5), .val (.ref ww), .val (.ref al), .val (.int (1 : Int32))] [(.ref al)])) _
                refine own_callSW X267 hx hZ (y := (⟨"com/example/tags_to_grants/tagstogrants/cli/TagsToGrants", "isOneRequest", "(Ljava/util/List;)Z"⟩ : MethodName)) hown (hw _ (List.mem_of_getElem? (i := 57) rfl)) (hw _ (List.mem_of_getElem? (i := 58) rfl)) (hw _ (List.mem_of_getElem? (i := 59) rfl)) (hw _ (List.mem_of_getElem? (i := 60) rfl)) (by decide) hEL OW269 (W := 0) (own_one4 l Z a0 hw [] al T267.heap n0 sz267 f1267 f3267) rfl  (pc := 215) (Ls := #[.val (.int p1), .val (.int p2), .val (.int p3), .val (.int (4 : Int32)), .val (.int (((p1.toUInt32 >>> ((3 : Int32) &&& 31).toUInt32).toInt32) &&& (7 : Int32))), .val (.int (((p1.toUInt32 >>> ((6 : Int32) &&& 31).toUInt32).toInt32) &&& (15 : Int32))), .val (.int fl), .val (.ref f5), .val (.ref ww), .val (.ref al), .val (.int (1 : Int32))]) (argsL := [(.ref al)]) (rest := []) (by rw [hml]; rfl) (lenOf own_pd13 rfl) rfl (hb hby at_215) (by decide) (by decide) (by decide) (by decide) ?_
                intro v311 T311 L311 X311 hQ311 OW311 hZ hown CH311
                obtain ⟨rfl, N311, Xe311⟩ := hQ311
                have sf312 := CH311.safe (f5_267).lt sf268
                show OGo p e below (T311.setTop (mkF m 218 #[.val (.int p1), .val (.int p2), .val (.int p3), .val (.int (4 : Int32)), .val (.int (((p1.toUInt32 >>> ((3 : Int32) &&& 31).toUInt32).toInt32) &&& (7 : Int32))), .val (.int (((p1.toUInt32 >>> ((6 : Int32) &&& 31).toUInt32).toInt32) &&& (15 : Int32))), .val (.int fl), .val (.ref f5), .val (.ref ww), .val (.ref al), .val (.int (1 : Int32))] [(.int (1 : Int32))])) _
                have Nc311 := Fr.app Nc267 N311
                have sz311 : n0 ≤ T311.heap.size := Nat.le_trans sz267 Xe311.1
                refine OGo.step (fun _ kk => XS.iload X311.here hx rfl (hb hby at_218) rfl kk) ?_
                show OGo p e below (T311.setTop (mkF m 220 #[.val (.int p1), .val (.int p2), .val (.int p3), .val (.int (4 : Int32)), .val (.int (((p1.toUInt32 >>> ((3 : Int32) &&& 31).toUInt32).toInt32) &&& (7 : Int32))), .val (.int (((p1.toUInt32 >>> ((6 : Int32) &&& 31).toUInt32).toInt32) &&& (15 : Int32))), .val (.int fl), .val (.ref f5), .val (.ref ww), .val (.ref al), .val (.int (1 : Int32))] [(.int (1 : Int32)), (.int (1 : Int32))])) _
                refine OGo.step (fun _ kk => XS.icmpNo X311.here hx rfl (hb hby at_220) rfl (teq rfl).2 kk) ?_
                show OGo p e below (T311.setTop (mkF m 223 #[.val (.int p1), .val (.int p2), .val (.int p3), .val (.int (4 : Int32)), .val (.int (((p1.toUInt32 >>> ((3 : Int32) &&& 31).toUInt32).toInt32) &&& (7 : Int32))), .val (.int (((p1.toUInt32 >>> ((6 : Int32) &&& 31).toUInt32).toInt32) &&& (15 : Int32))), .val (.int fl), .val (.ref f5), .val (.ref ww), .val (.ref al), .val (.int (1 : Int32))] [])) _
                refine OGo.step (fun _ kk => XS.iconst X311.here hx rfl (hb hby at_223) kk) ?_
                refine OGo.step (fun _ kk => XS.goto X311.here hx rfl (pc0 := 224) (pc' := 228) rfl (hb hby at_224) (by decide) (by decide) kk) ?_
                show OGo p e below (T311.setTop (mkF m 228 #[.val (.int p1), .val (.int p2), .val (.int p3), .val (.int (4 : Int32)), .val (.int (((p1.toUInt32 >>> ((3 : Int32) &&& 31).toUInt32).toInt32) &&& (7 : Int32))), .val (.int (((p1.toUInt32 >>> ((6 : Int32) &&& 31).toUInt32).toInt32) &&& (15 : Int32))), .val (.int fl), .val (.ref f5), .val (.ref ww), .val (.ref al), .val (.int (1 : Int32))] [(.int (1 : Int32))])) _
                exact own_retNW X311 hx hlk hEL OW311 rfl hret (by simp) (hb hby at_228) ⟨by rw [own_nar1], Nc311⟩ (by decide) (by decide)
            · refine OGo.step (fun _ kk => XS.icmpYes X262.here hx rfl (pc0 := 128) (pc' := 141) rfl (hb hby at_128) rfl (flt hf3).2.2.2 (by decide) (by decide) kk) ?_
              show OGo p e below (T262.setTop (mkF m 141 #[.val (.int p1), .val (.int p2), .val (.int p3), .val (.int nn), .val (.int (((p1.toUInt32 >>> ((3 : Int32) &&& 31).toUInt32).toInt32) &&& (7 : Int32))), .val (.int (((p1.toUInt32 >>> ((6 : Int32) &&& 31).toUInt32).toInt32) &&& (15 : Int32))), .val (.int fl), .val (.ref f5), .val (.ref ww), .val (.ref al), .unset] [])) _
              obtain rfl := own_sk3 h8 hf2 hf3
              show OGo p e below (T262.setTop (mkF m 141 #[.val (.int p1), .val (.int p2), .val (.int p3), .val (.int (3 : Int32)), .val (.int (((p1.toUInt32 >>> ((3 : Int32) &&& 31).toUInt32).toInt32) &&& (7 : Int32))), .val (.int (((p1.toUInt32 >>> ((6 : Int32) &&& 31).toUInt32).toInt32) &&& (15 : Int32))), .val (.int fl), .val (.ref f5), .val (.ref ww), .val (.ref al), .unset] [])) _
              refine OGo.step (fun _ kk => XS.iloadN X262.here hx rfl (hb hby at_141) rfl kk) ?_
              refine OGo.step (fun _ kk => XS.iconst X262.here hx rfl (hb hby at_142) kk) ?_
              show OGo p e below (T262.setTop (mkF m 143 #[.val (.int p1), .val (.int p2), .val (.int p3), .val (.int (3 : Int32)), .val (.int (((p1.toUInt32 >>> ((3 : Int32) &&& 31).toUInt32).toInt32) &&& (7 : Int32))), .val (.int (((p1.toUInt32 >>> ((6 : Int32) &&& 31).toUInt32).toInt32) &&& (15 : Int32))), .val (.int fl), .val (.ref f5), .val (.ref ww), .val (.ref al), .unset] [(.int (4 : Int32)), (.int (3 : Int32))])) _
              refine OGo.step (fun _ kk => XS.icmpYes X262.here hx rfl (pc0 := 143) (pc' := 156) rfl (hb hby at_143) rfl (flt (by decide)).2.2.2 (by decide) (by decide) kk) ?_
              show OGo p e below (T262.setTop (mkF m 156 #[.val (.int p1), .val (.int p2), .val (.int p3), .val (.int (3 : Int32)), .val (.int (((p1.toUInt32 >>> ((3 : Int32) &&& 31).toUInt32).toInt32) &&& (7 : Int32))), .val (.int (((p1.toUInt32 >>> ((6 : Int32) &&& 31).toUInt32).toInt32) &&& (15 : Int32))), .val (.int fl), .val (.ref f5), .val (.ref ww), .val (.ref al), .unset] [])) _
              refine OGo.step (fun _ kk => XS.iloadN X262.here hx rfl (hb hby at_156) rfl kk) ?_
              refine OGo.step (fun _ kk => XS.iconst X262.here hx rfl (hb hby at_157) kk) ?_
              show OGo p e below (T262.setTop (mkF m 158 #[.val (.int p1), .val (.int p2), .val (.int p3), .val (.int (3 : Int32)), .val (.int (((p1.toUInt32 >>> ((3 : Int32) &&& 31).toUInt32).toInt32) &&& (7 : Int32))), .val (.int (((p1.toUInt32 >>> ((6 : Int32) &&& 31).toUInt32).toInt32) &&& (15 : Int32))), .val (.int fl), .val (.ref f5), .val (.ref ww), .val (.ref al), .unset] [(.int (5 : Int32)), (.int (3 : Int32))])) _
              refine OGo.step (fun _ kk => XS.icmpYes X262.here hx rfl (pc0 := 158) (pc' := 171) rfl (hb hby at_158) rfl (flt (by decide)).2.2.2 (by decide) (by decide) kk) ?_
              show OGo p e below (T262.setTop (mkF m 171 #[.val (.int p1), .val (.int p2), .val (.int p3), .val (.int (3 : Int32)), .val (.int (((p1.toUInt32 >>> ((3 : Int32) &&& 31).toUInt32).toInt32) &&& (7 : Int32))), .val (.int (((p1.toUInt32 >>> ((6 : Int32) &&& 31).toUInt32).toInt32) &&& (15 : Int32))), .val (.int fl), .val (.ref f5), .val (.ref ww), .val (.ref al), .unset] [])) _
              refine OGo.step (fun _ kk => XS.iloadN X262.here hx rfl (hb hby at_171) rfl kk) ?_
              refine OGo.step (fun _ kk => XS.bipush X262.here hx rfl (hb hby at_172) kk) ?_
              show OGo p e below (T262.setTop (mkF m 174 #[.val (.int p1), .val (.int p2), .val (.int p3), .val (.int (3 : Int32)), .val (.int (((p1.toUInt32 >>> ((3 : Int32) &&& 31).toUInt32).toInt32) &&& (7 : Int32))), .val (.int (((p1.toUInt32 >>> ((6 : Int32) &&& 31).toUInt32).toInt32) &&& (15 : Int32))), .val (.int fl), .val (.ref f5), .val (.ref ww), .val (.ref al), .unset] [(.int (6 : Int32)), (.int (3 : Int32))])) _
              refine OGo.step (fun _ kk => XS.icmpYes X262.here hx rfl (pc0 := 174) (pc' := 187) rfl (hb hby at_174) rfl (flt (by decide)).2.2.2 (by decide) (by decide) kk) ?_
              show OGo p e below (T262.setTop (mkF m 187 #[.val (.int p1), .val (.int p2), .val (.int p3), .val (.int (3 : Int32)), .val (.int (((p1.toUInt32 >>> ((3 : Int32) &&& 31).toUInt32).toInt32) &&& (7 : Int32))), .val (.int (((p1.toUInt32 >>> ((6 : Int32) &&& 31).toUInt32).toInt32) &&& (15 : Int32))), .val (.int fl), .val (.ref f5), .val (.ref ww), .val (.ref al), .unset] [])) _
              refine OGo.step (fun _ kk => XS.iloadN X262.here hx rfl (hb hby at_187) rfl kk) ?_
              refine OGo.step (fun _ kk => XS.iconst X262.here hx rfl (hb hby at_188) kk) ?_
              show OGo p e below (T262.setTop (mkF m 189 #[.val (.int p1), .val (.int p2), .val (.int p3), .val (.int (3 : Int32)), .val (.int (((p1.toUInt32 >>> ((3 : Int32) &&& 31).toUInt32).toInt32) &&& (7 : Int32))), .val (.int (((p1.toUInt32 >>> ((6 : Int32) &&& 31).toUInt32).toInt32) &&& (15 : Int32))), .val (.int fl), .val (.ref f5), .val (.ref ww), .val (.ref al), .unset] [(.int (4 : Int32)), (.int (3 : Int32))])) _
              refine OGo.step (fun _ kk => XS.icmpNo X262.here hx rfl (hb hby at_189) rfl (feq (by decide)).1 kk) ?_
              show OGo p e below (T262.setTop (mkF m 192 #[.val (.int p1), .val (.int p2), .val (.int p3), .val (.int (3 : Int32)), .val (.int (((p1.toUInt32 >>> ((3 : Int32) &&& 31).toUInt32).toInt32) &&& (7 : Int32))), .val (.int (((p1.toUInt32 >>> ((6 : Int32) &&& 31).toUInt32).toInt32) &&& (15 : Int32))), .val (.int fl), .val (.ref f5), .val (.ref ww), .val (.ref al), .unset] [])) _
              refine OGo.step (fun _ kk => XS.iloadN X262.here hx rfl (hb hby at_192) rfl kk) ?_
              refine OGo.step (fun _ kk => XS.bipush X262.here hx rfl (hb hby at_193) kk) ?_
              show OGo p e below (T262.setTop (mkF m 195 #[.val (.int p1), .val (.int p2), .val (.int p3), .val (.int (3 : Int32)), .val (.int (((p1.toUInt32 >>> ((3 : Int32) &&& 31).toUInt32).toInt32) &&& (7 : Int32))), .val (.int (((p1.toUInt32 >>> ((6 : Int32) &&& 31).toUInt32).toInt32) &&& (15 : Int32))), .val (.int fl), .val (.ref f5), .val (.ref ww), .val (.ref al), .unset] [(.int (6 : Int32)), (.int (3 : Int32))])) _
              refine OGo.step (fun _ kk => XS.icmpYes X262.here hx rfl (pc0 := 195) (pc' := 210) rfl (hb hby at_195) rfl (feq (by decide)).2 (by decide) (by decide) kk) ?_
              show OGo p e below (T262.setTop (mkF m 210 #[.val (.int p1), .val (.int p2), .val (.int p3), .val (.int (3 : Int32)), .val (.int (((p1.toUInt32 >>> ((3 : Int32) &&& 31).toUInt32).toInt32) &&& (7 : Int32))), .val (.int (((p1.toUInt32 >>> ((6 : Int32) &&& 31).toUInt32).toInt32) &&& (15 : Int32))), .val (.int fl), .val (.ref f5), .val (.ref ww), .val (.ref al), .unset] [])) _
              refine OGo.step (fun _ kk => XS.iconst X262.here hx rfl (hb hby at_210) kk) ?_
              refine OGo.step (fun _ kk => XS.istore X262.here hx rfl (hb hby at_211) rfl (l' := #[.val (.int p1), .val (.int p2), .val (.int p3), .val (.int (3 : Int32)), .val (.int (((p1.toUInt32 >>> ((3 : Int32) &&& 31).toUInt32).toInt32) &&& (7 : Int32))), .val (.int (((p1.toUInt32 >>> ((6 : Int32) &&& 31).toUInt32).toInt32) &&& (15 : Int32))), .val (.int fl), .val (.ref f5), .val (.ref ww), .val (.ref al), .val (.int (0 : Int32))]) rfl kk) ?_
              refine OGo.step (fun _ kk => XS.aload X262.here hx rfl (hb hby at_213) rfl rfl kk) ?_
              show OGo p e below (T262.setTop (mkF m 215 #[.val (.int p1), .val (.int p2), .val (.int p3), .val (.int (3 : Int32)), .val (.int (((p1.toUInt32 >>> ((3 : Int32) &&& 31).toUInt32).toInt32) &&& (7 : Int32))), .val (.int (((p1.toUInt32 >>> ((6 : Int32) &&& 31).toUInt32).toInt32) &&& (15 : Int32))), .val (.int fl), .val (.ref f5), .val (.ref ww), .val (.ref al), .val (.int (0 : Int32))] [(.ref al)])) _
              refine own_callSW X262 hx hZ (y := (⟨"com/example/tags_to_grants/tagstogrants/cli/TagsToGrants", "isOneRequest", "(Ljava/util/List;)Z"⟩ : MethodName)) hown (hw _ (List.mem_of_getElem? (i := 57) rfl)) (hw _ (List.mem_of_getElem? (i := 58) rfl)) (hw _ (List.mem_of_getElem? (i := 59) rfl)) (hw _ (List.mem_of_getElem? (i := 60) rfl)) (by decide) hEL OW264 (W := 0) (own_one3 l Z a0 hw [] al T262.heap n0 sz262 f1262 f3262) rfl  (pc := 215) (Ls := #[.val (.int p1), .val (.int p2), .val (.int p3), .val (.int (3 : Int32)), .val (.int (((p1.toUInt32 >>> ((3 : Int32) &&& 31).toUInt32).toInt32) &&& (7 : Int32))), .val (.int (((p1.toUInt32 >>> ((6 : Int32) &&& 31).toUInt32).toInt32) &&& (15 : Int32))), .val (.int fl), .val (.ref f5), .val (.ref ww), .val (.ref al), .val (.int (0 : Int32))]) (argsL := [(.ref al)]) (rest := []) (by rw [hml]; rfl) (lenOf own_pd13 rfl) rfl (hb hby at_215) (by decide) (by decide) (by decide) (by decide) ?_
              intro v313 T313 L313 X313 hQ313 OW313 hZ hown CH313
              obtain ⟨rfl, N313, Xe313⟩ := hQ313
              have sf314 := CH313.safe (f5_262).lt sf263
              show OGo p e below (T313.setTop (mkF m 218 #[.val (.int p1), .val (.int p2), .val (.int p3), .val (.int (3 : Int32)), .val (.int (((p1.toUInt32 >>> ((3 : Int32) &&& 31).toUInt32).toInt32) &&& (7 : Int32))), .val (.int (((p1.toUInt32 >>> ((6 : Int32) &&& 31).toUInt32).toInt32) &&& (15 : Int32))), .val (.int fl), .val (.ref f5), .val (.ref ww), .val (.ref al), .val (.int (0 : Int32))] [(.int (0 : Int32))])) _
              have Nc313 := Fr.app Nc262 N313
              have sz313 : n0 ≤ T313.heap.size := Nat.le_trans sz262 Xe313.1
              refine OGo.step (fun _ kk => XS.iload X313.here hx rfl (hb hby at_218) rfl kk) ?_
              show OGo p e below (T313.setTop (mkF m 220 #[.val (.int p1), .val (.int p2), .val (.int p3), .val (.int (3 : Int32)), .val (.int (((p1.toUInt32 >>> ((3 : Int32) &&& 31).toUInt32).toInt32) &&& (7 : Int32))), .val (.int (((p1.toUInt32 >>> ((6 : Int32) &&& 31).toUInt32).toInt32) &&& (15 : Int32))), .val (.int fl), .val (.ref f5), .val (.ref ww), .val (.ref al), .val (.int (0 : Int32))] [(.int (0 : Int32)), (.int (0 : Int32))])) _
              refine OGo.step (fun _ kk => XS.icmpNo X313.here hx rfl (hb hby at_220) rfl (teq rfl).2 kk) ?_
              show OGo p e below (T313.setTop (mkF m 223 #[.val (.int p1), .val (.int p2), .val (.int p3), .val (.int (3 : Int32)), .val (.int (((p1.toUInt32 >>> ((3 : Int32) &&& 31).toUInt32).toInt32) &&& (7 : Int32))), .val (.int (((p1.toUInt32 >>> ((6 : Int32) &&& 31).toUInt32).toInt32) &&& (15 : Int32))), .val (.int fl), .val (.ref f5), .val (.ref ww), .val (.ref al), .val (.int (0 : Int32))] [])) _
              refine OGo.step (fun _ kk => XS.iconst X313.here hx rfl (hb hby at_223) kk) ?_
              refine OGo.step (fun _ kk => XS.goto X313.here hx rfl (pc0 := 224) (pc' := 228) rfl (hb hby at_224) (by decide) (by decide) kk) ?_
              show OGo p e below (T313.setTop (mkF m 228 #[.val (.int p1), .val (.int p2), .val (.int p3), .val (.int (3 : Int32)), .val (.int (((p1.toUInt32 >>> ((3 : Int32) &&& 31).toUInt32).toInt32) &&& (7 : Int32))), .val (.int (((p1.toUInt32 >>> ((6 : Int32) &&& 31).toUInt32).toInt32) &&& (15 : Int32))), .val (.int fl), .val (.ref f5), .val (.ref ww), .val (.ref al), .val (.int (0 : Int32))] [(.int (1 : Int32))])) _
              exact own_retNW X313 hx hlk hEL OW313 rfl hret (by simp) (hb hby at_228) ⟨by rw [own_nar1], Nc313⟩ (by decide) (by decide)
          · refine OGo.step (fun _ kk => XS.icmpYes X257.here hx rfl (pc0 := 113) (pc' := 126) rfl (hb hby at_113) rfl (flt hf2).2.2.2 (by decide) (by decide) kk) ?_
            show OGo p e below (T257.setTop (mkF m 126 #[.val (.int p1), .val (.int p2), .val (.int p3), .val (.int nn), .val (.int (((p1.toUInt32 >>> ((3 : Int32) &&& 31).toUInt32).toInt32) &&& (7 : Int32))), .val (.int (((p1.toUInt32 >>> ((6 : Int32) &&& 31).toUInt32).toInt32) &&& (15 : Int32))), .val (.int fl), .val (.ref f5), .val (.ref ww), .val (.ref al), .unset] [])) _
            obtain rfl := own_sk2 h8 hf1 hf2
            show OGo p e below (T257.setTop (mkF m 126 #[.val (.int p1), .val (.int p2), .val (.int p3), .val (.int (2 : Int32)), .val (.int (((p1.toUInt32 >>> ((3 : Int32) &&& 31).toUInt32).toInt32) &&& (7 : Int32))), .val (.int (((p1.toUInt32 >>> ((6 : Int32) &&& 31).toUInt32).toInt32) &&& (15 : Int32))), .val (.int fl), .val (.ref f5), .val (.ref ww), .val (.ref al), .unset] [])) _
            refine OGo.step (fun _ kk => XS.iloadN X257.here hx rfl (hb hby at_126) rfl kk) ?_
            refine OGo.step (fun _ kk => XS.iconst X257.here hx rfl (hb hby at_127) kk) ?_
            show OGo p e below (T257.setTop (mkF m 128 #[.val (.int p1), .val (.int p2), .val (.int p3), .val (.int (2 : Int32)), .val (.int (((p1.toUInt32 >>> ((3 : Int32) &&& 31).toUInt32).toInt32) &&& (7 : Int32))), .val (.int (((p1.toUInt32 >>> ((6 : Int32) &&& 31).toUInt32).toInt32) &&& (15 : Int32))), .val (.int fl), .val (.ref f5), .val (.ref ww), .val (.ref al), .unset] [(.int (3 : Int32)), (.int (2 : Int32))])) _
            refine OGo.step (fun _ kk => XS.icmpYes X257.here hx rfl (pc0 := 128) (pc' := 141) rfl (hb hby at_128) rfl (flt (by decide)).2.2.2 (by decide) (by decide) kk) ?_
            show OGo p e below (T257.setTop (mkF m 141 #[.val (.int p1), .val (.int p2), .val (.int p3), .val (.int (2 : Int32)), .val (.int (((p1.toUInt32 >>> ((3 : Int32) &&& 31).toUInt32).toInt32) &&& (7 : Int32))), .val (.int (((p1.toUInt32 >>> ((6 : Int32) &&& 31).toUInt32).toInt32) &&& (15 : Int32))), .val (.int fl), .val (.ref f5), .val (.ref ww), .val (.ref al), .unset] [])) _
            refine OGo.step (fun _ kk => XS.iloadN X257.here hx rfl (hb hby at_141) rfl kk) ?_
            refine OGo.step (fun _ kk => XS.iconst X257.here hx rfl (hb hby at_142) kk) ?_
            show OGo p e below (T257.setTop (mkF m 143 #[.val (.int p1), .val (.int p2), .val (.int p3), .val (.int (2 : Int32)), .val (.int (((p1.toUInt32 >>> ((3 : Int32) &&& 31).toUInt32).toInt32) &&& (7 : Int32))), .val (.int (((p1.toUInt32 >>> ((6 : Int32) &&& 31).toUInt32).toInt32) &&& (15 : Int32))), .val (.int fl), .val (.ref f5), .val (.ref ww), .val (.ref al), .unset] [(.int (4 : Int32)), (.int (2 : Int32))])) _
            refine OGo.step (fun _ kk => XS.icmpYes X257.here hx rfl (pc0 := 143) (pc' := 156) rfl (hb hby at_143) rfl (flt (by decide)).2.2.2 (by decide) (by decide) kk) ?_
            show OGo p e below (T257.setTop (mkF m 156 #[.val (.int p1), .val (.int p2), .val (.int p3), .val (.int (2 : Int32)), .val (.int (((p1.toUInt32 >>> ((3 : Int32) &&& 31).toUInt32).toInt32) &&& (7 : Int32))), .val (.int (((p1.toUInt32 >>> ((6 : Int32) &&& 31).toUInt32).toInt32) &&& (15 : Int32))), .val (.int fl), .val (.ref f5), .val (.ref ww), .val (.ref al), .unset] [])) _
            refine OGo.step (fun _ kk => XS.iloadN X257.here hx rfl (hb hby at_156) rfl kk) ?_
            refine OGo.step (fun _ kk => XS.iconst X257.here hx rfl (hb hby at_157) kk) ?_
            show OGo p e below (T257.setTop (mkF m 158 #[.val (.int p1), .val (.int p2), .val (.int p3), .val (.int (2 : Int32)), .val (.int (((p1.toUInt32 >>> ((3 : Int32) &&& 31).toUInt32).toInt32) &&& (7 : Int32))), .val (.int (((p1.toUInt32 >>> ((6 : Int32) &&& 31).toUInt32).toInt32) &&& (15 : Int32))), .val (.int fl), .val (.ref f5), .val (.ref ww), .val (.ref al), .unset] [(.int (5 : Int32)), (.int (2 : Int32))])) _
            refine OGo.step (fun _ kk => XS.icmpYes X257.here hx rfl (pc0 := 158) (pc' := 171) rfl (hb hby at_158) rfl (flt (by decide)).2.2.2 (by decide) (by decide) kk) ?_
            show OGo p e below (T257.setTop (mkF m 171 #[.val (.int p1), .val (.int p2), .val (.int p3), .val (.int (2 : Int32)), .val (.int (((p1.toUInt32 >>> ((3 : Int32) &&& 31).toUInt32).toInt32) &&& (7 : Int32))), .val (.int (((p1.toUInt32 >>> ((6 : Int32) &&& 31).toUInt32).toInt32) &&& (15 : Int32))), .val (.int fl), .val (.ref f5), .val (.ref ww), .val (.ref al), .unset] [])) _
            refine OGo.step (fun _ kk => XS.iloadN X257.here hx rfl (hb hby at_171) rfl kk) ?_
            refine OGo.step (fun _ kk => XS.bipush X257.here hx rfl (hb hby at_172) kk) ?_
            show OGo p e below (T257.setTop (mkF m 174 #[.val (.int p1), .val (.int p2), .val (.int p3), .val (.int (2 : Int32)), .val (.int (((p1.toUInt32 >>> ((3 : Int32) &&& 31).toUInt32).toInt32) &&& (7 : Int32))), .val (.int (((p1.toUInt32 >>> ((6 : Int32) &&& 31).toUInt32).toInt32) &&& (15 : Int32))), .val (.int fl), .val (.ref f5), .val (.ref ww), .val (.ref al), .unset] [(.int (6 : Int32)), (.int (2 : Int32))])) _
            refine OGo.step (fun _ kk => XS.icmpYes X257.here hx rfl (pc0 := 174) (pc' := 187) rfl (hb hby at_174) rfl (flt (by decide)).2.2.2 (by decide) (by decide) kk) ?_
            show OGo p e below (T257.setTop (mkF m 187 #[.val (.int p1), .val (.int p2), .val (.int p3), .val (.int (2 : Int32)), .val (.int (((p1.toUInt32 >>> ((3 : Int32) &&& 31).toUInt32).toInt32) &&& (7 : Int32))), .val (.int (((p1.toUInt32 >>> ((6 : Int32) &&& 31).toUInt32).toInt32) &&& (15 : Int32))), .val (.int fl), .val (.ref f5), .val (.ref ww), .val (.ref al), .unset] [])) _
            refine OGo.step (fun _ kk => XS.iloadN X257.here hx rfl (hb hby at_187) rfl kk) ?_
            refine OGo.step (fun _ kk => XS.iconst X257.here hx rfl (hb hby at_188) kk) ?_
            show OGo p e below (T257.setTop (mkF m 189 #[.val (.int p1), .val (.int p2), .val (.int p3), .val (.int (2 : Int32)), .val (.int (((p1.toUInt32 >>> ((3 : Int32) &&& 31).toUInt32).toInt32) &&& (7 : Int32))), .val (.int (((p1.toUInt32 >>> ((6 : Int32) &&& 31).toUInt32).toInt32) &&& (15 : Int32))), .val (.int fl), .val (.ref f5), .val (.ref ww), .val (.ref al), .unset] [(.int (4 : Int32)), (.int (2 : Int32))])) _
            refine OGo.step (fun _ kk => XS.icmpNo X257.here hx rfl (hb hby at_189) rfl (feq (by decide)).1 kk) ?_
            show OGo p e below (T257.setTop (mkF m 192 #[.val (.int p1), .val (.int p2), .val (.int p3), .val (.int (2 : Int32)), .val (.int (((p1.toUInt32 >>> ((3 : Int32) &&& 31).toUInt32).toInt32) &&& (7 : Int32))), .val (.int (((p1.toUInt32 >>> ((6 : Int32) &&& 31).toUInt32).toInt32) &&& (15 : Int32))), .val (.int fl), .val (.ref f5), .val (.ref ww), .val (.ref al), .unset] [])) _
            refine OGo.step (fun _ kk => XS.iloadN X257.here hx rfl (hb hby at_192) rfl kk) ?_
            refine OGo.step (fun _ kk => XS.bipush X257.here hx rfl (hb hby at_193) kk) ?_
            show OGo p e below (T257.setTop (mkF m 195 #[.val (.int p1), .val (.int p2), .val (.int p3), .val (.int (2 : Int32)), .val (.int (((p1.toUInt32 >>> ((3 : Int32) &&& 31).toUInt32).toInt32) &&& (7 : Int32))), .val (.int (((p1.toUInt32 >>> ((6 : Int32) &&& 31).toUInt32).toInt32) &&& (15 : Int32))), .val (.int fl), .val (.ref f5), .val (.ref ww), .val (.ref al), .unset] [(.int (6 : Int32)), (.int (2 : Int32))])) _
            refine OGo.step (fun _ kk => XS.icmpYes X257.here hx rfl (pc0 := 195) (pc' := 210) rfl (hb hby at_195) rfl (feq (by decide)).2 (by decide) (by decide) kk) ?_
            show OGo p e below (T257.setTop (mkF m 210 #[.val (.int p1), .val (.int p2), .val (.int p3), .val (.int (2 : Int32)), .val (.int (((p1.toUInt32 >>> ((3 : Int32) &&& 31).toUInt32).toInt32) &&& (7 : Int32))), .val (.int (((p1.toUInt32 >>> ((6 : Int32) &&& 31).toUInt32).toInt32) &&& (15 : Int32))), .val (.int fl), .val (.ref f5), .val (.ref ww), .val (.ref al), .unset] [])) _
            refine OGo.step (fun _ kk => XS.iconst X257.here hx rfl (hb hby at_210) kk) ?_
            refine OGo.step (fun _ kk => XS.istore X257.here hx rfl (hb hby at_211) rfl (l' := #[.val (.int p1), .val (.int p2), .val (.int p3), .val (.int (2 : Int32)), .val (.int (((p1.toUInt32 >>> ((3 : Int32) &&& 31).toUInt32).toInt32) &&& (7 : Int32))), .val (.int (((p1.toUInt32 >>> ((6 : Int32) &&& 31).toUInt32).toInt32) &&& (15 : Int32))), .val (.int fl), .val (.ref f5), .val (.ref ww), .val (.ref al), .val (.int (0 : Int32))]) rfl kk) ?_
            refine OGo.step (fun _ kk => XS.aload X257.here hx rfl (hb hby at_213) rfl rfl kk) ?_
            show OGo p e below (T257.setTop (mkF m 215 #[.val (.int p1), .val (.int p2), .val (.int p3), .val (.int (2 : Int32)), .val (.int (((p1.toUInt32 >>> ((3 : Int32) &&& 31).toUInt32).toInt32) &&& (7 : Int32))), .val (.int (((p1.toUInt32 >>> ((6 : Int32) &&& 31).toUInt32).toInt32) &&& (15 : Int32))), .val (.int fl), .val (.ref f5), .val (.ref ww), .val (.ref al), .val (.int (0 : Int32))] [(.ref al)])) _
            refine own_callSW X257 hx hZ (y := (⟨"com/example/tags_to_grants/tagstogrants/cli/TagsToGrants", "isOneRequest", "(Ljava/util/List;)Z"⟩ : MethodName)) hown (hw _ (List.mem_of_getElem? (i := 57) rfl)) (hw _ (List.mem_of_getElem? (i := 58) rfl)) (hw _ (List.mem_of_getElem? (i := 59) rfl)) (hw _ (List.mem_of_getElem? (i := 60) rfl)) (by decide) hEL OW259 (W := 0) (own_one2 l Z a0 hw [] al T257.heap n0 sz257 f1257 f3257) rfl  (pc := 215) (Ls := #[.val (.int p1), .val (.int p2), .val (.int p3), .val (.int (2 : Int32)), .val (.int (((p1.toUInt32 >>> ((3 : Int32) &&& 31).toUInt32).toInt32) &&& (7 : Int32))), .val (.int (((p1.toUInt32 >>> ((6 : Int32) &&& 31).toUInt32).toInt32) &&& (15 : Int32))), .val (.int fl), .val (.ref f5), .val (.ref ww), .val (.ref al), .val (.int (0 : Int32))]) (argsL := [(.ref al)]) (rest := []) (by rw [hml]; rfl) (lenOf own_pd13 rfl) rfl (hb hby at_215) (by decide) (by decide) (by decide) (by decide) ?_
            intro v315 T315 L315 X315 hQ315 OW315 hZ hown CH315
            obtain ⟨rfl, N315, Xe315⟩ := hQ315
            have sf316 := CH315.safe (f5_257).lt sf258
            show OGo p e below (T315.setTop (mkF m 218 #[.val (.int p1), .val (.int p2), .val (.int p3), .val (.int (2 : Int32)), .val (.int (((p1.toUInt32 >>> ((3 : Int32) &&& 31).toUInt32).toInt32) &&& (7 : Int32))), .val (.int (((p1.toUInt32 >>> ((6 : Int32) &&& 31).toUInt32).toInt32) &&& (15 : Int32))), .val (.int fl), .val (.ref f5), .val (.ref ww), .val (.ref al), .val (.int (0 : Int32))] [(.int (0 : Int32))])) _
            have Nc315 := Fr.app Nc257 N315
            have sz315 : n0 ≤ T315.heap.size := Nat.le_trans sz257 Xe315.1
            refine OGo.step (fun _ kk => XS.iload X315.here hx rfl (hb hby at_218) rfl kk) ?_
            show OGo p e below (T315.setTop (mkF m 220 #[.val (.int p1), .val (.int p2), .val (.int p3), .val (.int (2 : Int32)), .val (.int (((p1.toUInt32 >>> ((3 : Int32) &&& 31).toUInt32).toInt32) &&& (7 : Int32))), .val (.int (((p1.toUInt32 >>> ((6 : Int32) &&& 31).toUInt32).toInt32) &&& (15 : Int32))), .val (.int fl), .val (.ref f5), .val (.ref ww), .val (.ref al), .val (.int (0 : Int32))] [(.int (0 : Int32)), (.int (0 : Int32))])) _
            refine OGo.step (fun _ kk => XS.icmpNo X315.here hx rfl (hb hby at_220) rfl (teq rfl).2 kk) ?_
            show OGo p e below (T315.setTop (mkF m 223 #[.val (.int p1), .val (.int p2), .val (.int p3), .val (.int (2 : Int32)), .val (.int (((p1.toUInt32 >>> ((3 : Int32) &&& 31).toUInt32).toInt32) &&& (7 : Int32))), .val (.int (((p1.toUInt32 >>> ((6 : Int32) &&& 31).toUInt32).toInt32) &&& (15 : Int32))), .val (.int fl), .val (.ref f5), .val (.ref ww), .val (.ref al), .val (.int (0 : Int32))] [])) _
            refine OGo.step (fun _ kk => XS.iconst X315.here hx rfl (hb hby at_223) kk) ?_
            refine OGo.step (fun _ kk => XS.goto X315.here hx rfl (pc0 := 224) (pc' := 228) rfl (hb hby at_224) (by decide) (by decide) kk) ?_
            show OGo p e below (T315.setTop (mkF m 228 #[.val (.int p1), .val (.int p2), .val (.int p3), .val (.int (2 : Int32)), .val (.int (((p1.toUInt32 >>> ((3 : Int32) &&& 31).toUInt32).toInt32) &&& (7 : Int32))), .val (.int (((p1.toUInt32 >>> ((6 : Int32) &&& 31).toUInt32).toInt32) &&& (15 : Int32))), .val (.int fl), .val (.ref f5), .val (.ref ww), .val (.ref al), .val (.int (0 : Int32))] [(.int (1 : Int32))])) _
            exact own_retNW X315 hx hlk hEL OW315 rfl hret (by simp) (hb hby at_228) ⟨by rw [own_nar1], Nc315⟩ (by decide) (by decide)
        · refine OGo.step (fun _ kk => XS.icmpYes X253.here hx rfl (pc0 := 98) (pc' := 111) rfl (hb hby at_98) rfl (flt hf1).2.2.2 (by decide) (by decide) kk) ?_
          show OGo p e below (T253.setTop (mkF m 111 #[.val (.int p1), .val (.int p2), .val (.int p3), .val (.int nn), .val (.int (((p1.toUInt32 >>> ((3 : Int32) &&& 31).toUInt32).toInt32) &&& (7 : Int32))), .val (.int (((p1.toUInt32 >>> ((6 : Int32) &&& 31).toUInt32).toInt32) &&& (15 : Int32))), .val (.int fl), .val (.ref f5), .val (.ref ww), .val (.ref al), .unset] [])) _
          obtain rfl := own_sk1 h8 hf0 hf1
          show OGo p e below (T253.setTop (mkF m 111 #[.val (.int p1), .val (.int p2), .val (.int p3), .val (.int (1 : Int32)), .val (.int (((p1.toUInt32 >>> ((3 : Int32) &&& 31).toUInt32).toInt32) &&& (7 : Int32))), .val (.int (((p1.toUInt32 >>> ((6 : Int32) &&& 31).toUInt32).toInt32) &&& (15 : Int32))), .val (.int fl), .val (.ref f5), .val (.ref ww), .val (.ref al), .unset] [])) _
          refine OGo.step (fun _ kk => XS.iloadN X253.here hx rfl (hb hby at_111) rfl kk) ?_
          refine OGo.step (fun _ kk => XS.iconst X253.here hx rfl (hb hby at_112) kk) ?_
          show OGo p e below (T253.setTop (mkF m 113 #[.val (.int p1), .val (.int p2), .val (.int p3), .val (.int (1 : Int32)), .val (.int (((p1.toUInt32 >>> ((3 : Int32) &&& 31).toUInt32).toInt32) &&& (7 : Int32))), .val (.int (((p1.toUInt32 >>> ((6 : Int32) &&& 31).toUInt32).toInt32) &&& (15 : Int32))), .val (.int fl), .val (.ref f5), .val (.ref ww), .val (.ref al), .unset] [(.int (2 : Int32)), (.int (1 : Int32))])) _
          refine OGo.step (fun _ kk => XS.icmpYes X253.here hx rfl (pc0 := 113) (pc' := 126) rfl (hb hby at_113) rfl (flt (by decide)).2.2.2 (by decide) (by decide) kk) ?_
          show OGo p e below (T253.setTop (mkF m 126 #[.val (.int p1), .val (.int p2), .val (.int p3), .val (.int (1 : Int32)), .val (.int (((p1.toUInt32 >>> ((3 : Int32) &&& 31).toUInt32).toInt32) &&& (7 : Int32))), .val (.int (((p1.toUInt32 >>> ((6 : Int32) &&& 31).toUInt32).toInt32) &&& (15 : Int32))), .val (.int fl), .val (.ref f5), .val (.ref ww), .val (.ref al), .unset] [])) _
          refine OGo.step (fun _ kk => XS.iloadN X253.here hx rfl (hb hby at_126) rfl kk) ?_
          refine OGo.step (fun _ kk => XS.iconst X253.here hx rfl (hb hby at_127) kk) ?_
          show OGo p e below (T253.setTop (mkF m 128 #[.val (.int p1), .val (.int p2), .val (.int p3), .val (.int (1 : Int32)), .val (.int (((p1.toUInt32 >>> ((3 : Int32) &&& 31).toUInt32).toInt32) &&& (7 : Int32))), .val (.int (((p1.toUInt32 >>> ((6 : Int32) &&& 31).toUInt32).toInt32) &&& (15 : Int32))), .val (.int fl), .val (.ref f5), .val (.ref ww), .val (.ref al), .unset] [(.int (3 : Int32)), (.int (1 : Int32))])) _
          refine OGo.step (fun _ kk => XS.icmpYes X253.here hx rfl (pc0 := 128) (pc' := 141) rfl (hb hby at_128) rfl (flt (by decide)).2.2.2 (by decide) (by decide) kk) ?_
          show OGo p e below (T253.setTop (mkF m 141 #[.val (.int p1), .val (.int p2), .val (.int p3), .val (.int (1 : Int32)), .val (.int (((p1.toUInt32 >>> ((3 : Int32) &&& 31).toUInt32).toInt32) &&& (7 : Int32))), .val (.int (((p1.toUInt32 >>> ((6 : Int32) &&& 31).toUInt32).toInt32) &&& (15 : Int32))), .val (.int fl), .val (.ref f5), .val (.ref ww), .val (.ref al), .unset] [])) _
          refine OGo.step (fun _ kk => XS.iloadN X253.here hx rfl (hb hby at_141) rfl kk) ?_
          refine OGo.step (fun _ kk => XS.iconst X253.here hx rfl (hb hby at_142) kk) ?_
          show OGo p e below (T253.setTop (mkF m 143 #[.val (.int p1), .val (.int p2), .val (.int p3), .val (.int (1 : Int32)), .val (.int (((p1.toUInt32 >>> ((3 : Int32) &&& 31).toUInt32).toInt32) &&& (7 : Int32))), .val (.int (((p1.toUInt32 >>> ((6 : Int32) &&& 31).toUInt32).toInt32) &&& (15 : Int32))), .val (.int fl), .val (.ref f5), .val (.ref ww), .val (.ref al), .unset] [(.int (4 : Int32)), (.int (1 : Int32))])) _
          refine OGo.step (fun _ kk => XS.icmpYes X253.here hx rfl (pc0 := 143) (pc' := 156) rfl (hb hby at_143) rfl (flt (by decide)).2.2.2 (by decide) (by decide) kk) ?_
          show OGo p e below (T253.setTop (mkF m 156 #[.val (.int p1), .val (.int p2), .val (.int p3), .val (.int (1 : Int32)), .val (.int (((p1.toUInt32 >>> ((3 : Int32) &&& 31).toUInt32).toInt32) &&& (7 : Int32))), .val (.int (((p1.toUInt32 >>> ((6 : Int32) &&& 31).toUInt32).toInt32) &&& (15 : Int32))), .val (.int fl), .val (.ref f5), .val (.ref ww), .val (.ref al), .unset] [])) _
          refine OGo.step (fun _ kk => XS.iloadN X253.here hx rfl (hb hby at_156) rfl kk) ?_
          refine OGo.step (fun _ kk => XS.iconst X253.here hx rfl (hb hby at_157) kk) ?_
          show OGo p e below (T253.setTop (mkF m 158 #[.val (.int p1), .val (.int p2), .val (.int p3), .val (.int (1 : Int32)), .val (.int (((p1.toUInt32 >>> ((3 : Int32) &&& 31).toUInt32).toInt32) &&& (7 : Int32))), .val (.int (((p1.toUInt32 >>> ((6 : Int32) &&& 31).toUInt32).toInt32) &&& (15 : Int32))), .val (.int fl), .val (.ref f5), .val (.ref ww), .val (.ref al), .unset] [(.int (5 : Int32)), (.int (1 : Int32))])) _
          refine OGo.step (fun _ kk => XS.icmpYes X253.here hx rfl (pc0 := 158) (pc' := 171) rfl (hb hby at_158) rfl (flt (by decide)).2.2.2 (by decide) (by decide) kk) ?_
          show OGo p e below (T253.setTop (mkF m 171 #[.val (.int p1), .val (.int p2), .val (.int p3), .val (.int (1 : Int32)), .val (.int (((p1.toUInt32 >>> ((3 : Int32) &&& 31).toUInt32).toInt32) &&& (7 : Int32))), .val (.int (((p1.toUInt32 >>> ((6 : Int32) &&& 31).toUInt32).toInt32) &&& (15 : Int32))), .val (.int fl), .val (.ref f5), .val (.ref ww), .val (.ref al), .unset] [])) _
          refine OGo.step (fun _ kk => XS.iloadN X253.here hx rfl (hb hby at_171) rfl kk) ?_
          refine OGo.step (fun _ kk => XS.bipush X253.here hx rfl (hb hby at_172) kk) ?_
          show OGo p e below (T253.setTop (mkF m 174 #[.val (.int p1), .val (.int p2), .val (.int p3), .val (.int (1 : Int32)), .val (.int (((p1.toUInt32 >>> ((3 : Int32) &&& 31).toUInt32).toInt32) &&& (7 : Int32))), .val (.int (((p1.toUInt32 >>> ((6 : Int32) &&& 31).toUInt32).toInt32) &&& (15 : Int32))), .val (.int fl), .val (.ref f5), .val (.ref ww), .val (.ref al), .unset] [(.int (6 : Int32)), (.int (1 : Int32))])) _
          refine OGo.step (fun _ kk => XS.icmpYes X253.here hx rfl (pc0 := 174) (pc' := 187) rfl (hb hby at_174) rfl (flt (by decide)).2.2.2 (by decide) (by decide) kk) ?_
          show OGo p e below (T253.setTop (mkF m 187 #[.val (.int p1), .val (.int p2), .val (.int p3), .val (.int (1 : Int32)), .val (.int (((p1.toUInt32 >>> ((3 : Int32) &&& 31).toUInt32).toInt32) &&& (7 : Int32))), .val (.int (((p1.toUInt32 >>> ((6 : Int32) &&& 31).toUInt32).toInt32) &&& (15 : Int32))), .val (.int fl), .val (.ref f5), .val (.ref ww), .val (.ref al), .unset] [])) _
          refine OGo.step (fun _ kk => XS.iloadN X253.here hx rfl (hb hby at_187) rfl kk) ?_
          refine OGo.step (fun _ kk => XS.iconst X253.here hx rfl (hb hby at_188) kk) ?_
          show OGo p e below (T253.setTop (mkF m 189 #[.val (.int p1), .val (.int p2), .val (.int p3), .val (.int (1 : Int32)), .val (.int (((p1.toUInt32 >>> ((3 : Int32) &&& 31).toUInt32).toInt32) &&& (7 : Int32))), .val (.int (((p1.toUInt32 >>> ((6 : Int32) &&& 31).toUInt32).toInt32) &&& (15 : Int32))), .val (.int fl), .val (.ref f5), .val (.ref ww), .val (.ref al), .unset] [(.int (4 : Int32)), (.int (1 : Int32))])) _
          refine OGo.step (fun _ kk => XS.icmpNo X253.here hx rfl (hb hby at_189) rfl (feq (by decide)).1 kk) ?_
          show OGo p e below (T253.setTop (mkF m 192 #[.val (.int p1), .val (.int p2), .val (.int p3), .val (.int (1 : Int32)), .val (.int (((p1.toUInt32 >>> ((3 : Int32) &&& 31).toUInt32).toInt32) &&& (7 : Int32))), .val (.int (((p1.toUInt32 >>> ((6 : Int32) &&& 31).toUInt32).toInt32) &&& (15 : Int32))), .val (.int fl), .val (.ref f5), .val (.ref ww), .val (.ref al), .unset] [])) _
          refine OGo.step (fun _ kk => XS.iloadN X253.here hx rfl (hb hby at_192) rfl kk) ?_
          refine OGo.step (fun _ kk => XS.bipush X253.here hx rfl (hb hby at_193) kk) ?_
          show OGo p e below (T253.setTop (mkF m 195 #[.val (.int p1), .val (.int p2), .val (.int p3), .val (.int (1 : Int32)), .val (.int (((p1.toUInt32 >>> ((3 : Int32) &&& 31).toUInt32).toInt32) &&& (7 : Int32))), .val (.int (((p1.toUInt32 >>> ((6 : Int32) &&& 31).toUInt32).toInt32) &&& (15 : Int32))), .val (.int fl), .val (.ref f5), .val (.ref ww), .val (.ref al), .unset] [(.int (6 : Int32)), (.int (1 : Int32))])) _
          refine OGo.step (fun _ kk => XS.icmpYes X253.here hx rfl (pc0 := 195) (pc' := 210) rfl (hb hby at_195) rfl (feq (by decide)).2 (by decide) (by decide) kk) ?_
          show OGo p e below (T253.setTop (mkF m 210 #[.val (.int p1), .val (.int p2), .val (.int p3), .val (.int (1 : Int32)), .val (.int (((p1.toUInt32 >>> ((3 : Int32) &&& 31).toUInt32).toInt32) &&& (7 : Int32))), .val (.int (((p1.toUInt32 >>> ((6 : Int32) &&& 31).toUInt32).toInt32) &&& (15 : Int32))), .val (.int fl), .val (.ref f5), .val (.ref ww), .val (.ref al), .unset] [])) _
          refine OGo.step (fun _ kk => XS.iconst X253.here hx rfl (hb hby at_210) kk) ?_
          refine OGo.step (fun _ kk => XS.istore X253.here hx rfl (hb hby at_211) rfl (l' := #[.val (.int p1), .val (.int p2), .val (.int p3), .val (.int (1 : Int32)), .val (.int (((p1.toUInt32 >>> ((3 : Int32) &&& 31).toUInt32).toInt32) &&& (7 : Int32))), .val (.int (((p1.toUInt32 >>> ((6 : Int32) &&& 31).toUInt32).toInt32) &&& (15 : Int32))), .val (.int fl), .val (.ref f5), .val (.ref ww), .val (.ref al), .val (.int (0 : Int32))]) rfl kk) ?_
          refine OGo.step (fun _ kk => XS.aload X253.here hx rfl (hb hby at_213) rfl rfl kk) ?_
          show OGo p e below (T253.setTop (mkF m 215 #[.val (.int p1), .val (.int p2), .val (.int p3), .val (.int (1 : Int32)), .val (.int (((p1.toUInt32 >>> ((3 : Int32) &&& 31).toUInt32).toInt32) &&& (7 : Int32))), .val (.int (((p1.toUInt32 >>> ((6 : Int32) &&& 31).toUInt32).toInt32) &&& (15 : Int32))), .val (.int fl), .val (.ref f5), .val (.ref ww), .val (.ref al), .val (.int (0 : Int32))] [(.ref al)])) _
          refine own_callSW X253 hx hZ (y := (⟨"com/example/tags_to_grants/tagstogrants/cli/TagsToGrants", "isOneRequest", "(Ljava/util/List;)Z"⟩ : MethodName)) hown (hw _ (List.mem_of_getElem? (i := 57) rfl)) (hw _ (List.mem_of_getElem? (i := 58) rfl)) (hw _ (List.mem_of_getElem? (i := 59) rfl)) (hw _ (List.mem_of_getElem? (i := 60) rfl)) (by decide) hEL OW254 (W := 0) (own_one1 l Z a0 hw [] al T253.heap n0 sz253 f1253 f3253) rfl  (pc := 215) (Ls := #[.val (.int p1), .val (.int p2), .val (.int p3), .val (.int (1 : Int32)), .val (.int (((p1.toUInt32 >>> ((3 : Int32) &&& 31).toUInt32).toInt32) &&& (7 : Int32))), .val (.int (((p1.toUInt32 >>> ((6 : Int32) &&& 31).toUInt32).toInt32) &&& (15 : Int32))), .val (.int fl), .val (.ref f5), .val (.ref ww), .val (.ref al), .val (.int (0 : Int32))]) (argsL := [(.ref al)]) (rest := []) (by rw [hml]; rfl) (lenOf own_pd13 rfl) rfl (hb hby at_215) (by decide) (by decide) (by decide) (by decide) ?_
          intro v317 T317 L317 X317 hQ317 OW317 hZ hown CH317
          obtain ⟨rfl, N317, Xe317⟩ := hQ317
          have sf318 := CH317.safe (f5_253).lt sfe
          show OGo p e below (T317.setTop (mkF m 218 #[.val (.int p1), .val (.int p2), .val (.int p3), .val (.int (1 : Int32)), .val (.int (((p1.toUInt32 >>> ((3 : Int32) &&& 31).toUInt32).toInt32) &&& (7 : Int32))), .val (.int (((p1.toUInt32 >>> ((6 : Int32) &&& 31).toUInt32).toInt32) &&& (15 : Int32))), .val (.int fl), .val (.ref f5), .val (.ref ww), .val (.ref al), .val (.int (0 : Int32))] [(.int (0 : Int32))])) _
          have Nc317 := Fr.app Nc253 N317
          have sz317 : n0 ≤ T317.heap.size := Nat.le_trans sz253 Xe317.1
          refine OGo.step (fun _ kk => XS.iload X317.here hx rfl (hb hby at_218) rfl kk) ?_
          show OGo p e below (T317.setTop (mkF m 220 #[.val (.int p1), .val (.int p2), .val (.int p3), .val (.int (1 : Int32)), .val (.int (((p1.toUInt32 >>> ((3 : Int32) &&& 31).toUInt32).toInt32) &&& (7 : Int32))), .val (.int (((p1.toUInt32 >>> ((6 : Int32) &&& 31).toUInt32).toInt32) &&& (15 : Int32))), .val (.int fl), .val (.ref f5), .val (.ref ww), .val (.ref al), .val (.int (0 : Int32))] [(.int (0 : Int32)), (.int (0 : Int32))])) _
          refine OGo.step (fun _ kk => XS.icmpNo X317.here hx rfl (hb hby at_220) rfl (teq rfl).2 kk) ?_
          show OGo p e below (T317.setTop (mkF m 223 #[.val (.int p1), .val (.int p2), .val (.int p3), .val (.int (1 : Int32)), .val (.int (((p1.toUInt32 >>> ((3 : Int32) &&& 31).toUInt32).toInt32) &&& (7 : Int32))), .val (.int (((p1.toUInt32 >>> ((6 : Int32) &&& 31).toUInt32).toInt32) &&& (15 : Int32))), .val (.int fl), .val (.ref f5), .val (.ref ww), .val (.ref al), .val (.int (0 : Int32))] [])) _
          refine OGo.step (fun _ kk => XS.iconst X317.here hx rfl (hb hby at_223) kk) ?_
          refine OGo.step (fun _ kk => XS.goto X317.here hx rfl (pc0 := 224) (pc' := 228) rfl (hb hby at_224) (by decide) (by decide) kk) ?_
          show OGo p e below (T317.setTop (mkF m 228 #[.val (.int p1), .val (.int p2), .val (.int p3), .val (.int (1 : Int32)), .val (.int (((p1.toUInt32 >>> ((3 : Int32) &&& 31).toUInt32).toInt32) &&& (7 : Int32))), .val (.int (((p1.toUInt32 >>> ((6 : Int32) &&& 31).toUInt32).toInt32) &&& (15 : Int32))), .val (.int fl), .val (.ref f5), .val (.ref ww), .val (.ref al), .val (.int (0 : Int32))] [(.int (1 : Int32))])) _
          exact own_retNW X317 hx hlk hEL OW317 rfl hret (by simp) (hb hby at_228) ⟨by rw [own_nar1], Nc317⟩ (by decide) (by decide)
      · refine OGo.step (fun _ kk => XS.ifYes X246.here hx rfl (pc0 := 83) (pc' := 96) rfl (hb hby at_83) rfl ((if0 _ _).trans (flt hf0).2.2.2) (by decide) (by decide) kk) ?_
        show OGo p e below (T246.setTop (mkF m 96 #[.val (.int p1), .val (.int p2), .val (.int p3), .val (.int nn), .val (.int (((p1.toUInt32 >>> ((3 : Int32) &&& 31).toUInt32).toInt32) &&& (7 : Int32))), .val (.int (((p1.toUInt32 >>> ((6 : Int32) &&& 31).toUInt32).toInt32) &&& (15 : Int32))), .val (.int fl), .val (.ref f5), .val (.ref ww), .val (.ref al), .unset] [])) _
        obtain rfl := own_sk0 h8 hf0
        show OGo p e below (T246.setTop (mkF m 96 #[.val (.int p1), .val (.int p2), .val (.int p3), .val (.int (0 : Int32)), .val (.int (((p1.toUInt32 >>> ((3 : Int32) &&& 31).toUInt32).toInt32) &&& (7 : Int32))), .val (.int (((p1.toUInt32 >>> ((6 : Int32) &&& 31).toUInt32).toInt32) &&& (15 : Int32))), .val (.int fl), .val (.ref f5), .val (.ref ww), .val (.ref al), .unset] [])) _
        refine OGo.step (fun _ kk => XS.iloadN X246.here hx rfl (hb hby at_96) rfl kk) ?_
        refine OGo.step (fun _ kk => XS.iconst X246.here hx rfl (hb hby at_97) kk) ?_
        show OGo p e below (T246.setTop (mkF m 98 #[.val (.int p1), .val (.int p2), .val (.int p3), .val (.int (0 : Int32)), .val (.int (((p1.toUInt32 >>> ((3 : Int32) &&& 31).toUInt32).toInt32) &&& (7 : Int32))), .val (.int (((p1.toUInt32 >>> ((6 : Int32) &&& 31).toUInt32).toInt32) &&& (15 : Int32))), .val (.int fl), .val (.ref f5), .val (.ref ww), .val (.ref al), .unset] [(.int (1 : Int32)), (.int (0 : Int32))])) _
        refine OGo.step (fun _ kk => XS.icmpYes X246.here hx rfl (pc0 := 98) (pc' := 111) rfl (hb hby at_98) rfl (flt (by decide)).2.2.2 (by decide) (by decide) kk) ?_
        show OGo p e below (T246.setTop (mkF m 111 #[.val (.int p1), .val (.int p2), .val (.int p3), .val (.int (0 : Int32)), .val (.int (((p1.toUInt32 >>> ((3 : Int32) &&& 31).toUInt32).toInt32) &&& (7 : Int32))), .val (.int (((p1.toUInt32 >>> ((6 : Int32) &&& 31).toUInt32).toInt32) &&& (15 : Int32))), .val (.int fl), .val (.ref f5), .val (.ref ww), .val (.ref al), .unset] [])) _
        refine OGo.step (fun _ kk => XS.iloadN X246.here hx rfl (hb hby at_111) rfl kk) ?_
        refine OGo.step (fun _ kk => XS.iconst X246.here hx rfl (hb hby at_112) kk) ?_
        show OGo p e below (T246.setTop (mkF m 113 #[.val (.int p1), .val (.int p2), .val (.int p3), .val (.int (0 : Int32)), .val (.int (((p1.toUInt32 >>> ((3 : Int32) &&& 31).toUInt32).toInt32) &&& (7 : Int32))), .val (.int (((p1.toUInt32 >>> ((6 : Int32) &&& 31).toUInt32).toInt32) &&& (15 : Int32))), .val (.int fl), .val (.ref f5), .val (.ref ww), .val (.ref al), .unset] [(.int (2 : Int32)), (.int (0 : Int32))])) _
        refine OGo.step (fun _ kk => XS.icmpYes X246.here hx rfl (pc0 := 113) (pc' := 126) rfl (hb hby at_113) rfl (flt (by decide)).2.2.2 (by decide) (by decide) kk) ?_
        show OGo p e below (T246.setTop (mkF m 126 #[.val (.int p1), .val (.int p2), .val (.int p3), .val (.int (0 : Int32)), .val (.int (((p1.toUInt32 >>> ((3 : Int32) &&& 31).toUInt32).toInt32) &&& (7 : Int32))), .val (.int (((p1.toUInt32 >>> ((6 : Int32) &&& 31).toUInt32).toInt32) &&& (15 : Int32))), .val (.int fl), .val (.ref f5), .val (.ref ww), .val (.ref al), .unset] [])) _
        refine OGo.step (fun _ kk => XS.iloadN X246.here hx rfl (hb hby at_126) rfl kk) ?_
        refine OGo.step (fun _ kk => XS.iconst X246.here hx rfl (hb hby at_127) kk) ?_
        show OGo p e below (T246.setTop (mkF m 128 #[.val (.int p1), .val (.int p2), .val (.int p3), .val (.int (0 : Int32)), .val (.int (((p1.toUInt32 >>> ((3 : Int32) &&& 31).toUInt32).toInt32) &&& (7 : Int32))), .val (.int (((p1.toUInt32 >>> ((6 : Int32) &&& 31).toUInt32).toInt32) &&& (15 : Int32))), .val (.int fl), .val (.ref f5), .val (.ref ww), .val (.ref al), .unset] [(.int (3 : Int32)), (.int (0 : Int32))])) _
        refine OGo.step (fun _ kk => XS.icmpYes X246.here hx rfl (pc0 := 128) (pc' := 141) rfl (hb hby at_128) rfl (flt (by decide)).2.2.2 (by decide) (by decide) kk) ?_
        show OGo p e below (T246.setTop (mkF m 141 #[.val (.int p1), .val (.int p2), .val (.int p3), .val (.int (0 : Int32)), .val (.int (((p1.toUInt32 >>> ((3 : Int32) &&& 31).toUInt32).toInt32) &&& (7 : Int32))), .val (.int (((p1.toUInt32 >>> ((6 : Int32) &&& 31).toUInt32).toInt32) &&& (15 : Int32))), .val (.int fl), .val (.ref f5), .val (.ref ww), .val (.ref al), .unset] [])) _
        refine OGo.step (fun _ kk => XS.iloadN X246.here hx rfl (hb hby at_141) rfl kk) ?_
        refine OGo.step (fun _ kk => XS.iconst X246.here hx rfl (hb hby at_142) kk) ?_
        show OGo p e below (T246.setTop (mkF m 143 #[.val (.int p1), .val (.int p2), .val (.int p3), .val (.int (0 : Int32)), .val (.int (((p1.toUInt32 >>> ((3 : Int32) &&& 31).toUInt32).toInt32) &&& (7 : Int32))), .val (.int (((p1.toUInt32 >>> ((6 : Int32) &&& 31).toUInt32).toInt32) &&& (15 : Int32))), .val (.int fl), .val (.ref f5), .val (.ref ww), .val (.ref al), .unset] [(.int (4 : Int32)), (.int (0 : Int32))])) _
        refine OGo.step (fun _ kk => XS.icmpYes X246.here hx rfl (pc0 := 143) (pc' := 156) rfl (hb hby at_143) rfl (flt (by decide)).2.2.2 (by decide) (by decide) kk) ?_
        show OGo p e below (T246.setTop (mkF m 156 #[.val (.int p1), .val (.int p2), .val (.int p3), .val (.int (0 : Int32)), .val (.int (((p1.toUInt32 >>> ((3 : Int32) &&& 31).toUInt32).toInt32) &&& (7 : Int32))), .val (.int (((p1.toUInt32 >>> ((6 : Int32) &&& 31).toUInt32).toInt32) &&& (15 : Int32))), .val (.int fl), .val (.ref f5), .val (.ref ww), .val (.ref al), .unset] [])) _
        refine OGo.step (fun _ kk => XS.iloadN X246.here hx rfl (hb hby at_156) rfl kk) ?_
        refine OGo.step (fun _ kk => XS.iconst X246.here hx rfl (hb hby at_157) kk) ?_
        show OGo p e below (T246.setTop (mkF m 158 #[.val (.int p1), .val (.int p2), .val (.int p3), .val (.int (0 : Int32)), .val (.int (((p1.toUInt32 >>> ((3 : Int32) &&& 31).toUInt32).toInt32) &&& (7 : Int32))), .val (.int (((p1.toUInt32 >>> ((6 : Int32) &&& 31).toUInt32).toInt32) &&& (15 : Int32))), .val (.int fl), .val (.ref f5), .val (.ref ww), .val (.ref al), .unset] [(.int (5 : Int32)), (.int (0 : Int32))])) _
        refine OGo.step (fun _ kk => XS.icmpYes X246.here hx rfl (pc0 := 158) (pc' := 171) rfl (hb hby at_158) rfl (flt (by decide)).2.2.2 (by decide) (by decide) kk) ?_
        show OGo p e below (T246.setTop (mkF m 171 #[.val (.int p1), .val (.int p2), .val (.int p3), .val (.int (0 : Int32)), .val (.int (((p1.toUInt32 >>> ((3 : Int32) &&& 31).toUInt32).toInt32) &&& (7 : Int32))), .val (.int (((p1.toUInt32 >>> ((6 : Int32) &&& 31).toUInt32).toInt32) &&& (15 : Int32))), .val (.int fl), .val (.ref f5), .val (.ref ww), .val (.ref al), .unset] [])) _
        refine OGo.step (fun _ kk => XS.iloadN X246.here hx rfl (hb hby at_171) rfl kk) ?_
        refine OGo.step (fun _ kk => XS.bipush X246.here hx rfl (hb hby at_172) kk) ?_
        show OGo p e below (T246.setTop (mkF m 174 #[.val (.int p1), .val (.int p2), .val (.int p3), .val (.int (0 : Int32)), .val (.int (((p1.toUInt32 >>> ((3 : Int32) &&& 31).toUInt32).toInt32) &&& (7 : Int32))), .val (.int (((p1.toUInt32 >>> ((6 : Int32) &&& 31).toUInt32).toInt32) &&& (15 : Int32))), .val (.int fl), .val (.ref f5), .val (.ref ww), .val (.ref al), .unset] [(.int (6 : Int32)), (.int (0 : Int32))])) _
        refine OGo.step (fun _ kk => XS.icmpYes X246.here hx rfl (pc0 := 174) (pc' := 187) rfl (hb hby at_174) rfl (flt (by decide)).2.2.2 (by decide) (by decide) kk) ?_
        show OGo p e below (T246.setTop (mkF m 187 #[.val (.int p1), .val (.int p2), .val (.int p3), .val (.int (0 : Int32)), .val (.int (((p1.toUInt32 >>> ((3 : Int32) &&& 31).toUInt32).toInt32) &&& (7 : Int32))), .val (.int (((p1.toUInt32 >>> ((6 : Int32) &&& 31).toUInt32).toInt32) &&& (15 : Int32))), .val (.int fl), .val (.ref f5), .val (.ref ww), .val (.ref al), .unset] [])) _
        refine OGo.step (fun _ kk => XS.iloadN X246.here hx rfl (hb hby at_187) rfl kk) ?_
        refine OGo.step (fun _ kk => XS.iconst X246.here hx rfl (hb hby at_188) kk) ?_
        show OGo p e below (T246.setTop (mkF m 189 #[.val (.int p1), .val (.int p2), .val (.int p3), .val (.int (0 : Int32)), .val (.int (((p1.toUInt32 >>> ((3 : Int32) &&& 31).toUInt32).toInt32) &&& (7 : Int32))), .val (.int (((p1.toUInt32 >>> ((6 : Int32) &&& 31).toUInt32).toInt32) &&& (15 : Int32))), .val (.int fl), .val (.ref f5), .val (.ref ww), .val (.ref al), .unset] [(.int (4 : Int32)), (.int (0 : Int32))])) _
        refine OGo.step (fun _ kk => XS.icmpNo X246.here hx rfl (hb hby at_189) rfl (feq (by decide)).1 kk) ?_
        show OGo p e below (T246.setTop (mkF m 192 #[.val (.int p1), .val (.int p2), .val (.int p3), .val (.int (0 : Int32)), .val (.int (((p1.toUInt32 >>> ((3 : Int32) &&& 31).toUInt32).toInt32) &&& (7 : Int32))), .val (.int (((p1.toUInt32 >>> ((6 : Int32) &&& 31).toUInt32).toInt32) &&& (15 : Int32))), .val (.int fl), .val (.ref f5), .val (.ref ww), .val (.ref al), .unset] [])) _
        refine OGo.step (fun _ kk => XS.iloadN X246.here hx rfl (hb hby at_192) rfl kk) ?_
        refine OGo.step (fun _ kk => XS.bipush X246.here hx rfl (hb hby at_193) kk) ?_
        show OGo p e below (T246.setTop (mkF m 195 #[.val (.int p1), .val (.int p2), .val (.int p3), .val (.int (0 : Int32)), .val (.int (((p1.toUInt32 >>> ((3 : Int32) &&& 31).toUInt32).toInt32) &&& (7 : Int32))), .val (.int (((p1.toUInt32 >>> ((6 : Int32) &&& 31).toUInt32).toInt32) &&& (15 : Int32))), .val (.int fl), .val (.ref f5), .val (.ref ww), .val (.ref al), .unset] [(.int (6 : Int32)), (.int (0 : Int32))])) _
        refine OGo.step (fun _ kk => XS.icmpYes X246.here hx rfl (pc0 := 195) (pc' := 210) rfl (hb hby at_195) rfl (feq (by decide)).2 (by decide) (by decide) kk) ?_
        show OGo p e below (T246.setTop (mkF m 210 #[.val (.int p1), .val (.int p2), .val (.int p3), .val (.int (0 : Int32)), .val (.int (((p1.toUInt32 >>> ((3 : Int32) &&& 31).toUInt32).toInt32) &&& (7 : Int32))), .val (.int (((p1.toUInt32 >>> ((6 : Int32) &&& 31).toUInt32).toInt32) &&& (15 : Int32))), .val (.int fl), .val (.ref f5), .val (.ref ww), .val (.ref al), .unset] [])) _
        refine OGo.step (fun _ kk => XS.iconst X246.here hx rfl (hb hby at_210) kk) ?_
        refine OGo.step (fun _ kk => XS.istore X246.here hx rfl (hb hby at_211) rfl (l' := #[.val (.int p1), .val (.int p2), .val (.int p3), .val (.int (0 : Int32)), .val (.int (((p1.toUInt32 >>> ((3 : Int32) &&& 31).toUInt32).toInt32) &&& (7 : Int32))), .val (.int (((p1.toUInt32 >>> ((6 : Int32) &&& 31).toUInt32).toInt32) &&& (15 : Int32))), .val (.int fl), .val (.ref f5), .val (.ref ww), .val (.ref al), .val (.int (0 : Int32))]) rfl kk) ?_
        refine OGo.step (fun _ kk => XS.aload X246.here hx rfl (hb hby at_213) rfl rfl kk) ?_
        show OGo p e below (T246.setTop (mkF m 215 #[.val (.int p1), .val (.int p2), .val (.int p3), .val (.int (0 : Int32)), .val (.int (((p1.toUInt32 >>> ((3 : Int32) &&& 31).toUInt32).toInt32) &&& (7 : Int32))), .val (.int (((p1.toUInt32 >>> ((6 : Int32) &&& 31).toUInt32).toInt32) &&& (15 : Int32))), .val (.int fl), .val (.ref f5), .val (.ref ww), .val (.ref al), .val (.int (0 : Int32))] [(.ref al)])) _
        refine own_callSW X246 hx hZ (y := (⟨"com/example/tags_to_grants/tagstogrants/cli/TagsToGrants", "isOneRequest", "(Ljava/util/List;)Z"⟩ : MethodName)) hown (hw _ (List.mem_of_getElem? (i := 57) rfl)) (hw _ (List.mem_of_getElem? (i := 58) rfl)) (hw _ (List.mem_of_getElem? (i := 59) rfl)) (hw _ (List.mem_of_getElem? (i := 60) rfl)) (by decide) hEL OW247 (W := 0) (own_one0 l Z a0 hw [] al T246.heap n0 sz246 f1246 f3246) rfl  (pc := 215) (Ls := #[.val (.int p1), .val (.int p2), .val (.int p3), .val (.int (0 : Int32)), .val (.int (((p1.toUInt32 >>> ((3 : Int32) &&& 31).toUInt32).toInt32) &&& (7 : Int32))), .val (.int (((p1.toUInt32 >>> ((6 : Int32) &&& 31).toUInt32).toInt32) &&& (15 : Int32))), .val (.int fl), .val (.ref f5), .val (.ref ww), .val (.ref al), .val (.int (0 : Int32))]) (argsL := [(.ref al)]) (rest := []) (by rw [hml]; rfl) (lenOf own_pd13 rfl) rfl (hb hby at_215) (by decide) (by decide) (by decide) (by decide) ?_
        intro v319 T319 L319 X319 hQ319 OW319 hZ hown CH319
        obtain ⟨rfl, N319, Xe319⟩ := hQ319
        show OGo p e below (T319.setTop (mkF m 218 #[.val (.int p1), .val (.int p2), .val (.int p3), .val (.int (0 : Int32)), .val (.int (((p1.toUInt32 >>> ((3 : Int32) &&& 31).toUInt32).toInt32) &&& (7 : Int32))), .val (.int (((p1.toUInt32 >>> ((6 : Int32) &&& 31).toUInt32).toInt32) &&& (15 : Int32))), .val (.int fl), .val (.ref f5), .val (.ref ww), .val (.ref al), .val (.int (0 : Int32))] [(.int (0 : Int32))])) _
        have Nc319 := Fr.app Nc246 N319
        have sz319 : n0 ≤ T319.heap.size := Nat.le_trans sz246 Xe319.1
        refine OGo.step (fun _ kk => XS.iload X319.here hx rfl (hb hby at_218) rfl kk) ?_
        show OGo p e below (T319.setTop (mkF m 220 #[.val (.int p1), .val (.int p2), .val (.int p3), .val (.int (0 : Int32)), .val (.int (((p1.toUInt32 >>> ((3 : Int32) &&& 31).toUInt32).toInt32) &&& (7 : Int32))), .val (.int (((p1.toUInt32 >>> ((6 : Int32) &&& 31).toUInt32).toInt32) &&& (15 : Int32))), .val (.int fl), .val (.ref f5), .val (.ref ww), .val (.ref al), .val (.int (0 : Int32))] [(.int (0 : Int32)), (.int (0 : Int32))])) _
        refine OGo.step (fun _ kk => XS.icmpNo X319.here hx rfl (hb hby at_220) rfl (teq rfl).2 kk) ?_
        show OGo p e below (T319.setTop (mkF m 223 #[.val (.int p1), .val (.int p2), .val (.int p3), .val (.int (0 : Int32)), .val (.int (((p1.toUInt32 >>> ((3 : Int32) &&& 31).toUInt32).toInt32) &&& (7 : Int32))), .val (.int (((p1.toUInt32 >>> ((6 : Int32) &&& 31).toUInt32).toInt32) &&& (15 : Int32))), .val (.int fl), .val (.ref f5), .val (.ref ww), .val (.ref al), .val (.int (0 : Int32))] [])) _
        refine OGo.step (fun _ kk => XS.iconst X319.here hx rfl (hb hby at_223) kk) ?_
        refine OGo.step (fun _ kk => XS.goto X319.here hx rfl (pc0 := 224) (pc' := 228) rfl (hb hby at_224) (by decide) (by decide) kk) ?_
        show OGo p e below (T319.setTop (mkF m 228 #[.val (.int p1), .val (.int p2), .val (.int p3), .val (.int (0 : Int32)), .val (.int (((p1.toUInt32 >>> ((3 : Int32) &&& 31).toUInt32).toInt32) &&& (7 : Int32))), .val (.int (((p1.toUInt32 >>> ((6 : Int32) &&& 31).toUInt32).toInt32) &&& (15 : Int32))), .val (.int fl), .val (.ref f5), .val (.ref ww), .val (.ref al), .val (.int (0 : Int32))] [(.int (1 : Int32))])) _
        exact own_retNW X319 hx hlk hEL OW319 rfl hret (by simp) (hb hby at_228) ⟨by rw [own_nar1], Nc319⟩ (by decide) (by decide)
    · refine OGo.step (fun _ kk => XS.ifNo X236.here hx rfl (hb hby at_51) rfl ((if0 _ _).trans (feq hfl).1) kk) ?_
      show OGo p e below (T236.setTop (mkF m 54 #[.val (.int p1), .val (.int p2), .val (.int p3), .val (.int (p1 &&& (7 : Int32))), .val (.int (((p1.toUInt32 >>> ((3 : Int32) &&& 31).toUInt32).toInt32) &&& (7 : Int32))), .val (.int (((p1.toUInt32 >>> ((6 : Int32) &&& 31).toUInt32).toInt32) &&& (15 : Int32))), .val (.int fl), .val (.ref f5), .unset, .unset, .unset] [])) _
      refine own_ldcW X236 hx hown (hw _ (List.mem_of_getElem? (i := 4) rfl)) wS hEL OW236 rfl (by decide) (vs := [.int (45 : Int32), .int (45 : Int32), .int (97 : Int32), .int (115 : Int32)]) (z := (4 : Int32)) ⟨by decide, by decide⟩ (by decide) (by decide) (pc := 54) (Ls := #[.val (.int p1), .val (.int p2), .val (.int p3), .val (.int (p1 &&& (7 : Int32))), .val (.int (((p1.toUInt32 >>> ((3 : Int32) &&& 31).toUInt32).toInt32) &&& (7 : Int32))), .val (.int (((p1.toUInt32 >>> ((6 : Int32) &&& 31).toUInt32).toInt32) &&& (15 : Int32))), .val (.int fl), .val (.ref f5), .unset, .unset, .unset]) (st := []) (hb hby at_54) (n := 16) (by decide) (by decide) (by decide) (by decide) ?_
      intro ww wwb kb320 T320 X320 E320 OW320 hZ hown CH320 Es320 Fc320 Fv320 Av320 Ns320
      have sz320 : n0 ≤ T320.heap.size := Nat.le_trans sz236 E320.1
      show OGo p e below (T320.setTop (mkF m 56 #[.val (.int p1), .val (.int p2), .val (.int p3), .val (.int (p1 &&& (7 : Int32))), .val (.int (((p1.toUInt32 >>> ((3 : Int32) &&& 31).toUInt32).toInt32) &&& (7 : Int32))), .val (.int (((p1.toUInt32 >>> ((6 : Int32) &&& 31).toUInt32).toInt32) &&& (15 : Int32))), .val (.int fl), .val (.ref f5), .unset, .unset, .unset] [(.ref ww)])) _
      have cd320 : StrChars.Road.CodA ([45, 45, 97, 115] : List Int32) 0 (4 : Int32) [.int (45 : Int32), .int (45 : Int32), .int (97 : Int32), .int (115 : Int32)] := StrChars.Road.codOf (cs := [45, 45, 97, 115]) (n := 4) rfl (by decide)
      have O320 : OStr Z T320.heap ww ([45, 45, 97, 115] : List Int32) := ⟨wwb, kb320, 0, (4 : Int32), _, Es320, Fv320, Fc320, Av320, cd320, by decide, by decide⟩
      refine OGo.step (fun _ kk => XS.goto X320.here hx rfl (pc0 := 56) (pc' := 71) rfl (hb hby at_56) (by decide) (by decide) kk) ?_
      refine OGo.step (fun _ kk => XS.astore X320.here hx rfl (hb hby at_71) rfl rfl (l' := #[.val (.int p1), .val (.int p2), .val (.int p3), .val (.int (p1 &&& (7 : Int32))), .val (.int (((p1.toUInt32 >>> ((3 : Int32) &&& 31).toUInt32).toInt32) &&& (7 : Int32))), .val (.int (((p1.toUInt32 >>> ((6 : Int32) &&& 31).toUInt32).toInt32) &&& (15 : Int32))), .val (.int fl), .val (.ref f5), .val (.ref ww), .unset, .unset]) rfl kk) ?_
      show OGo p e below (T320.setTop (mkF m 73 #[.val (.int p1), .val (.int p2), .val (.int p3), .val (.int (p1 &&& (7 : Int32))), .val (.int (((p1.toUInt32 >>> ((3 : Int32) &&& 31).toUInt32).toInt32) &&& (7 : Int32))), .val (.int (((p1.toUInt32 >>> ((6 : Int32) &&& 31).toUInt32).toInt32) &&& (15 : Int32))), .val (.int fl), .val (.ref f5), .val (.ref ww), .unset, .unset] [])) _
      have xt321 := (own_ext_trans Xe236 E320)
      have fx322 := Ad.ext xt321
      obtain ⟨T323, h323, X323, e323, E323, A323, D323, U323, st323⟩ := newO X320 hx hZ hown (hw _ (List.mem_of_getElem? (i := 33) rfl)) (hw _ (List.mem_of_getElem? (i := 34) rfl)) (hw _ (List.mem_of_getElem? (i := 35) rfl)) rfl (g := (mkF m 73 #[.val (.int p1), .val (.int p2), .val (.int p3), .val (.int (p1 &&& (7 : Int32))), .val (.int (((p1.toUInt32 >>> ((3 : Int32) &&& 31).toUInt32).toInt32) &&& (7 : Int32))), .val (.int (((p1.toUInt32 >>> ((6 : Int32) &&& 31).toUInt32).toInt32) &&& (15 : Int32))), .val (.int fl), .val (.ref f5), .val (.ref ww), .unset, .unset] [])) rfl (hb hby at_73) (by decide) (by decide)
      obtain ⟨al, g323⟩ : ∃ z, z = T320.heap.size := ⟨_, rfl⟩
      rw [← g323] at A323 D323 U323 st323
      refine OGo.step st323 ?_
      show OGo p e below (T323.setTop (mkF m 76 #[.val (.int p1), .val (.int p2), .val (.int p3), .val (.int (p1 &&& (7 : Int32))), .val (.int (((p1.toUInt32 >>> ((3 : Int32) &&& 31).toUInt32).toInt32) &&& (7 : Int32))), .val (.int (((p1.toUInt32 >>> ((6 : Int32) &&& 31).toUInt32).toInt32) &&& (15 : Int32))), .val (.int fl), .val (.ref f5), .val (.ref ww), .unset, .unset] [(.ref al)])) _
      have gf_al : n0 ≤ al := Nat.le_trans sz320 (Nat.le_of_eq g323.symm)
      have sz323 : n0 ≤ h323.size := Nat.le_trans sz320 E323.1
      have OW324 := OW320.ext E323
      have F323_modCount : Fld Z h323 al "java/util/AbstractList" "modCount" "I" (.int (0 : Int32)) := D323 (Or.inl (hw _ (List.mem_of_getElem? (i := 53) rfl))) (ty := .int) (by decide)
      have F323_elementData : Fld Z h323 al "java/util/ArrayList" "elementData" "[Ljava/lang/Object;" .null := D323 (Or.inl (hw _ (List.mem_of_getElem? (i := 56) rfl))) (ty := (.array (.object "java/lang/Object"))) (by decide)
      have F323_size : Fld Z h323 al "java/util/ArrayList" "size" "I" (.int (0 : Int32)) := D323 (Or.inl (hw _ (List.mem_of_getElem? (i := 71) rfl))) (ty := .int) (by decide)
      have nda : dd ≠ al := Nat.ne_of_lt (Nat.lt_of_lt_of_le (fx322).lt (Nat.le_of_eq g323.symm))
      refine OGo.step (fun _ kk => XS.dup X323.here hx rfl (hb hby at_76) rfl rfl kk) ?_
      show OGo p e below (T323.setTop (mkF m 77 #[.val (.int p1), .val (.int p2), .val (.int p3), .val (.int (p1 &&& (7 : Int32))), .val (.int (((p1.toUInt32 >>> ((3 : Int32) &&& 31).toUInt32).toInt32) &&& (7 : Int32))), .val (.int (((p1.toUInt32 >>> ((6 : Int32) &&& 31).toUInt32).toInt32) &&& (15 : Int32))), .val (.int fl), .val (.ref f5), .val (.ref ww), .unset, .unset] [(.ref al), (.ref al)])) _
      have xt325 := (own_ext_trans xt321 E323)
      have fx326 := SD.ext xt325
      refine own_special X323 hx hZ (y := (⟨"java/util/ArrayList", "<init>", "()V"⟩ : MethodName)) rfl hown (hw _ (List.mem_of_getElem? (i := 36) rfl)) (hw _ (List.mem_of_getElem? (i := 37) rfl)) (hw _ (List.mem_of_getElem? (i := 38) rfl)) (hw _ (List.mem_of_getElem? (i := 35) rfl)) (by decide) (a := al) (W := 1) (own_alinit l Z a0 hw [] al dd h323 n0 sz323 fx326 A323 F323_elementData F323_size F323_modCount gf_al) e323  (pc := 77) (Ls := #[.val (.int p1), .val (.int p2), .val (.int p3), .val (.int (p1 &&& (7 : Int32))), .val (.int (((p1.toUInt32 >>> ((3 : Int32) &&& 31).toUInt32).toInt32) &&& (7 : Int32))), .val (.int (((p1.toUInt32 >>> ((6 : Int32) &&& 31).toUInt32).toInt32) &&& (15 : Int32))), .val (.int fl), .val (.ref f5), .val (.ref ww), .unset, .unset]) (argsL := []) (rest := [(.ref al)]) (by rw [hml]; rfl) (lenOf own_pd4 rfl) rfl (hb hby at_77) (by decide) (by decide) (by decide) (by decide) ?_
      intro v327 T327 L327 X327 hQ327
      obtain ⟨rfl, N327, K327, f1327, f2327, f3327, f4327⟩ := hQ327
      show OGo p e below (T327.setTop (mkF m 80 #[.val (.int p1), .val (.int p2), .val (.int p3), .val (.int (p1 &&& (7 : Int32))), .val (.int (((p1.toUInt32 >>> ((3 : Int32) &&& 31).toUInt32).toInt32) &&& (7 : Int32))), .val (.int (((p1.toUInt32 >>> ((6 : Int32) &&& 31).toUInt32).toInt32) &&& (15 : Int32))), .val (.int fl), .val (.ref f5), .val (.ref ww), .unset, .unset] [(.ref al)])) _
      have Nc327 := Fr.app Nc236 N327
      have sz327 : n0 ≤ T327.heap.size := Nat.le_trans sz323 K327.1
      have OW328 := OW324.keep K327 (sfS (Safe.exa (EL := consts_1) OW324.2.1.alike A323 (by decide) (by decide)) sf0)
      refine OGo.step (fun _ kk => XS.astore X327.here hx rfl (hb hby at_80) rfl rfl (l' := #[.val (.int p1), .val (.int p2), .val (.int p3), .val (.int (p1 &&& (7 : Int32))), .val (.int (((p1.toUInt32 >>> ((3 : Int32) &&& 31).toUInt32).toInt32) &&& (7 : Int32))), .val (.int (((p1.toUInt32 >>> ((6 : Int32) &&& 31).toUInt32).toInt32) &&& (15 : Int32))), .val (.int fl), .val (.ref f5), .val (.ref ww), .val (.ref al), .unset]) rfl kk) ?_
      show OGo p e below (T327.setTop (mkF m 82 #[.val (.int p1), .val (.int p2), .val (.int p3), .val (.int (p1 &&& (7 : Int32))), .val (.int (((p1.toUInt32 >>> ((3 : Int32) &&& 31).toUInt32).toInt32) &&& (7 : Int32))), .val (.int (((p1.toUInt32 >>> ((6 : Int32) &&& 31).toUInt32).toInt32) &&& (15 : Int32))), .val (.int fl), .val (.ref f5), .val (.ref ww), .val (.ref al), .unset] [])) _
      obtain ⟨nn, hnn⟩ : ∃ z, z = (p1 &&& (7 : Int32)) := ⟨_, rfl⟩
      have h8 := own_eight p1
      rw [← hnn] at h8
      rw [← hnn]
      show OGo p e below (T327.setTop (mkF m 82 #[.val (.int p1), .val (.int p2), .val (.int p3), .val (.int nn), .val (.int (((p1.toUInt32 >>> ((3 : Int32) &&& 31).toUInt32).toInt32) &&& (7 : Int32))), .val (.int (((p1.toUInt32 >>> ((6 : Int32) &&& 31).toUInt32).toInt32) &&& (15 : Int32))), .val (.int fl), .val (.ref f5), .val (.ref ww), .val (.ref al), .unset] [])) _
      clear hnn
      refine OGo.step (fun _ kk => XS.iloadN X327.here hx rfl (hb hby at_82) rfl kk) ?_
      show OGo p e below (T327.setTop (mkF m 83 #[.val (.int p1), .val (.int p2), .val (.int p3), .val (.int nn), .val (.int (((p1.toUInt32 >>> ((3 : Int32) &&& 31).toUInt32).toInt32) &&& (7 : Int32))), .val (.int (((p1.toUInt32 >>> ((6 : Int32) &&& 31).toUInt32).toInt32) &&& (15 : Int32))), .val (.int fl), .val (.ref f5), .val (.ref ww), .val (.ref al), .unset] [(.int nn)])) _
      by_cases hf0 : (0 : Int32) < nn
      · refine OGo.step (fun _ kk => XS.ifNo X327.here hx rfl (hb hby at_83) rfl ((if0 _ _).trans (tlt hf0).2.2.2) kk) ?_
        show OGo p e below (T327.setTop (mkF m 86 #[.val (.int p1), .val (.int p2), .val (.int p3), .val (.int nn), .val (.int (((p1.toUInt32 >>> ((3 : Int32) &&& 31).toUInt32).toInt32) &&& (7 : Int32))), .val (.int (((p1.toUInt32 >>> ((6 : Int32) &&& 31).toUInt32).toInt32) &&& (15 : Int32))), .val (.int fl), .val (.ref f5), .val (.ref ww), .val (.ref al), .unset] [])) _
        refine OGo.step (fun _ kk => XS.aload X327.here hx rfl (hb hby at_86) rfl rfl kk) ?_
        refine OGo.step (fun _ kk => XS.aload X327.here hx rfl (hb hby at_88) rfl rfl kk) ?_
        show OGo p e below (T327.setTop (mkF m 90 #[.val (.int p1), .val (.int p2), .val (.int p3), .val (.int nn), .val (.int (((p1.toUInt32 >>> ((3 : Int32) &&& 31).toUInt32).toInt32) &&& (7 : Int32))), .val (.int (((p1.toUInt32 >>> ((6 : Int32) &&& 31).toUInt32).toInt32) &&& (15 : Int32))), .val (.int fl), .val (.ref f5), .val (.ref ww), .val (.ref al), .unset] [(.ref ww), (.ref al)])) _
        have xt329 := (own_ext_keep E323 K327 (allS (Nat.le_of_eq g323.symm) all0))
        have fx330 := O320.ext xt329
        have nx0 : ww ≠ al := own_neSa (fx330).exa f1327
        have xt331 := (own_ext_keep xt325 K327 (allS (Nat.le_trans xt321.1 (Nat.le_of_eq g323.symm)) all0))
        have fx332 := SD.ext xt331
        have fx333 := Ad.ext xt331
        refine own_iface X327 hx hZ (y := (⟨"java/util/List", "add", "(Ljava/lang/Object;)Z"⟩ : MethodName)) (z := (⟨"java/util/ArrayList", "add", "(Ljava/lang/Object;)Z"⟩ : MethodName)) hown (hw _ (List.mem_of_getElem? (i := 72) rfl)) (hw _ (List.mem_of_getElem? (i := 73) rfl)) (mvT hZ (hw _ (List.mem_of_getElem? (i := 74) rfl))) (hw _ (List.mem_of_getElem? (i := 75) rfl)) (hw _ (List.mem_of_getElem? (i := 76) rfl)) (mvT hZ (hw _ (List.mem_of_getElem? (i := 77) rfl))) (mvT hZ (hw _ (List.mem_of_getElem? (i := 78) rfl))) (mvT hZ (hw _ (List.mem_of_getElem? (i := 68) rfl))) (by decide) (hw _ (List.mem_of_getElem? (i := 79) rfl)) (hw _ (List.mem_of_getElem? (i := 35) rfl)) (b := al) f1327 (W := 0) (own_add10 l Z a0 hw [] al ww dd cd (0 : Int32) T327.heap n0 sz327 fx332 fx333 Sd nda f1327 f2327 f3327 f4327 gf_al (fx330).exa nx0) rfl  (pc := 90) (Ls := #[.val (.int p1), .val (.int p2), .val (.int p3), .val (.int nn), .val (.int (((p1.toUInt32 >>> ((3 : Int32) &&& 31).toUInt32).toInt32) &&& (7 : Int32))), .val (.int (((p1.toUInt32 >>> ((6 : Int32) &&& 31).toUInt32).toInt32) &&& (15 : Int32))), .val (.int fl), .val (.ref f5), .val (.ref ww), .val (.ref al), .unset]) (argsL := [(.ref ww)]) (rest := []) (by rw [hml]; rfl) (lenOf own_pd11 rfl) rfl (hb hby at_90) (by decide) (by decide) (by decide) (by decide) ?_
        intro v334 T334 L334 X334 hQ334
        obtain ⟨e_, ke, rfl, N334, K334, ge_, f1334, f2334, f3334, f4334, f5_334, f6⟩ := hQ334
        show OGo p e below (T334.setTop (mkF m 95 #[.val (.int p1), .val (.int p2), .val (.int p3), .val (.int nn), .val (.int (((p1.toUInt32 >>> ((3 : Int32) &&& 31).toUInt32).toInt32) &&& (7 : Int32))), .val (.int (((p1.toUInt32 >>> ((6 : Int32) &&& 31).toUInt32).toInt32) &&& (15 : Int32))), .val (.int fl), .val (.ref f5), .val (.ref ww), .val (.ref al), .unset] [(.int (1 : Int32))])) _
        have nae : al ≠ e_ := Nat.ne_of_lt (Nat.lt_of_lt_of_le (f1327).lt ge_)
        have gfe : n0 ≤ e_ := Nat.le_trans sz327 ge_
        have Nc334 := Fr.app Nc327 N334
        have sz334 : n0 ≤ T334.heap.size := Nat.le_trans sz327 K334.1
        have OW335 := OW328.keep K334 (sfS (Safe.exa (EL := consts_1) OW328.2.1.alike f1327 (by decide) (by decide)) sf0)
        have sfe := Safe.arv (EL := consts_1) OW335.2.1.alike f5_334 (by decide)
        refine OGo.step (fun _ kk => XS.pop X334.here hx rfl (hb hby at_95) rfl rfl kk) ?_
        refine OGo.step (fun _ kk => XS.iloadN X334.here hx rfl (hb hby at_96) rfl kk) ?_
        refine OGo.step (fun _ kk => XS.iconst X334.here hx rfl (hb hby at_97) kk) ?_
        show OGo p e below (T334.setTop (mkF m 98 #[.val (.int p1), .val (.int p2), .val (.int p3), .val (.int nn), .val (.int (((p1.toUInt32 >>> ((3 : Int32) &&& 31).toUInt32).toInt32) &&& (7 : Int32))), .val (.int (((p1.toUInt32 >>> ((6 : Int32) &&& 31).toUInt32).toInt32) &&& (15 : Int32))), .val (.int fl), .val (.ref f5), .val (.ref ww), .val (.ref al), .unset] [(.int (1 : Int32)), (.int nn)])) _
        by_cases hf1 : (1 : Int32) < nn
        · refine OGo.step (fun _ kk => XS.icmpNo X334.here hx rfl (hb hby at_98) rfl (tlt hf1).2.2.2 kk) ?_
          show OGo p e below (T334.setTop (mkF m 101 #[.val (.int p1), .val (.int p2), .val (.int p3), .val (.int nn), .val (.int (((p1.toUInt32 >>> ((3 : Int32) &&& 31).toUInt32).toInt32) &&& (7 : Int32))), .val (.int (((p1.toUInt32 >>> ((6 : Int32) &&& 31).toUInt32).toInt32) &&& (15 : Int32))), .val (.int fl), .val (.ref f5), .val (.ref ww), .val (.ref al), .unset] [])) _
          refine OGo.step (fun _ kk => XS.aload X334.here hx rfl (hb hby at_101) rfl rfl kk) ?_
          refine OGo.step (fun _ kk => XS.aload X334.here hx rfl (hb hby at_103) rfl rfl kk) ?_
          show OGo p e below (T334.setTop (mkF m 105 #[.val (.int p1), .val (.int p2), .val (.int p3), .val (.int nn), .val (.int (((p1.toUInt32 >>> ((3 : Int32) &&& 31).toUInt32).toInt32) &&& (7 : Int32))), .val (.int (((p1.toUInt32 >>> ((6 : Int32) &&& 31).toUInt32).toInt32) &&& (15 : Int32))), .val (.int fl), .val (.ref f5), .val (.ref ww), .val (.ref al), .unset] [(.ref ww), (.ref al)])) _
          have xt336 := (own_ext_keep xt329 K334 (allS (Nat.le_of_eq g323.symm) all0))
          have fx337 := O320.ext xt336
          have nx1 : ww ≠ al := own_neSa (fx337).exa f1334
          refine own_iface X334 hx hZ (y := (⟨"java/util/List", "add", "(Ljava/lang/Object;)Z"⟩ : MethodName)) (z := (⟨"java/util/ArrayList", "add", "(Ljava/lang/Object;)Z"⟩ : MethodName)) hown (hw _ (List.mem_of_getElem? (i := 72) rfl)) (hw _ (List.mem_of_getElem? (i := 73) rfl)) (mvT hZ (hw _ (List.mem_of_getElem? (i := 74) rfl))) (hw _ (List.mem_of_getElem? (i := 75) rfl)) (hw _ (List.mem_of_getElem? (i := 76) rfl)) (mvT hZ (hw _ (List.mem_of_getElem? (i := 77) rfl))) (mvT hZ (hw _ (List.mem_of_getElem? (i := 78) rfl))) (mvT hZ (hw _ (List.mem_of_getElem? (i := 68) rfl))) (by decide) (hw _ (List.mem_of_getElem? (i := 79) rfl)) (hw _ (List.mem_of_getElem? (i := 35) rfl)) (b := al) f1334 (W := 0) (own_add1n l Z a0 hw [] al ww e_ ke ([] ++ [.ref ww]) 1 ((0 : Int32) + 1) T334.heap n0 sz334 f1334 f2334 f3334 f4334 gf_al f5_334 f6 rfl (by decide) (by decide) nae gfe (fx337).exa nx1) rfl  (pc := 105) (Ls := #[.val (.int p1), .val (.int p2), .val (.int p3), .val (.int nn), .val (.int (((p1.toUInt32 >>> ((3 : Int32) &&& 31).toUInt32).toInt32) &&& (7 : Int32))), .val (.int (((p1.toUInt32 >>> ((6 : Int32) &&& 31).toUInt32).toInt32) &&& (15 : Int32))), .val (.int fl), .val (.ref f5), .val (.ref ww), .val (.ref al), .unset]) (argsL := [(.ref ww)]) (rest := []) (by rw [hml]; rfl) (lenOf own_pd11 rfl) rfl (hb hby at_105) (by decide) (by decide) (by decide) (by decide) ?_
          intro v338 T338 L338 X338 hQ338
          obtain ⟨rfl, N338, K338, f1338, f2338, f3338, f4338, f5_338⟩ := hQ338
          show OGo p e below (T338.setTop (mkF m 110 #[.val (.int p1), .val (.int p2), .val (.int p3), .val (.int nn), .val (.int (((p1.toUInt32 >>> ((3 : Int32) &&& 31).toUInt32).toInt32) &&& (7 : Int32))), .val (.int (((p1.toUInt32 >>> ((6 : Int32) &&& 31).toUInt32).toInt32) &&& (15 : Int32))), .val (.int fl), .val (.ref f5), .val (.ref ww), .val (.ref al), .unset] [(.int (1 : Int32))])) _
          have Nc338 := Fr.app Nc334 N338
          have sz338 : n0 ≤ T338.heap.size := Nat.le_trans sz334 K338.1
          have sf339 := Safe.keep K338 (sfS (Safe.exa (EL := consts_1) OW335.2.1.alike f1334 (by decide) (by decide)) (sfS sfe sf0)) OW335.chv sfe
          have OW340 := OW335.keep K338 (sfS (Safe.exa (EL := consts_1) OW335.2.1.alike f1334 (by decide) (by decide)) (sfS sfe sf0))
          refine OGo.step (fun _ kk => XS.pop X338.here hx rfl (hb hby at_110) rfl rfl kk) ?_
          refine OGo.step (fun _ kk => XS.iloadN X338.here hx rfl (hb hby at_111) rfl kk) ?_
          refine OGo.step (fun _ kk => XS.iconst X338.here hx rfl (hb hby at_112) kk) ?_
          show OGo p e below (T338.setTop (mkF m 113 #[.val (.int p1), .val (.int p2), .val (.int p3), .val (.int nn), .val (.int (((p1.toUInt32 >>> ((3 : Int32) &&& 31).toUInt32).toInt32) &&& (7 : Int32))), .val (.int (((p1.toUInt32 >>> ((6 : Int32) &&& 31).toUInt32).toInt32) &&& (15 : Int32))), .val (.int fl), .val (.ref f5), .val (.ref ww), .val (.ref al), .unset] [(.int (2 : Int32)), (.int nn)])) _
          by_cases hf2 : (2 : Int32) < nn
          · refine OGo.step (fun _ kk => XS.icmpNo X338.here hx rfl (hb hby at_113) rfl (tlt hf2).2.2.2 kk) ?_
            show OGo p e below (T338.setTop (mkF m 116 #[.val (.int p1), .val (.int p2), .val (.int p3), .val (.int nn), .val (.int (((p1.toUInt32 >>> ((3 : Int32) &&& 31).toUInt32).toInt32) &&& (7 : Int32))), .val (.int (((p1.toUInt32 >>> ((6 : Int32) &&& 31).toUInt32).toInt32) &&& (15 : Int32))), .val (.int fl), .val (.ref f5), .val (.ref ww), .val (.ref al), .unset] [])) _
            refine OGo.step (fun _ kk => XS.aload X338.here hx rfl (hb hby at_116) rfl rfl kk) ?_
            refine OGo.step (fun _ kk => XS.aload X338.here hx rfl (hb hby at_118) rfl rfl kk) ?_
            show OGo p e below (T338.setTop (mkF m 120 #[.val (.int p1), .val (.int p2), .val (.int p3), .val (.int nn), .val (.int (((p1.toUInt32 >>> ((3 : Int32) &&& 31).toUInt32).toInt32) &&& (7 : Int32))), .val (.int (((p1.toUInt32 >>> ((6 : Int32) &&& 31).toUInt32).toInt32) &&& (15 : Int32))), .val (.int fl), .val (.ref f5), .val (.ref ww), .val (.ref al), .unset] [(.ref ww), (.ref al)])) _
            have xt341 := (own_ext_keep xt336 K338 (allS (Nat.le_of_eq g323.symm) (allS (Nat.le_trans xt329.1 ge_) all0)))
            have fx342 := O320.ext xt341
            have nx2 : ww ≠ al := own_neSa (fx342).exa f1338
            refine own_iface X338 hx hZ (y := (⟨"java/util/List", "add", "(Ljava/lang/Object;)Z"⟩ : MethodName)) (z := (⟨"java/util/ArrayList", "add", "(Ljava/lang/Object;)Z"⟩ : MethodName)) hown (hw _ (List.mem_of_getElem? (i := 72) rfl)) (hw _ (List.mem_of_getElem? (i := 73) rfl)) (mvT hZ (hw _ (List.mem_of_getElem? (i := 74) rfl))) (hw _ (List.mem_of_getElem? (i := 75) rfl)) (hw _ (List.mem_of_getElem? (i := 76) rfl)) (mvT hZ (hw _ (List.mem_of_getElem? (i := 77) rfl))) (mvT hZ (hw _ (List.mem_of_getElem? (i := 78) rfl))) (mvT hZ (hw _ (List.mem_of_getElem? (i := 68) rfl))) (by decide) (hw _ (List.mem_of_getElem? (i := 79) rfl)) (hw _ (List.mem_of_getElem? (i := 35) rfl)) (b := al) f1338 (W := 0) (own_add1n l Z a0 hw [] al ww e_ ke (([] ++ [.ref ww]) ++ [.ref ww]) 2 (((0 : Int32) + 1) + 1) T338.heap n0 sz338 f1338 f2338 f3338 f4338 gf_al f5_338 f6 rfl (by decide) (by decide) nae gfe (fx342).exa nx2) rfl  (pc := 120) (Ls := #[.val (.int p1), .val (.int p2), .val (.int p3), .val (.int nn), .val (.int (((p1.toUInt32 >>> ((3 : Int32) &&& 31).toUInt32).toInt32) &&& (7 : Int32))), .val (.int (((p1.toUInt32 >>> ((6 : Int32) &&& 31).toUInt32).toInt32) &&& (15 : Int32))), .val (.int fl), .val (.ref f5), .val (.ref ww), .val (.ref al), .unset]) (argsL := [(.ref ww)]) (rest := []) (by rw [hml]; rfl) (lenOf own_pd11 rfl) rfl (hb hby at_120) (by decide) (by decide) (by decide) (by decide) ?_
            intro v343 T343 L343 X343 hQ343
            obtain ⟨rfl, N343, K343, f1343, f2343, f3343, f4343, f5_343⟩ := hQ343
            show OGo p e below (T343.setTop (mkF m 125 #[.val (.int p1), .val (.int p2), .val (.int p3), .val (.int nn), .val (.int (((p1.toUInt32 >>> ((3 : Int32) &&& 31).toUInt32).toInt32) &&& (7 : Int32))), .val (.int (((p1.toUInt32 >>> ((6 : Int32) &&& 31).toUInt32).toInt32) &&& (15 : Int32))), .val (.int fl), .val (.ref f5), .val (.ref ww), .val (.ref al), .unset] [(.int (1 : Int32))])) _
            have Nc343 := Fr.app Nc338 N343
            have sz343 : n0 ≤ T343.heap.size := Nat.le_trans sz338 K343.1
            have sf344 := Safe.keep K343 (sfS (Safe.exa (EL := consts_1) OW340.2.1.alike f1338 (by decide) (by decide)) (sfS sf339 sf0)) OW340.chv sf339
            have OW345 := OW340.keep K343 (sfS (Safe.exa (EL := consts_1) OW340.2.1.alike f1338 (by decide) (by decide)) (sfS sf339 sf0))
            refine OGo.step (fun _ kk => XS.pop X343.here hx rfl (hb hby at_125) rfl rfl kk) ?_
            refine OGo.step (fun _ kk => XS.iloadN X343.here hx rfl (hb hby at_126) rfl kk) ?_
            refine OGo.step (fun _ kk => XS.iconst X343.here hx rfl (hb hby at_127) kk) ?_
            show OGo p e below (T343.setTop (mkF m 128 #[.val (.int p1), .val (.int p2), .val (.int p3), .val (.int nn), .val (.int (((p1.toUInt32 >>> ((3 : Int32) &&& 31).toUInt32).toInt32) &&& (7 : Int32))), .val (.int (((p1.toUInt32 >>> ((6 : Int32) &&& 31).toUInt32).toInt32) &&& (15 : Int32))), .val (.int fl), .val (.ref f5), .val (.ref ww), .val (.ref al), .unset] [(.int (3 : Int32)), (.int nn)])) _
            by_cases hf3 : (3 : Int32) < nn
            · refine OGo.step (fun _ kk => XS.icmpNo X343.here hx rfl (hb hby at_128) rfl (tlt hf3).2.2.2 kk) ?_
              show OGo p e below (T343.setTop (mkF m 131 #[.val (.int p1), .val (.int p2), .val (.int p3), .val (.int nn), .val (.int (((p1.toUInt32 >>> ((3 : Int32) &&& 31).toUInt32).toInt32) &&& (7 : Int32))), .val (.int (((p1.toUInt32 >>> ((6 : Int32) &&& 31).toUInt32).toInt32) &&& (15 : Int32))), .val (.int fl), .val (.ref f5), .val (.ref ww), .val (.ref al), .unset] [])) _
              refine OGo.step (fun _ kk => XS.aload X343.here hx rfl (hb hby at_131) rfl rfl kk) ?_
              refine OGo.step (fun _ kk => XS.aload X343.here hx rfl (hb hby at_133) rfl rfl kk) ?_
              show OGo p e below (T343.setTop (mkF m 135 #[.val (.int p1), .val (.int p2), .val (.int p3), .val (.int nn), .val (.int (((p1.toUInt32 >>> ((3 : Int32) &&& 31).toUInt32).toInt32) &&& (7 : Int32))), .val (.int (((p1.toUInt32 >>> ((6 : Int32) &&& 31).toUInt32).toInt32) &&& (15 : Int32))), .val (.int fl), .val (.ref f5), .val (.ref ww), .val (.ref al), .unset] [(.ref ww), (.ref al)])) _
              have xt346 := (own_ext_keep xt341 K343 (allS (Nat.le_of_eq g323.symm) (allS (Nat.le_trans xt329.1 ge_) all0)))
              have fx347 := O320.ext xt346
              have nx3 : ww ≠ al := own_neSa (fx347).exa f1343
              refine own_iface X343 hx hZ (y := (⟨"java/util/List", "add", "(Ljava/lang/Object;)Z"⟩ : MethodName)) (z := (⟨"java/util/ArrayList", "add", "(Ljava/lang/Object;)Z"⟩ : MethodName)) hown (hw _ (List.mem_of_getElem? (i := 72) rfl)) (hw _ (List.mem_of_getElem? (i := 73) rfl)) (mvT hZ (hw _ (List.mem_of_getElem? (i := 74) rfl))) (hw _ (List.mem_of_getElem? (i := 75) rfl)) (hw _ (List.mem_of_getElem? (i := 76) rfl)) (mvT hZ (hw _ (List.mem_of_getElem? (i := 77) rfl))) (mvT hZ (hw _ (List.mem_of_getElem? (i := 78) rfl))) (mvT hZ (hw _ (List.mem_of_getElem? (i := 68) rfl))) (by decide) (hw _ (List.mem_of_getElem? (i := 79) rfl)) (hw _ (List.mem_of_getElem? (i := 35) rfl)) (b := al) f1343 (W := 0) (own_add1n l Z a0 hw [] al ww e_ ke ((([] ++ [.ref ww]) ++ [.ref ww]) ++ [.ref ww]) 3 ((((0 : Int32) + 1) + 1) + 1) T343.heap n0 sz343 f1343 f2343 f3343 f4343 gf_al f5_343 f6 rfl (by decide) (by decide) nae gfe (fx347).exa nx3) rfl  (pc := 135) (Ls := #[.val (.int p1), .val (.int p2), .val (.int p3), .val (.int nn), .val (.int (((p1.toUInt32 >>> ((3 : Int32) &&& 31).toUInt32).toInt32) &&& (7 : Int32))), .val (.int (((p1.toUInt32 >>> ((6 : Int32) &&& 31).toUInt32).toInt32) &&& (15 : Int32))), .val (.int fl), .val (.ref f5), .val (.ref ww), .val (.ref al), .unset]) (argsL := [(.ref ww)]) (rest := []) (by rw [hml]; rfl) (lenOf own_pd11 rfl) rfl (hb hby at_135) (by decide) (by decide) (by decide) (by decide) ?_
              intro v348 T348 L348 X348 hQ348
              obtain ⟨rfl, N348, K348, f1348, f2348, f3348, f4348, f5_348⟩ := hQ348
              show OGo p e below (T348.setTop (mkF m 140 #[.val (.int p1), .val (.int p2), .val (.int p3), .val (.int nn), .val (.int (((p1.toUInt32 >>> ((3 : Int32) &&& 31).toUInt32).toInt32) &&& (7 : Int32))), .val (.int (((p1.toUInt32 >>> ((6 : Int32) &&& 31).toUInt32).toInt32) &&& (15 : Int32))), .val (.int fl), .val (.ref f5), .val (.ref ww), .val (.ref al), .unset] [(.int (1 : Int32))])) _
              have Nc348 := Fr.app Nc343 N348
              have sz348 : n0 ≤ T348.heap.size := Nat.le_trans sz343 K348.1
              have sf349 := Safe.keep K348 (sfS (Safe.exa (EL := consts_1) OW345.2.1.alike f1343 (by decide) (by decide)) (sfS sf344 sf0)) OW345.chv sf344
              have OW350 := OW345.keep K348 (sfS (Safe.exa (EL := consts_1) OW345.2.1.alike f1343 (by decide) (by decide)) (sfS sf344 sf0))
              refine OGo.step (fun _ kk => XS.pop X348.here hx rfl (hb hby at_140) rfl rfl kk) ?_
              refine OGo.step (fun _ kk => XS.iloadN X348.here hx rfl (hb hby at_141) rfl kk) ?_
              refine OGo.step (fun _ kk => XS.iconst X348.here hx rfl (hb hby at_142) kk) ?_
              show OGo p e below (T348.setTop (mkF m 143 #[.val (.int p1), .val (.int p2), .val (.int p3), .val (.int nn), .val (.int (((p1.toUInt32 >>> ((3 : Int32) &&& 31).toUInt32).toInt32) &&& (7 : Int32))), .val (.int (((p1.toUInt32 >>> ((6 : Int32) &&& 31).toUInt32).toInt32) &&& (15 : Int32))), .val (.int fl), .val (.ref f5), .val (.ref ww), .val (.ref al), .unset] [(.int (4 : Int32)), (.int nn)])) _
              by_cases hf4 : (4 : Int32) < nn
              · refine OGo.step (fun _ kk => XS.icmpNo X348.here hx rfl (hb hby at_143) rfl (tlt hf4).2.2.2 kk) ?_
                show OGo p e below (T348.setTop (mkF m 146 #[.val (.int p1), .val (.int p2), .val (.int p3), .val (.int nn), .val (.int (((p1.toUInt32 >>> ((3 : Int32) &&& 31).toUInt32).toInt32) &&& (7 : Int32))), .val (.int (((p1.toUInt32 >>> ((6 : Int32) &&& 31).toUInt32).toInt32) &&& (15 : Int32))), .val (.int fl), .val (.ref f5), .val (.ref ww), .val (.ref al), .unset] [])) _
                refine OGo.step (fun _ kk => XS.aload X348.here hx rfl (hb hby at_146) rfl rfl kk) ?_
                refine OGo.step (fun _ kk => XS.aload X348.here hx rfl (hb hby at_148) rfl rfl kk) ?_
                show OGo p e below (T348.setTop (mkF m 150 #[.val (.int p1), .val (.int p2), .val (.int p3), .val (.int nn), .val (.int (((p1.toUInt32 >>> ((3 : Int32) &&& 31).toUInt32).toInt32) &&& (7 : Int32))), .val (.int (((p1.toUInt32 >>> ((6 : Int32) &&& 31).toUInt32).toInt32) &&& (15 : Int32))), .val (.int fl), .val (.ref f5), .val (.ref ww), .val (.ref al), .unset] [(.ref f5), (.ref al)])) _
                have xt351 := (own_ext_trans E320 E323)
                have xt352 := (own_ext_keep xt351 K327 (allS (Nat.le_trans E320.1 (Nat.le_of_eq g323.symm)) all0))
                have xt353 := (own_ext_keep xt352 K334 (allS (Nat.le_trans E320.1 (Nat.le_of_eq g323.symm)) all0))
                have xt354 := (own_ext_keep xt353 K338 (allS (Nat.le_trans E320.1 (Nat.le_of_eq g323.symm)) (allS (Nat.le_trans xt352.1 ge_) all0)))
                have xt355 := (own_ext_keep xt354 K343 (allS (Nat.le_trans E320.1 (Nat.le_of_eq g323.symm)) (allS (Nat.le_trans xt352.1 ge_) all0)))
                have xt356 := (own_ext_keep xt355 K348 (allS (Nat.le_trans E320.1 (Nat.le_of_eq g323.symm)) (allS (Nat.le_trans xt352.1 ge_) all0)))
                have fx357 := Of236.ext xt356
                have nx4 : f5 ≠ al := own_neSa (fx357).exa f1348
                refine own_iface X348 hx hZ (y := (⟨"java/util/List", "add", "(Ljava/lang/Object;)Z"⟩ : MethodName)) (z := (⟨"java/util/ArrayList", "add", "(Ljava/lang/Object;)Z"⟩ : MethodName)) hown (hw _ (List.mem_of_getElem? (i := 72) rfl)) (hw _ (List.mem_of_getElem? (i := 73) rfl)) (mvT hZ (hw _ (List.mem_of_getElem? (i := 74) rfl))) (hw _ (List.mem_of_getElem? (i := 75) rfl)) (hw _ (List.mem_of_getElem? (i := 76) rfl)) (mvT hZ (hw _ (List.mem_of_getElem? (i := 77) rfl))) (mvT hZ (hw _ (List.mem_of_getElem? (i := 78) rfl))) (mvT hZ (hw _ (List.mem_of_getElem? (i := 68) rfl))) (by decide) (hw _ (List.mem_of_getElem? (i := 79) rfl)) (hw _ (List.mem_of_getElem? (i := 35) rfl)) (b := al) f1348 (W := 0) (own_add1n l Z a0 hw [] al f5 e_ ke (((([] ++ [.ref ww]) ++ [.ref ww]) ++ [.ref ww]) ++ [.ref ww]) 4 (((((0 : Int32) + 1) + 1) + 1) + 1) T348.heap n0 sz348 f1348 f2348 f3348 f4348 gf_al f5_348 f6 rfl (by decide) (by decide) nae gfe (fx357).exa nx4) rfl  (pc := 150) (Ls := #[.val (.int p1), .val (.int p2), .val (.int p3), .val (.int nn), .val (.int (((p1.toUInt32 >>> ((3 : Int32) &&& 31).toUInt32).toInt32) &&& (7 : Int32))), .val (.int (((p1.toUInt32 >>> ((6 : Int32) &&& 31).toUInt32).toInt32) &&& (15 : Int32))), .val (.int fl), .val (.ref f5), .val (.ref ww), .val (.ref al), .unset]) (argsL := [(.ref f5)]) (rest := []) (by rw [hml]; rfl) (lenOf own_pd11 rfl) rfl (hb hby at_150) (by decide) (by decide) (by decide) (by decide) ?_
                intro v358 T358 L358 X358 hQ358
                obtain ⟨rfl, N358, K358, f1358, f2358, f3358, f4358, f5_358⟩ := hQ358
                show OGo p e below (T358.setTop (mkF m 155 #[.val (.int p1), .val (.int p2), .val (.int p3), .val (.int nn), .val (.int (((p1.toUInt32 >>> ((3 : Int32) &&& 31).toUInt32).toInt32) &&& (7 : Int32))), .val (.int (((p1.toUInt32 >>> ((6 : Int32) &&& 31).toUInt32).toInt32) &&& (15 : Int32))), .val (.int fl), .val (.ref f5), .val (.ref ww), .val (.ref al), .unset] [(.int (1 : Int32))])) _
                have Nc358 := Fr.app Nc348 N358
                have sz358 : n0 ≤ T358.heap.size := Nat.le_trans sz348 K358.1
                have sf359 := Safe.keep K358 (sfS (Safe.exa (EL := consts_1) OW350.2.1.alike f1348 (by decide) (by decide)) (sfS sf349 sf0)) OW350.chv sf349
                have OW360 := OW350.keep K358 (sfS (Safe.exa (EL := consts_1) OW350.2.1.alike f1348 (by decide) (by decide)) (sfS sf349 sf0))
                refine OGo.step (fun _ kk => XS.pop X358.here hx rfl (hb hby at_155) rfl rfl kk) ?_
                refine OGo.step (fun _ kk => XS.iloadN X358.here hx rfl (hb hby at_156) rfl kk) ?_
                refine OGo.step (fun _ kk => XS.iconst X358.here hx rfl (hb hby at_157) kk) ?_
                show OGo p e below (T358.setTop (mkF m 158 #[.val (.int p1), .val (.int p2), .val (.int p3), .val (.int nn), .val (.int (((p1.toUInt32 >>> ((3 : Int32) &&& 31).toUInt32).toInt32) &&& (7 : Int32))), .val (.int (((p1.toUInt32 >>> ((6 : Int32) &&& 31).toUInt32).toInt32) &&& (15 : Int32))), .val (.int fl), .val (.ref f5), .val (.ref ww), .val (.ref al), .unset] [(.int (5 : Int32)), (.int nn)])) _
                by_cases hf5 : (5 : Int32) < nn
                · refine OGo.step (fun _ kk => XS.icmpNo X358.here hx rfl (hb hby at_158) rfl (tlt hf5).2.2.2 kk) ?_
                  show OGo p e below (T358.setTop (mkF m 161 #[.val (.int p1), .val (.int p2), .val (.int p3), .val (.int nn), .val (.int (((p1.toUInt32 >>> ((3 : Int32) &&& 31).toUInt32).toInt32) &&& (7 : Int32))), .val (.int (((p1.toUInt32 >>> ((6 : Int32) &&& 31).toUInt32).toInt32) &&& (15 : Int32))), .val (.int fl), .val (.ref f5), .val (.ref ww), .val (.ref al), .unset] [])) _
                  refine OGo.step (fun _ kk => XS.aload X358.here hx rfl (hb hby at_161) rfl rfl kk) ?_
                  refine OGo.step (fun _ kk => XS.aload X358.here hx rfl (hb hby at_163) rfl rfl kk) ?_
                  show OGo p e below (T358.setTop (mkF m 165 #[.val (.int p1), .val (.int p2), .val (.int p3), .val (.int nn), .val (.int (((p1.toUInt32 >>> ((3 : Int32) &&& 31).toUInt32).toInt32) &&& (7 : Int32))), .val (.int (((p1.toUInt32 >>> ((6 : Int32) &&& 31).toUInt32).toInt32) &&& (15 : Int32))), .val (.int fl), .val (.ref f5), .val (.ref ww), .val (.ref al), .unset] [(.ref ww), (.ref al)])) _
                  have xt361 := (own_ext_keep xt346 K348 (allS (Nat.le_of_eq g323.symm) (allS (Nat.le_trans xt329.1 ge_) all0)))
                  have xt362 := (own_ext_keep xt361 K358 (allS (Nat.le_of_eq g323.symm) (allS (Nat.le_trans xt329.1 ge_) all0)))
                  have fx363 := O320.ext xt362
                  have nx5 : ww ≠ al := own_neSa (fx363).exa f1358
                  refine own_iface X358 hx hZ (y := (⟨"java/util/List", "add", "(Ljava/lang/Object;)Z"⟩ : MethodName)) (z := (⟨"java/util/ArrayList", "add", "(Ljava/lang/Object;)Z"⟩ : MethodName)) hown (hw _ (List.mem_of_getElem? (i := 72) rfl)) (hw _ (List.mem_of_getElem? (i := 73) rfl)) (mvT hZ (hw _ (List.mem_of_getElem? (i := 74) rfl))) (hw _ (List.mem_of_getElem? (i := 75) rfl)) (hw _ (List.mem_of_getElem? (i := 76) rfl)) (mvT hZ (hw _ (List.mem_of_getElem? (i := 77) rfl))) (mvT hZ (hw _ (List.mem_of_getElem? (i := 78) rfl))) (mvT hZ (hw _ (List.mem_of_getElem? (i := 68) rfl))) (by decide) (hw _ (List.mem_of_getElem? (i := 79) rfl)) (hw _ (List.mem_of_getElem? (i := 35) rfl)) (b := al) f1358 (W := 0) (own_add1n l Z a0 hw [] al ww e_ ke ((((([] ++ [.ref ww]) ++ [.ref ww]) ++ [.ref ww]) ++ [.ref ww]) ++ [.ref f5]) 5 ((((((0 : Int32) + 1) + 1) + 1) + 1) + 1) T358.heap n0 sz358 f1358 f2358 f3358 f4358 gf_al f5_358 f6 rfl (by decide) (by decide) nae gfe (fx363).exa nx5) rfl  (pc := 165) (Ls := #[.val (.int p1), .val (.int p2), .val (.int p3), .val (.int nn), .val (.int (((p1.toUInt32 >>> ((3 : Int32) &&& 31).toUInt32).toInt32) &&& (7 : Int32))), .val (.int (((p1.toUInt32 >>> ((6 : Int32) &&& 31).toUInt32).toInt32) &&& (15 : Int32))), .val (.int fl), .val (.ref f5), .val (.ref ww), .val (.ref al), .unset]) (argsL := [(.ref ww)]) (rest := []) (by rw [hml]; rfl) (lenOf own_pd11 rfl) rfl (hb hby at_165) (by decide) (by decide) (by decide) (by decide) ?_
                  intro v364 T364 L364 X364 hQ364
                  obtain ⟨rfl, N364, K364, f1364, f2364, f3364, f4364, f5_364⟩ := hQ364
                  show OGo p e below (T364.setTop (mkF m 170 #[.val (.int p1), .val (.int p2), .val (.int p3), .val (.int nn), .val (.int (((p1.toUInt32 >>> ((3 : Int32) &&& 31).toUInt32).toInt32) &&& (7 : Int32))), .val (.int (((p1.toUInt32 >>> ((6 : Int32) &&& 31).toUInt32).toInt32) &&& (15 : Int32))), .val (.int fl), .val (.ref f5), .val (.ref ww), .val (.ref al), .unset] [(.int (1 : Int32))])) _
                  have Nc364 := Fr.app Nc358 N364
                  have sz364 : n0 ≤ T364.heap.size := Nat.le_trans sz358 K364.1
                  have sf365 := Safe.keep K364 (sfS (Safe.exa (EL := consts_1) OW360.2.1.alike f1358 (by decide) (by decide)) (sfS sf359 sf0)) OW360.chv sf359
                  have OW366 := OW360.keep K364 (sfS (Safe.exa (EL := consts_1) OW360.2.1.alike f1358 (by decide) (by decide)) (sfS sf359 sf0))
                  refine OGo.step (fun _ kk => XS.pop X364.here hx rfl (hb hby at_170) rfl rfl kk) ?_
                  refine OGo.step (fun _ kk => XS.iloadN X364.here hx rfl (hb hby at_171) rfl kk) ?_
                  refine OGo.step (fun _ kk => XS.bipush X364.here hx rfl (hb hby at_172) kk) ?_
                  show OGo p e below (T364.setTop (mkF m 174 #[.val (.int p1), .val (.int p2), .val (.int p3), .val (.int nn), .val (.int (((p1.toUInt32 >>> ((3 : Int32) &&& 31).toUInt32).toInt32) &&& (7 : Int32))), .val (.int (((p1.toUInt32 >>> ((6 : Int32) &&& 31).toUInt32).toInt32) &&& (15 : Int32))), .val (.int fl), .val (.ref f5), .val (.ref ww), .val (.ref al), .unset] [(.int (6 : Int32)), (.int nn)])) _
                  by_cases hf6 : (6 : Int32) < nn
                  · refine OGo.step (fun _ kk => XS.icmpNo X364.here hx rfl (hb hby at_174) rfl (tlt hf6).2.2.2 kk) ?_
                    show OGo p e below (T364.setTop (mkF m 177 #[.val (.int p1), .val (.int p2), .val (.int p3), .val (.int nn), .val (.int (((p1.toUInt32 >>> ((3 : Int32) &&& 31).toUInt32).toInt32) &&& (7 : Int32))), .val (.int (((p1.toUInt32 >>> ((6 : Int32) &&& 31).toUInt32).toInt32) &&& (15 : Int32))), .val (.int fl), .val (.ref f5), .val (.ref ww), .val (.ref al), .unset] [])) _
                    refine OGo.step (fun _ kk => XS.aload X364.here hx rfl (hb hby at_177) rfl rfl kk) ?_
                    refine OGo.step (fun _ kk => XS.aload X364.here hx rfl (hb hby at_179) rfl rfl kk) ?_
                    show OGo p e below (T364.setTop (mkF m 181 #[.val (.int p1), .val (.int p2), .val (.int p3), .val (.int nn), .val (.int (((p1.toUInt32 >>> ((3 : Int32) &&& 31).toUInt32).toInt32) &&& (7 : Int32))), .val (.int (((p1.toUInt32 >>> ((6 : Int32) &&& 31).toUInt32).toInt32) &&& (15 : Int32))), .val (.int fl), .val (.ref f5), .val (.ref ww), .val (.ref al), .unset] [(.ref ww), (.ref al)])) _
                    have xt367 := (own_ext_keep xt362 K364 (allS (Nat.le_of_eq g323.symm) (allS (Nat.le_trans xt329.1 ge_) all0)))
                    have fx368 := O320.ext xt367
                    have nx6 : ww ≠ al := own_neSa (fx368).exa f1364
                    refine own_iface X364 hx hZ (y := (⟨"java/util/List", "add", "(Ljava/lang/Object;)Z"⟩ : MethodName)) (z := (⟨"java/util/ArrayList", "add", "(Ljava/lang/Object;)Z"⟩ : MethodName)) hown (hw _ (List.mem_of_getElem? (i := 72) rfl)) (hw _ (List.mem_of_getElem? (i := 73) rfl)) (mvT hZ (hw _ (List.mem_of_getElem? (i := 74) rfl))) (hw _ (List.mem_of_getElem? (i := 75) rfl)) (hw _ (List.mem_of_getElem? (i := 76) rfl)) (mvT hZ (hw _ (List.mem_of_getElem? (i := 77) rfl))) (mvT hZ (hw _ (List.mem_of_getElem? (i := 78) rfl))) (mvT hZ (hw _ (List.mem_of_getElem? (i := 68) rfl))) (by decide) (hw _ (List.mem_of_getElem? (i := 79) rfl)) (hw _ (List.mem_of_getElem? (i := 35) rfl)) (b := al) f1364 (W := 0) (own_add1n l Z a0 hw [] al ww e_ ke (((((([] ++ [.ref ww]) ++ [.ref ww]) ++ [.ref ww]) ++ [.ref ww]) ++ [.ref f5]) ++ [.ref ww]) 6 (((((((0 : Int32) + 1) + 1) + 1) + 1) + 1) + 1) T364.heap n0 sz364 f1364 f2364 f3364 f4364 gf_al f5_364 f6 rfl (by decide) (by decide) nae gfe (fx368).exa nx6) rfl  (pc := 181) (Ls := #[.val (.int p1), .val (.int p2), .val (.int p3), .val (.int nn), .val (.int (((p1.toUInt32 >>> ((3 : Int32) &&& 31).toUInt32).toInt32) &&& (7 : Int32))), .val (.int (((p1.toUInt32 >>> ((6 : Int32) &&& 31).toUInt32).toInt32) &&& (15 : Int32))), .val (.int fl), .val (.ref f5), .val (.ref ww), .val (.ref al), .unset]) (argsL := [(.ref ww)]) (rest := []) (by rw [hml]; rfl) (lenOf own_pd11 rfl) rfl (hb hby at_181) (by decide) (by decide) (by decide) (by decide) ?_
                    intro v369 T369 L369 X369 hQ369
                    obtain ⟨rfl, N369, K369, f1369, f2369, f3369, f4369, f5_369⟩ := hQ369
                    show OGo p e below (T369.setTop (mkF m 186 #[.val (.int p1), .val (.int p2), .val (.int p3), .val (.int nn), .val (.int (((p1.toUInt32 >>> ((3 : Int32) &&& 31).toUInt32).toInt32) &&& (7 : Int32))), .val (.int (((p1.toUInt32 >>> ((6 : Int32) &&& 31).toUInt32).toInt32) &&& (15 : Int32))), .val (.int fl), .val (.ref f5), .val (.ref ww), .val (.ref al), .unset] [(.int (1 : Int32))])) _
                    have Nc369 := Fr.app Nc364 N369
                    have sz369 : n0 ≤ T369.heap.size := Nat.le_trans sz364 K369.1
                    have sf370 := Safe.keep K369 (sfS (Safe.exa (EL := consts_1) OW366.2.1.alike f1364 (by decide) (by decide)) (sfS sf365 sf0)) OW366.chv sf365
                    have OW371 := OW366.keep K369 (sfS (Safe.exa (EL := consts_1) OW366.2.1.alike f1364 (by decide) (by decide)) (sfS sf365 sf0))
                    obtain rfl := own_sk7 h8 hf6
                    show OGo p e below (T369.setTop (mkF m 186 #[.val (.int p1), .val (.int p2), .val (.int p3), .val (.int (7 : Int32)), .val (.int (((p1.toUInt32 >>> ((3 : Int32) &&& 31).toUInt32).toInt32) &&& (7 : Int32))), .val (.int (((p1.toUInt32 >>> ((6 : Int32) &&& 31).toUInt32).toInt32) &&& (15 : Int32))), .val (.int fl), .val (.ref f5), .val (.ref ww), .val (.ref al), .unset] [(.int (1 : Int32))])) _
                    refine OGo.step (fun _ kk => XS.pop X369.here hx rfl (hb hby at_186) rfl rfl kk) ?_
                    refine OGo.step (fun _ kk => XS.iloadN X369.here hx rfl (hb hby at_187) rfl kk) ?_
                    refine OGo.step (fun _ kk => XS.iconst X369.here hx rfl (hb hby at_188) kk) ?_
                    show OGo p e below (T369.setTop (mkF m 189 #[.val (.int p1), .val (.int p2), .val (.int p3), .val (.int (7 : Int32)), .val (.int (((p1.toUInt32 >>> ((3 : Int32) &&& 31).toUInt32).toInt32) &&& (7 : Int32))), .val (.int (((p1.toUInt32 >>> ((6 : Int32) &&& 31).toUInt32).toInt32) &&& (15 : Int32))), .val (.int fl), .val (.ref f5), .val (.ref ww), .val (.ref al), .unset] [(.int (4 : Int32)), (.int (7 : Int32))])) _
                    refine OGo.step (fun _ kk => XS.icmpNo X369.here hx rfl (hb hby at_189) rfl (feq (by decide)).1 kk) ?_
                    show OGo p e below (T369.setTop (mkF m 192 #[.val (.int p1), .val (.int p2), .val (.int p3), .val (.int (7 : Int32)), .val (.int (((p1.toUInt32 >>> ((3 : Int32) &&& 31).toUInt32).toInt32) &&& (7 : Int32))), .val (.int (((p1.toUInt32 >>> ((6 : Int32) &&& 31).toUInt32).toInt32) &&& (15 : Int32))), .val (.int fl), .val (.ref f5), .val (.ref ww), .val (.ref al), .unset] [])) _
                    refine OGo.step (fun _ kk => XS.iloadN X369.here hx rfl (hb hby at_192) rfl kk) ?_
                    refine OGo.step (fun _ kk => XS.bipush X369.here hx rfl (hb hby at_193) kk) ?_
                    show OGo p e below (T369.setTop (mkF m 195 #[.val (.int p1), .val (.int p2), .val (.int p3), .val (.int (7 : Int32)), .val (.int (((p1.toUInt32 >>> ((3 : Int32) &&& 31).toUInt32).toInt32) &&& (7 : Int32))), .val (.int (((p1.toUInt32 >>> ((6 : Int32) &&& 31).toUInt32).toInt32) &&& (15 : Int32))), .val (.int fl), .val (.ref f5), .val (.ref ww), .val (.ref al), .unset] [(.int (6 : Int32)), (.int (7 : Int32))])) _
                    refine OGo.step (fun _ kk => XS.icmpYes X369.here hx rfl (pc0 := 195) (pc' := 210) rfl (hb hby at_195) rfl (feq (by decide)).2 (by decide) (by decide) kk) ?_
                    show OGo p e below (T369.setTop (mkF m 210 #[.val (.int p1), .val (.int p2), .val (.int p3), .val (.int (7 : Int32)), .val (.int (((p1.toUInt32 >>> ((3 : Int32) &&& 31).toUInt32).toInt32) &&& (7 : Int32))), .val (.int (((p1.toUInt32 >>> ((6 : Int32) &&& 31).toUInt32).toInt32) &&& (15 : Int32))), .val (.int fl), .val (.ref f5), .val (.ref ww), .val (.ref al), .unset] [])) _
                    refine OGo.step (fun _ kk => XS.iconst X369.here hx rfl (hb hby at_210) kk) ?_
                    refine OGo.step (fun _ kk => XS.istore X369.here hx rfl (hb hby at_211) rfl (l' := #[.val (.int p1), .val (.int p2), .val (.int p3), .val (.int (7 : Int32)), .val (.int (((p1.toUInt32 >>> ((3 : Int32) &&& 31).toUInt32).toInt32) &&& (7 : Int32))), .val (.int (((p1.toUInt32 >>> ((6 : Int32) &&& 31).toUInt32).toInt32) &&& (15 : Int32))), .val (.int fl), .val (.ref f5), .val (.ref ww), .val (.ref al), .val (.int (0 : Int32))]) rfl kk) ?_
                    refine OGo.step (fun _ kk => XS.aload X369.here hx rfl (hb hby at_213) rfl rfl kk) ?_
                    show OGo p e below (T369.setTop (mkF m 215 #[.val (.int p1), .val (.int p2), .val (.int p3), .val (.int (7 : Int32)), .val (.int (((p1.toUInt32 >>> ((3 : Int32) &&& 31).toUInt32).toInt32) &&& (7 : Int32))), .val (.int (((p1.toUInt32 >>> ((6 : Int32) &&& 31).toUInt32).toInt32) &&& (15 : Int32))), .val (.int fl), .val (.ref f5), .val (.ref ww), .val (.ref al), .val (.int (0 : Int32))] [(.ref al)])) _
                    refine own_callSW X369 hx hZ (y := (⟨"com/example/tags_to_grants/tagstogrants/cli/TagsToGrants", "isOneRequest", "(Ljava/util/List;)Z"⟩ : MethodName)) hown (hw _ (List.mem_of_getElem? (i := 57) rfl)) (hw _ (List.mem_of_getElem? (i := 58) rfl)) (hw _ (List.mem_of_getElem? (i := 59) rfl)) (hw _ (List.mem_of_getElem? (i := 60) rfl)) (by decide) hEL OW371 (W := 0) (own_one7 l Z a0 hw [] al T369.heap n0 sz369 f1369 f3369) rfl  (pc := 215) (Ls := #[.val (.int p1), .val (.int p2), .val (.int p3), .val (.int (7 : Int32)), .val (.int (((p1.toUInt32 >>> ((3 : Int32) &&& 31).toUInt32).toInt32) &&& (7 : Int32))), .val (.int (((p1.toUInt32 >>> ((6 : Int32) &&& 31).toUInt32).toInt32) &&& (15 : Int32))), .val (.int fl), .val (.ref f5), .val (.ref ww), .val (.ref al), .val (.int (0 : Int32))]) (argsL := [(.ref al)]) (rest := []) (by rw [hml]; rfl) (lenOf own_pd13 rfl) rfl (hb hby at_215) (by decide) (by decide) (by decide) (by decide) ?_
                    intro v372 T372 L372 X372 hQ372 OW372 hZ hown CH372
                    obtain ⟨rfl, N372, Xe372⟩ := hQ372
                    have sf373 := CH372.safe (f5_369).lt sf370
                    show OGo p e below (T372.setTop (mkF m 218 #[.val (.int p1), .val (.int p2), .val (.int p3), .val (.int (7 : Int32)), .val (.int (((p1.toUInt32 >>> ((3 : Int32) &&& 31).toUInt32).toInt32) &&& (7 : Int32))), .val (.int (((p1.toUInt32 >>> ((6 : Int32) &&& 31).toUInt32).toInt32) &&& (15 : Int32))), .val (.int fl), .val (.ref f5), .val (.ref ww), .val (.ref al), .val (.int (0 : Int32))] [(.int (0 : Int32))])) _
                    have Nc372 := Fr.app Nc369 N372
                    have sz372 : n0 ≤ T372.heap.size := Nat.le_trans sz369 Xe372.1
                    refine OGo.step (fun _ kk => XS.iload X372.here hx rfl (hb hby at_218) rfl kk) ?_
                    show OGo p e below (T372.setTop (mkF m 220 #[.val (.int p1), .val (.int p2), .val (.int p3), .val (.int (7 : Int32)), .val (.int (((p1.toUInt32 >>> ((3 : Int32) &&& 31).toUInt32).toInt32) &&& (7 : Int32))), .val (.int (((p1.toUInt32 >>> ((6 : Int32) &&& 31).toUInt32).toInt32) &&& (15 : Int32))), .val (.int fl), .val (.ref f5), .val (.ref ww), .val (.ref al), .val (.int (0 : Int32))] [(.int (0 : Int32)), (.int (0 : Int32))])) _
                    refine OGo.step (fun _ kk => XS.icmpNo X372.here hx rfl (hb hby at_220) rfl (teq rfl).2 kk) ?_
                    show OGo p e below (T372.setTop (mkF m 223 #[.val (.int p1), .val (.int p2), .val (.int p3), .val (.int (7 : Int32)), .val (.int (((p1.toUInt32 >>> ((3 : Int32) &&& 31).toUInt32).toInt32) &&& (7 : Int32))), .val (.int (((p1.toUInt32 >>> ((6 : Int32) &&& 31).toUInt32).toInt32) &&& (15 : Int32))), .val (.int fl), .val (.ref f5), .val (.ref ww), .val (.ref al), .val (.int (0 : Int32))] [])) _
                    refine OGo.step (fun _ kk => XS.iconst X372.here hx rfl (hb hby at_223) kk) ?_
                    refine OGo.step (fun _ kk => XS.goto X372.here hx rfl (pc0 := 224) (pc' := 228) rfl (hb hby at_224) (by decide) (by decide) kk) ?_
                    show OGo p e below (T372.setTop (mkF m 228 #[.val (.int p1), .val (.int p2), .val (.int p3), .val (.int (7 : Int32)), .val (.int (((p1.toUInt32 >>> ((3 : Int32) &&& 31).toUInt32).toInt32) &&& (7 : Int32))), .val (.int (((p1.toUInt32 >>> ((6 : Int32) &&& 31).toUInt32).toInt32) &&& (15 : Int32))), .val (.int fl), .val (.ref f5), .val (.ref ww), .val (.ref al), .val (.int (0 : Int32))] [(.int (1 : Int32))])) _
                    exact own_retNW X372 hx hlk hEL OW372 rfl hret (by simp) (hb hby at_228) ⟨by rw [own_nar1], Nc372⟩ (by decide) (by decide)
                  · refine OGo.step (fun _ kk => XS.icmpYes X364.here hx rfl (pc0 := 174) (pc' := 187) rfl (hb hby at_174) rfl (flt hf6).2.2.2 (by decide) (by decide) kk) ?_
                    show OGo p e below (T364.setTop (mkF m 187 #[.val (.int p1), .val (.int p2), .val (.int p3), .val (.int nn), .val (.int (((p1.toUInt32 >>> ((3 : Int32) &&& 31).toUInt32).toInt32) &&& (7 : Int32))), .val (.int (((p1.toUInt32 >>> ((6 : Int32) &&& 31).toUInt32).toInt32) &&& (15 : Int32))), .val (.int fl), .val (.ref f5), .val (.ref ww), .val (.ref al), .unset] [])) _
                    obtain rfl := own_sk6 h8 hf5 hf6
                    show OGo p e below (T364.setTop (mkF m 187 #[.val (.int p1), .val (.int p2), .val (.int p3), .val (.int (6 : Int32)), .val (.int (((p1.toUInt32 >>> ((3 : Int32) &&& 31).toUInt32).toInt32) &&& (7 : Int32))), .val (.int (((p1.toUInt32 >>> ((6 : Int32) &&& 31).toUInt32).toInt32) &&& (15 : Int32))), .val (.int fl), .val (.ref f5), .val (.ref ww), .val (.ref al), .unset] [])) _
                    refine OGo.step (fun _ kk => XS.iloadN X364.here hx rfl (hb hby at_187) rfl kk) ?_
                    refine OGo.step (fun _ kk => XS.iconst X364.here hx rfl (hb hby at_188) kk) ?_
                    show OGo p e below (T364.setTop (mkF m 189 #[.val (.int p1), .val (.int p2), .val (.int p3), .val (.int (6 : Int32)), .val (.int (((p1.toUInt32 >>> ((3 : Int32) &&& 31).toUInt32).toInt32) &&& (7 : Int32))), .val (.int (((p1.toUInt32 >>> ((6 : Int32) &&& 31).toUInt32).toInt32) &&& (15 : Int32))), .val (.int fl), .val (.ref f5), .val (.ref ww), .val (.ref al), .unset] [(.int (4 : Int32)), (.int (6 : Int32))])) _
                    refine OGo.step (fun _ kk => XS.icmpNo X364.here hx rfl (hb hby at_189) rfl (feq (by decide)).1 kk) ?_
                    show OGo p e below (T364.setTop (mkF m 192 #[.val (.int p1), .val (.int p2), .val (.int p3), .val (.int (6 : Int32)), .val (.int (((p1.toUInt32 >>> ((3 : Int32) &&& 31).toUInt32).toInt32) &&& (7 : Int32))), .val (.int (((p1.toUInt32 >>> ((6 : Int32) &&& 31).toUInt32).toInt32) &&& (15 : Int32))), .val (.int fl), .val (.ref f5), .val (.ref ww), .val (.ref al), .unset] [])) _
                    refine OGo.step (fun _ kk => XS.iloadN X364.here hx rfl (hb hby at_192) rfl kk) ?_
                    refine OGo.step (fun _ kk => XS.bipush X364.here hx rfl (hb hby at_193) kk) ?_
                    show OGo p e below (T364.setTop (mkF m 195 #[.val (.int p1), .val (.int p2), .val (.int p3), .val (.int (6 : Int32)), .val (.int (((p1.toUInt32 >>> ((3 : Int32) &&& 31).toUInt32).toInt32) &&& (7 : Int32))), .val (.int (((p1.toUInt32 >>> ((6 : Int32) &&& 31).toUInt32).toInt32) &&& (15 : Int32))), .val (.int fl), .val (.ref f5), .val (.ref ww), .val (.ref al), .unset] [(.int (6 : Int32)), (.int (6 : Int32))])) _
                    refine OGo.step (fun _ kk => XS.icmpNo X364.here hx rfl (hb hby at_195) rfl (teq rfl).2 kk) ?_
                    show OGo p e below (T364.setTop (mkF m 198 #[.val (.int p1), .val (.int p2), .val (.int p3), .val (.int (6 : Int32)), .val (.int (((p1.toUInt32 >>> ((3 : Int32) &&& 31).toUInt32).toInt32) &&& (7 : Int32))), .val (.int (((p1.toUInt32 >>> ((6 : Int32) &&& 31).toUInt32).toInt32) &&& (15 : Int32))), .val (.int fl), .val (.ref f5), .val (.ref ww), .val (.ref al), .unset] [])) _
                    refine OGo.step (fun _ kk => XS.aload X364.here hx rfl (hb hby at_198) rfl rfl kk) ?_
                    show OGo p e below (T364.setTop (mkF m 200 #[.val (.int p1), .val (.int p2), .val (.int p3), .val (.int (6 : Int32)), .val (.int (((p1.toUInt32 >>> ((3 : Int32) &&& 31).toUInt32).toInt32) &&& (7 : Int32))), .val (.int (((p1.toUInt32 >>> ((6 : Int32) &&& 31).toUInt32).toInt32) &&& (15 : Int32))), .val (.int fl), .val (.ref f5), .val (.ref ww), .val (.ref al), .unset] [(.ref f5)])) _
                    have xt374 := (own_ext_keep xt331 K334 (allS (Nat.le_trans xt321.1 (Nat.le_of_eq g323.symm)) all0))
                    have xt375 := (own_ext_keep xt374 K338 (allS (Nat.le_trans xt321.1 (Nat.le_of_eq g323.symm)) (allS (Nat.le_trans xt331.1 ge_) all0)))
                    have xt376 := (own_ext_keep xt375 K343 (allS (Nat.le_trans xt321.1 (Nat.le_of_eq g323.symm)) (allS (Nat.le_trans xt331.1 ge_) all0)))
                    have xt377 := (own_ext_keep xt376 K348 (allS (Nat.le_trans xt321.1 (Nat.le_of_eq g323.symm)) (allS (Nat.le_trans xt331.1 ge_) all0)))
                    have xt378 := (own_ext_keep xt377 K358 (allS (Nat.le_trans xt321.1 (Nat.le_of_eq g323.symm)) (allS (Nat.le_trans xt331.1 ge_) all0)))
                    have xt379 := (own_ext_keep xt378 K364 (allS (Nat.le_trans xt321.1 (Nat.le_of_eq g323.symm)) (allS (Nat.le_trans xt331.1 ge_) all0)))
                    have fx380 := SC.ext xt379
                    have fx381 := SF.ext xt379
                    have xt382 := (own_ext_keep xt356 K358 (allS (Nat.le_trans E320.1 (Nat.le_of_eq g323.symm)) (allS (Nat.le_trans xt352.1 ge_) all0)))
                    have xt383 := (own_ext_keep xt382 K364 (allS (Nat.le_trans E320.1 (Nat.le_of_eq g323.symm)) (allS (Nat.le_trans xt352.1 ge_) all0)))
                    have fx384 := Of236.ext xt383
                    refine own_callS X364 hx hZ (y := (⟨"com/example/tags_to_grants/tagstogrants/cli/TagsToGrantsIsOneRequestPinLaw", "isAs", "(Ljava/lang/String;)Z"⟩ : MethodName)) hown (hw _ (List.mem_of_getElem? (i := 123) rfl)) (hw _ (List.mem_of_getElem? (i := 124) rfl)) (hw _ (List.mem_of_getElem? (i := 2) rfl)) (hw _ (List.mem_of_getElem? (i := 125) rfl)) (by decide) (W := 0) (own_isAs l Z a0 hw [] f5 cs zc fm T364.heap n0 sz364 fx380 hzc fx381 hfm fx384 hs) rfl  (pc := 200) (Ls := #[.val (.int p1), .val (.int p2), .val (.int p3), .val (.int (6 : Int32)), .val (.int (((p1.toUInt32 >>> ((3 : Int32) &&& 31).toUInt32).toInt32) &&& (7 : Int32))), .val (.int (((p1.toUInt32 >>> ((6 : Int32) &&& 31).toUInt32).toInt32) &&& (15 : Int32))), .val (.int fl), .val (.ref f5), .val (.ref ww), .val (.ref al), .unset]) (argsL := [(.ref f5)]) (rest := []) (by rw [hml]; rfl) (lenOf own_pd14 rfl) rfl (hb hby at_200) (by decide) (by decide) (by decide) (by decide) ?_
                    intro v385 T385 L385 X385 hQ385
                    obtain ⟨rfl, N385, e385⟩ := hQ385
                    show OGo p e below (T385.setTop (mkF m 203 #[.val (.int p1), .val (.int p2), .val (.int p3), .val (.int (6 : Int32)), .val (.int (((p1.toUInt32 >>> ((3 : Int32) &&& 31).toUInt32).toInt32) &&& (7 : Int32))), .val (.int (((p1.toUInt32 >>> ((6 : Int32) &&& 31).toUInt32).toInt32) &&& (15 : Int32))), .val (.int fl), .val (.ref f5), .val (.ref ww), .val (.ref al), .unset] [(.int (if cs = ([45, 45, 97, 115] : List Int32) then (1 : Int32) else 0))])) _
                    have Nc385 := Fr.app Nc364 N385
                    by_cases hr : (if cs = ([45, 45, 97, 115] : List Int32) then (1 : Int32) else 0) = (0 : Int32)
                    · refine OGo.step (fun _ kk => XS.ifYes X385.here hx rfl (pc0 := 203) (pc' := 210) rfl (hb hby at_203) rfl ((if0 _ _).trans (teq hr).1) (by decide) (by decide) kk) ?_
                      show OGo p e below (T385.setTop (mkF m 210 #[.val (.int p1), .val (.int p2), .val (.int p3), .val (.int (6 : Int32)), .val (.int (((p1.toUInt32 >>> ((3 : Int32) &&& 31).toUInt32).toInt32) &&& (7 : Int32))), .val (.int (((p1.toUInt32 >>> ((6 : Int32) &&& 31).toUInt32).toInt32) &&& (15 : Int32))), .val (.int fl), .val (.ref f5), .val (.ref ww), .val (.ref al), .unset] [])) _
                      refine OGo.step (fun _ kk => XS.iconst X385.here hx rfl (hb hby at_210) kk) ?_
                      refine OGo.step (fun _ kk => XS.istore X385.here hx rfl (hb hby at_211) rfl (l' := #[.val (.int p1), .val (.int p2), .val (.int p3), .val (.int (6 : Int32)), .val (.int (((p1.toUInt32 >>> ((3 : Int32) &&& 31).toUInt32).toInt32) &&& (7 : Int32))), .val (.int (((p1.toUInt32 >>> ((6 : Int32) &&& 31).toUInt32).toInt32) &&& (15 : Int32))), .val (.int fl), .val (.ref f5), .val (.ref ww), .val (.ref al), .val (.int (0 : Int32))]) rfl kk) ?_
                      refine OGo.step (fun _ kk => XS.aload X385.here hx rfl (hb hby at_213) rfl rfl kk) ?_
                      show OGo p e below (T385.setTop (mkF m 215 #[.val (.int p1), .val (.int p2), .val (.int p3), .val (.int (6 : Int32)), .val (.int (((p1.toUInt32 >>> ((3 : Int32) &&& 31).toUInt32).toInt32) &&& (7 : Int32))), .val (.int (((p1.toUInt32 >>> ((6 : Int32) &&& 31).toUInt32).toInt32) &&& (15 : Int32))), .val (.int fl), .val (.ref f5), .val (.ref ww), .val (.ref al), .val (.int (0 : Int32))] [(.ref al)])) _
                      refine own_callSW X385 hx hZ (y := (⟨"com/example/tags_to_grants/tagstogrants/cli/TagsToGrants", "isOneRequest", "(Ljava/util/List;)Z"⟩ : MethodName)) hown (hw _ (List.mem_of_getElem? (i := 57) rfl)) (hw _ (List.mem_of_getElem? (i := 58) rfl)) (hw _ (List.mem_of_getElem? (i := 59) rfl)) (hw _ (List.mem_of_getElem? (i := 60) rfl)) (by decide) hEL OW366 (W := 0) (own_one6 l Z a0 hw [] al e_ f5 ke (((((([] ++ [.ref ww]) ++ [.ref ww]) ++ [.ref ww]) ++ [.ref ww]) ++ [.ref f5]) ++ [.ref ww]) cs zc T364.heap n0 sz364 fx380 hzc f1364 f3364 f2364 f5_364 rfl fx384) e385  (pc := 215) (Ls := #[.val (.int p1), .val (.int p2), .val (.int p3), .val (.int (6 : Int32)), .val (.int (((p1.toUInt32 >>> ((3 : Int32) &&& 31).toUInt32).toInt32) &&& (7 : Int32))), .val (.int (((p1.toUInt32 >>> ((6 : Int32) &&& 31).toUInt32).toInt32) &&& (15 : Int32))), .val (.int fl), .val (.ref f5), .val (.ref ww), .val (.ref al), .val (.int (0 : Int32))]) (argsL := [(.ref al)]) (rest := []) (by rw [hml]; rfl) (lenOf own_pd13 rfl) rfl (hb hby at_215) (by decide) (by decide) (by decide) (by decide) ?_
                      intro v386 T386 L386 X386 hQ386 OW386 hZ hown CH386
                      obtain ⟨rfl, N386, Xe386⟩ := hQ386
                      have sf387 := CH386.safe (f5_364).lt sf365
                      show OGo p e below (T386.setTop (mkF m 218 #[.val (.int p1), .val (.int p2), .val (.int p3), .val (.int (6 : Int32)), .val (.int (((p1.toUInt32 >>> ((3 : Int32) &&& 31).toUInt32).toInt32) &&& (7 : Int32))), .val (.int (((p1.toUInt32 >>> ((6 : Int32) &&& 31).toUInt32).toInt32) &&& (15 : Int32))), .val (.int fl), .val (.ref f5), .val (.ref ww), .val (.ref al), .val (.int (0 : Int32))] [(.int (if cs = ([45, 45, 97, 115] : List Int32) then (1 : Int32) else 0))])) _
                      have Nc386 := Fr.app Nc385 N386
                      have sz386 : n0 ≤ T386.heap.size := Nat.le_trans sz364 Xe386.1
                      refine OGo.step (fun _ kk => XS.iload X386.here hx rfl (hb hby at_218) rfl kk) ?_
                      show OGo p e below (T386.setTop (mkF m 220 #[.val (.int p1), .val (.int p2), .val (.int p3), .val (.int (6 : Int32)), .val (.int (((p1.toUInt32 >>> ((3 : Int32) &&& 31).toUInt32).toInt32) &&& (7 : Int32))), .val (.int (((p1.toUInt32 >>> ((6 : Int32) &&& 31).toUInt32).toInt32) &&& (15 : Int32))), .val (.int fl), .val (.ref f5), .val (.ref ww), .val (.ref al), .val (.int (0 : Int32))] [(.int (0 : Int32)), (.int (if cs = ([45, 45, 97, 115] : List Int32) then (1 : Int32) else 0))])) _
                      refine OGo.step (fun _ kk => XS.icmpNo X386.here hx rfl (hb hby at_220) rfl (teq (if_neg (own_if0 hr))).2 kk) ?_
                      show OGo p e below (T386.setTop (mkF m 223 #[.val (.int p1), .val (.int p2), .val (.int p3), .val (.int (6 : Int32)), .val (.int (((p1.toUInt32 >>> ((3 : Int32) &&& 31).toUInt32).toInt32) &&& (7 : Int32))), .val (.int (((p1.toUInt32 >>> ((6 : Int32) &&& 31).toUInt32).toInt32) &&& (15 : Int32))), .val (.int fl), .val (.ref f5), .val (.ref ww), .val (.ref al), .val (.int (0 : Int32))] [])) _
                      refine OGo.step (fun _ kk => XS.iconst X386.here hx rfl (hb hby at_223) kk) ?_
                      refine OGo.step (fun _ kk => XS.goto X386.here hx rfl (pc0 := 224) (pc' := 228) rfl (hb hby at_224) (by decide) (by decide) kk) ?_
                      show OGo p e below (T386.setTop (mkF m 228 #[.val (.int p1), .val (.int p2), .val (.int p3), .val (.int (6 : Int32)), .val (.int (((p1.toUInt32 >>> ((3 : Int32) &&& 31).toUInt32).toInt32) &&& (7 : Int32))), .val (.int (((p1.toUInt32 >>> ((6 : Int32) &&& 31).toUInt32).toInt32) &&& (15 : Int32))), .val (.int fl), .val (.ref f5), .val (.ref ww), .val (.ref al), .val (.int (0 : Int32))] [(.int (1 : Int32))])) _
                      exact own_retNW X386 hx hlk hEL OW386 rfl hret (by simp) (hb hby at_228) ⟨by rw [own_nar1], Nc386⟩ (by decide) (by decide)
                    · refine OGo.step (fun _ kk => XS.ifNo X385.here hx rfl (hb hby at_203) rfl ((if0 _ _).trans (feq hr).1) kk) ?_
                      show OGo p e below (T385.setTop (mkF m 206 #[.val (.int p1), .val (.int p2), .val (.int p3), .val (.int (6 : Int32)), .val (.int (((p1.toUInt32 >>> ((3 : Int32) &&& 31).toUInt32).toInt32) &&& (7 : Int32))), .val (.int (((p1.toUInt32 >>> ((6 : Int32) &&& 31).toUInt32).toInt32) &&& (15 : Int32))), .val (.int fl), .val (.ref f5), .val (.ref ww), .val (.ref al), .unset] [])) _
                      refine OGo.step (fun _ kk => XS.iconst X385.here hx rfl (hb hby at_206) kk) ?_
                      refine OGo.step (fun _ kk => XS.goto X385.here hx rfl (pc0 := 207) (pc' := 211) rfl (hb hby at_207) (by decide) (by decide) kk) ?_
                      refine OGo.step (fun _ kk => XS.istore X385.here hx rfl (hb hby at_211) rfl (l' := #[.val (.int p1), .val (.int p2), .val (.int p3), .val (.int (6 : Int32)), .val (.int (((p1.toUInt32 >>> ((3 : Int32) &&& 31).toUInt32).toInt32) &&& (7 : Int32))), .val (.int (((p1.toUInt32 >>> ((6 : Int32) &&& 31).toUInt32).toInt32) &&& (15 : Int32))), .val (.int fl), .val (.ref f5), .val (.ref ww), .val (.ref al), .val (.int (1 : Int32))]) rfl kk) ?_
                      refine OGo.step (fun _ kk => XS.aload X385.here hx rfl (hb hby at_213) rfl rfl kk) ?_
                      show OGo p e below (T385.setTop (mkF m 215 #[.val (.int p1), .val (.int p2), .val (.int p3), .val (.int (6 : Int32)), .val (.int (((p1.toUInt32 >>> ((3 : Int32) &&& 31).toUInt32).toInt32) &&& (7 : Int32))), .val (.int (((p1.toUInt32 >>> ((6 : Int32) &&& 31).toUInt32).toInt32) &&& (15 : Int32))), .val (.int fl), .val (.ref f5), .val (.ref ww), .val (.ref al), .val (.int (1 : Int32))] [(.ref al)])) _
                      refine own_callSW X385 hx hZ (y := (⟨"com/example/tags_to_grants/tagstogrants/cli/TagsToGrants", "isOneRequest", "(Ljava/util/List;)Z"⟩ : MethodName)) hown (hw _ (List.mem_of_getElem? (i := 57) rfl)) (hw _ (List.mem_of_getElem? (i := 58) rfl)) (hw _ (List.mem_of_getElem? (i := 59) rfl)) (hw _ (List.mem_of_getElem? (i := 60) rfl)) (by decide) hEL OW366 (W := 0) (own_one6 l Z a0 hw [] al e_ f5 ke (((((([] ++ [.ref ww]) ++ [.ref ww]) ++ [.ref ww]) ++ [.ref ww]) ++ [.ref f5]) ++ [.ref ww]) cs zc T364.heap n0 sz364 fx380 hzc f1364 f3364 f2364 f5_364 rfl fx384) e385  (pc := 215) (Ls := #[.val (.int p1), .val (.int p2), .val (.int p3), .val (.int (6 : Int32)), .val (.int (((p1.toUInt32 >>> ((3 : Int32) &&& 31).toUInt32).toInt32) &&& (7 : Int32))), .val (.int (((p1.toUInt32 >>> ((6 : Int32) &&& 31).toUInt32).toInt32) &&& (15 : Int32))), .val (.int fl), .val (.ref f5), .val (.ref ww), .val (.ref al), .val (.int (1 : Int32))]) (argsL := [(.ref al)]) (rest := []) (by rw [hml]; rfl) (lenOf own_pd13 rfl) rfl (hb hby at_215) (by decide) (by decide) (by decide) (by decide) ?_
                      intro v388 T388 L388 X388 hQ388 OW388 hZ hown CH388
                      obtain ⟨rfl, N388, Xe388⟩ := hQ388
                      have sf389 := CH388.safe (f5_364).lt sf365
                      show OGo p e below (T388.setTop (mkF m 218 #[.val (.int p1), .val (.int p2), .val (.int p3), .val (.int (6 : Int32)), .val (.int (((p1.toUInt32 >>> ((3 : Int32) &&& 31).toUInt32).toInt32) &&& (7 : Int32))), .val (.int (((p1.toUInt32 >>> ((6 : Int32) &&& 31).toUInt32).toInt32) &&& (15 : Int32))), .val (.int fl), .val (.ref f5), .val (.ref ww), .val (.ref al), .val (.int (1 : Int32))] [(.int (if cs = ([45, 45, 97, 115] : List Int32) then (1 : Int32) else 0))])) _
                      have Nc388 := Fr.app Nc385 N388
                      have sz388 : n0 ≤ T388.heap.size := Nat.le_trans sz364 Xe388.1
                      refine OGo.step (fun _ kk => XS.iload X388.here hx rfl (hb hby at_218) rfl kk) ?_
                      show OGo p e below (T388.setTop (mkF m 220 #[.val (.int p1), .val (.int p2), .val (.int p3), .val (.int (6 : Int32)), .val (.int (((p1.toUInt32 >>> ((3 : Int32) &&& 31).toUInt32).toInt32) &&& (7 : Int32))), .val (.int (((p1.toUInt32 >>> ((6 : Int32) &&& 31).toUInt32).toInt32) &&& (15 : Int32))), .val (.int fl), .val (.ref f5), .val (.ref ww), .val (.ref al), .val (.int (1 : Int32))] [(.int (1 : Int32)), (.int (if cs = ([45, 45, 97, 115] : List Int32) then (1 : Int32) else 0))])) _
                      refine OGo.step (fun _ kk => XS.icmpNo X388.here hx rfl (hb hby at_220) rfl (teq (if_pos (own_if1 hr))).2 kk) ?_
                      show OGo p e below (T388.setTop (mkF m 223 #[.val (.int p1), .val (.int p2), .val (.int p3), .val (.int (6 : Int32)), .val (.int (((p1.toUInt32 >>> ((3 : Int32) &&& 31).toUInt32).toInt32) &&& (7 : Int32))), .val (.int (((p1.toUInt32 >>> ((6 : Int32) &&& 31).toUInt32).toInt32) &&& (15 : Int32))), .val (.int fl), .val (.ref f5), .val (.ref ww), .val (.ref al), .val (.int (1 : Int32))] [])) _
                      refine OGo.step (fun _ kk => XS.iconst X388.here hx rfl (hb hby at_223) kk) ?_
                      refine OGo.step (fun _ kk => XS.goto X388.here hx rfl (pc0 := 224) (pc' := 228) rfl (hb hby at_224) (by decide) (by decide) kk) ?_
                      show OGo p e below (T388.setTop (mkF m 228 #[.val (.int p1), .val (.int p2), .val (.int p3), .val (.int (6 : Int32)), .val (.int (((p1.toUInt32 >>> ((3 : Int32) &&& 31).toUInt32).toInt32) &&& (7 : Int32))), .val (.int (((p1.toUInt32 >>> ((6 : Int32) &&& 31).toUInt32).toInt32) &&& (15 : Int32))), .val (.int fl), .val (.ref f5), .val (.ref ww), .val (.ref al), .val (.int (1 : Int32))] [(.int (1 : Int32))])) _
                      exact own_retNW X388 hx hlk hEL OW388 rfl hret (by simp) (hb hby at_228) ⟨by rw [own_nar1], Nc388⟩ (by decide) (by decide)
                · refine OGo.step (fun _ kk => XS.icmpYes X358.here hx rfl (pc0 := 158) (pc' := 171) rfl (hb hby at_158) rfl (flt hf5).2.2.2 (by decide) (by decide) kk) ?_
                  show OGo p e below (T358.setTop (mkF m 171 #[.val (.int p1), .val (.int p2), .val (.int p3), .val (.int nn), .val (.int (((p1.toUInt32 >>> ((3 : Int32) &&& 31).toUInt32).toInt32) &&& (7 : Int32))), .val (.int (((p1.toUInt32 >>> ((6 : Int32) &&& 31).toUInt32).toInt32) &&& (15 : Int32))), .val (.int fl), .val (.ref f5), .val (.ref ww), .val (.ref al), .unset] [])) _
                  obtain rfl := own_sk5 h8 hf4 hf5
                  show OGo p e below (T358.setTop (mkF m 171 #[.val (.int p1), .val (.int p2), .val (.int p3), .val (.int (5 : Int32)), .val (.int (((p1.toUInt32 >>> ((3 : Int32) &&& 31).toUInt32).toInt32) &&& (7 : Int32))), .val (.int (((p1.toUInt32 >>> ((6 : Int32) &&& 31).toUInt32).toInt32) &&& (15 : Int32))), .val (.int fl), .val (.ref f5), .val (.ref ww), .val (.ref al), .unset] [])) _
                  refine OGo.step (fun _ kk => XS.iloadN X358.here hx rfl (hb hby at_171) rfl kk) ?_
                  refine OGo.step (fun _ kk => XS.bipush X358.here hx rfl (hb hby at_172) kk) ?_
                  show OGo p e below (T358.setTop (mkF m 174 #[.val (.int p1), .val (.int p2), .val (.int p3), .val (.int (5 : Int32)), .val (.int (((p1.toUInt32 >>> ((3 : Int32) &&& 31).toUInt32).toInt32) &&& (7 : Int32))), .val (.int (((p1.toUInt32 >>> ((6 : Int32) &&& 31).toUInt32).toInt32) &&& (15 : Int32))), .val (.int fl), .val (.ref f5), .val (.ref ww), .val (.ref al), .unset] [(.int (6 : Int32)), (.int (5 : Int32))])) _
                  refine OGo.step (fun _ kk => XS.icmpYes X358.here hx rfl (pc0 := 174) (pc' := 187) rfl (hb hby at_174) rfl (flt (by decide)).2.2.2 (by decide) (by decide) kk) ?_
                  show OGo p e below (T358.setTop (mkF m 187 #[.val (.int p1), .val (.int p2), .val (.int p3), .val (.int (5 : Int32)), .val (.int (((p1.toUInt32 >>> ((3 : Int32) &&& 31).toUInt32).toInt32) &&& (7 : Int32))), .val (.int (((p1.toUInt32 >>> ((6 : Int32) &&& 31).toUInt32).toInt32) &&& (15 : Int32))), .val (.int fl), .val (.ref f5), .val (.ref ww), .val (.ref al), .unset] [])) _
                  refine OGo.step (fun _ kk => XS.iloadN X358.here hx rfl (hb hby at_187) rfl kk) ?_
                  refine OGo.step (fun _ kk => XS.iconst X358.here hx rfl (hb hby at_188) kk) ?_
                  show OGo p e below (T358.setTop (mkF m 189 #[.val (.int p1), .val (.int p2), .val (.int p3), .val (.int (5 : Int32)), .val (.int (((p1.toUInt32 >>> ((3 : Int32) &&& 31).toUInt32).toInt32) &&& (7 : Int32))), .val (.int (((p1.toUInt32 >>> ((6 : Int32) &&& 31).toUInt32).toInt32) &&& (15 : Int32))), .val (.int fl), .val (.ref f5), .val (.ref ww), .val (.ref al), .unset] [(.int (4 : Int32)), (.int (5 : Int32))])) _
                  refine OGo.step (fun _ kk => XS.icmpNo X358.here hx rfl (hb hby at_189) rfl (feq (by decide)).1 kk) ?_
                  show OGo p e below (T358.setTop (mkF m 192 #[.val (.int p1), .val (.int p2), .val (.int p3), .val (.int (5 : Int32)), .val (.int (((p1.toUInt32 >>> ((3 : Int32) &&& 31).toUInt32).toInt32) &&& (7 : Int32))), .val (.int (((p1.toUInt32 >>> ((6 : Int32) &&& 31).toUInt32).toInt32) &&& (15 : Int32))), .val (.int fl), .val (.ref f5), .val (.ref ww), .val (.ref al), .unset] [])) _
                  refine OGo.step (fun _ kk => XS.iloadN X358.here hx rfl (hb hby at_192) rfl kk) ?_
                  refine OGo.step (fun _ kk => XS.bipush X358.here hx rfl (hb hby at_193) kk) ?_
                  show OGo p e below (T358.setTop (mkF m 195 #[.val (.int p1), .val (.int p2), .val (.int p3), .val (.int (5 : Int32)), .val (.int (((p1.toUInt32 >>> ((3 : Int32) &&& 31).toUInt32).toInt32) &&& (7 : Int32))), .val (.int (((p1.toUInt32 >>> ((6 : Int32) &&& 31).toUInt32).toInt32) &&& (15 : Int32))), .val (.int fl), .val (.ref f5), .val (.ref ww), .val (.ref al), .unset] [(.int (6 : Int32)), (.int (5 : Int32))])) _
                  refine OGo.step (fun _ kk => XS.icmpYes X358.here hx rfl (pc0 := 195) (pc' := 210) rfl (hb hby at_195) rfl (feq (by decide)).2 (by decide) (by decide) kk) ?_
                  show OGo p e below (T358.setTop (mkF m 210 #[.val (.int p1), .val (.int p2), .val (.int p3), .val (.int (5 : Int32)), .val (.int (((p1.toUInt32 >>> ((3 : Int32) &&& 31).toUInt32).toInt32) &&& (7 : Int32))), .val (.int (((p1.toUInt32 >>> ((6 : Int32) &&& 31).toUInt32).toInt32) &&& (15 : Int32))), .val (.int fl), .val (.ref f5), .val (.ref ww), .val (.ref al), .unset] [])) _
                  refine OGo.step (fun _ kk => XS.iconst X358.here hx rfl (hb hby at_210) kk) ?_
                  refine OGo.step (fun _ kk => XS.istore X358.here hx rfl (hb hby at_211) rfl (l' := #[.val (.int p1), .val (.int p2), .val (.int p3), .val (.int (5 : Int32)), .val (.int (((p1.toUInt32 >>> ((3 : Int32) &&& 31).toUInt32).toInt32) &&& (7 : Int32))), .val (.int (((p1.toUInt32 >>> ((6 : Int32) &&& 31).toUInt32).toInt32) &&& (15 : Int32))), .val (.int fl), .val (.ref f5), .val (.ref ww), .val (.ref al), .val (.int (0 : Int32))]) rfl kk) ?_
                  refine OGo.step (fun _ kk => XS.aload X358.here hx rfl (hb hby at_213) rfl rfl kk) ?_
                  show OGo p e below (T358.setTop (mkF m 215 #[.val (.int p1), .val (.int p2), .val (.int p3), .val (.int (5 : Int32)), .val (.int (((p1.toUInt32 >>> ((3 : Int32) &&& 31).toUInt32).toInt32) &&& (7 : Int32))), .val (.int (((p1.toUInt32 >>> ((6 : Int32) &&& 31).toUInt32).toInt32) &&& (15 : Int32))), .val (.int fl), .val (.ref f5), .val (.ref ww), .val (.ref al), .val (.int (0 : Int32))] [(.ref al)])) _
                  refine own_callSW X358 hx hZ (y := (⟨"com/example/tags_to_grants/tagstogrants/cli/TagsToGrants", "isOneRequest", "(Ljava/util/List;)Z"⟩ : MethodName)) hown (hw _ (List.mem_of_getElem? (i := 57) rfl)) (hw _ (List.mem_of_getElem? (i := 58) rfl)) (hw _ (List.mem_of_getElem? (i := 59) rfl)) (hw _ (List.mem_of_getElem? (i := 60) rfl)) (by decide) hEL OW360 (W := 0) (own_one5 l Z a0 hw [] al T358.heap n0 sz358 f1358 f3358) rfl  (pc := 215) (Ls := #[.val (.int p1), .val (.int p2), .val (.int p3), .val (.int (5 : Int32)), .val (.int (((p1.toUInt32 >>> ((3 : Int32) &&& 31).toUInt32).toInt32) &&& (7 : Int32))), .val (.int (((p1.toUInt32 >>> ((6 : Int32) &&& 31).toUInt32).toInt32) &&& (15 : Int32))), .val (.int fl), .val (.ref f5), .val (.ref ww), .val (.ref al), .val (.int (0 : Int32))]) (argsL := [(.ref al)]) (rest := []) (by rw [hml]; rfl) (lenOf own_pd13 rfl) rfl (hb hby at_215) (by decide) (by decide) (by decide) (by decide) ?_
                  intro v390 T390 L390 X390 hQ390 OW390 hZ hown CH390
                  obtain ⟨rfl, N390, Xe390⟩ := hQ390
                  have sf391 := CH390.safe (f5_358).lt sf359
                  show OGo p e below (T390.setTop (mkF m 218 #[.val (.int p1), .val (.int p2), .val (.int p3), .val (.int (5 : Int32)), .val (.int (((p1.toUInt32 >>> ((3 : Int32) &&& 31).toUInt32).toInt32) &&& (7 : Int32))), .val (.int (((p1.toUInt32 >>> ((6 : Int32) &&& 31).toUInt32).toInt32) &&& (15 : Int32))), .val (.int fl), .val (.ref f5), .val (.ref ww), .val (.ref al), .val (.int (0 : Int32))] [(.int (0 : Int32))])) _
                  have Nc390 := Fr.app Nc358 N390
                  have sz390 : n0 ≤ T390.heap.size := Nat.le_trans sz358 Xe390.1
                  refine OGo.step (fun _ kk => XS.iload X390.here hx rfl (hb hby at_218) rfl kk) ?_
                  show OGo p e below (T390.setTop (mkF m 220 #[.val (.int p1), .val (.int p2), .val (.int p3), .val (.int (5 : Int32)), .val (.int (((p1.toUInt32 >>> ((3 : Int32) &&& 31).toUInt32).toInt32) &&& (7 : Int32))), .val (.int (((p1.toUInt32 >>> ((6 : Int32) &&& 31).toUInt32).toInt32) &&& (15 : Int32))), .val (.int fl), .val (.ref f5), .val (.ref ww), .val (.ref al), .val (.int (0 : Int32))] [(.int (0 : Int32)), (.int (0 : Int32))])) _
                  refine OGo.step (fun _ kk => XS.icmpNo X390.here hx rfl (hb hby at_220) rfl (teq rfl).2 kk) ?_
                  show OGo p e below (T390.setTop (mkF m 223 #[.val (.int p1), .val (.int p2), .val (.int p3), .val (.int (5 : Int32)), .val (.int (((p1.toUInt32 >>> ((3 : Int32) &&& 31).toUInt32).toInt32) &&& (7 : Int32))), .val (.int (((p1.toUInt32 >>> ((6 : Int32) &&& 31).toUInt32).toInt32) &&& (15 : Int32))), .val (.int fl), .val (.ref f5), .val (.ref ww), .val (.ref al), .val (.int (0 : Int32))] [])) _
                  refine OGo.step (fun _ kk => XS.iconst X390.here hx rfl (hb hby at_223) kk) ?_
                  refine OGo.step (fun _ kk => XS.goto X390.here hx rfl (pc0 := 224) (pc' := 228) rfl (hb hby at_224) (by decide) (by decide) kk) ?_
                  show OGo p e below (T390.setTop (mkF m 228 #[.val (.int p1), .val (.int p2), .val (.int p3), .val (.int (5 : Int32)), .val (.int (((p1.toUInt32 >>> ((3 : Int32) &&& 31).toUInt32).toInt32) &&& (7 : Int32))), .val (.int (((p1.toUInt32 >>> ((6 : Int32) &&& 31).toUInt32).toInt32) &&& (15 : Int32))), .val (.int fl), .val (.ref f5), .val (.ref ww), .val (.ref al), .val (.int (0 : Int32))] [(.int (1 : Int32))])) _
                  exact own_retNW X390 hx hlk hEL OW390 rfl hret (by simp) (hb hby at_228) ⟨by rw [own_nar1], Nc390⟩ (by decide) (by decide)
              · refine OGo.step (fun _ kk => XS.icmpYes X348.here hx rfl (pc0 := 143) (pc' := 156) rfl (hb hby at_143) rfl (flt hf4).2.2.2 (by decide) (by decide) kk) ?_
                show OGo p e below (T348.setTop (mkF m 156 #[.val (.int p1), .val (.int p2), .val (.int p3), .val (.int nn), .val (.int (((p1.toUInt32 >>> ((3 : Int32) &&& 31).toUInt32).toInt32) &&& (7 : Int32))), .val (.int (((p1.toUInt32 >>> ((6 : Int32) &&& 31).toUInt32).toInt32) &&& (15 : Int32))), .val (.int fl), .val (.ref f5), .val (.ref ww), .val (.ref al), .unset] [])) _
                obtain rfl := own_sk4 h8 hf3 hf4
                show OGo p e below (T348.setTop (mkF m 156 #[.val (.int p1), .val (.int p2), .val (.int p3), .val (.int (4 : Int32)), .val (.int (((p1.toUInt32 >>> ((3 : Int32) &&& 31).toUInt32).toInt32) &&& (7 : Int32))), .val (.int (((p1.toUInt32 >>> ((6 : Int32) &&& 31).toUInt32).toInt32) &&& (15 : Int32))), .val (.int fl), .val (.ref f5), .val (.ref ww), .val (.ref al), .unset] [])) _
                refine OGo.step (fun _ kk => XS.iloadN X348.here hx rfl (hb hby at_156) rfl kk) ?_
                refine OGo.step (fun _ kk => XS.iconst X348.here hx rfl (hb hby at_157) kk) ?_
                show OGo p e below (T348.setTop (mkF m 158 #[.val (.int p1), .val (.int p2), .val (.int p3), .val (.int (4 : Int32)), .val (.int (((p1.toUInt32 >>> ((3 : Int32) &&& 31).toUInt32).toInt32) &&& (7 : Int32))), .val (.int (((p1.toUInt32 >>> ((6 : Int32) &&& 31).toUInt32).toInt32) &&& (15 : Int32))), .val (.int fl), .val (.ref f5), .val (.ref ww), .val (.ref al), .unset] [(.int (5 : Int32)), (.int (4 : Int32))])) _
                refine OGo.step (fun _ kk => XS.icmpYes X348.here hx rfl (pc0 := 158) (pc' := 171) rfl (hb hby at_158) rfl (flt (by decide)).2.2.2 (by decide) (by decide) kk) ?_
                show OGo p e below (T348.setTop (mkF m 171 #[.val (.int p1), .val (.int p2), .val (.int p3), .val (.int (4 : Int32)), .val (.int (((p1.toUInt32 >>> ((3 : Int32) &&& 31).toUInt32).toInt32) &&& (7 : Int32))), .val (.int (((p1.toUInt32 >>> ((6 : Int32) &&& 31).toUInt32).toInt32) &&& (15 : Int32))), .val (.int fl), .val (.ref f5), .val (.ref ww), .val (.ref al), .unset] [])) _
                refine OGo.step (fun _ kk => XS.iloadN X348.here hx rfl (hb hby at_171) rfl kk) ?_
                refine OGo.step (fun _ kk => XS.bipush X348.here hx rfl (hb hby at_172) kk) ?_
                show OGo p e below (T348.setTop (mkF m 174 #[.val (.int p1), .val (.int p2), .val (.int p3), .val (.int (4 : Int32)), .val (.int (((p1.toUInt32 >>> ((3 : Int32) &&& 31).toUInt32).toInt32) &&& (7 : Int32))), .val (.int (((p1.toUInt32 >>> ((6 : Int32) &&& 31).toUInt32).toInt32) &&& (15 : Int32))), .val (.int fl), .val (.ref f5), .val (.ref ww), .val (.ref al), .unset] [(.int (6 : Int32)), (.int (4 : Int32))])) _
                refine OGo.step (fun _ kk => XS.icmpYes X348.here hx rfl (pc0 := 174) (pc' := 187) rfl (hb hby at_174) rfl (flt (by decide)).2.2.2 (by decide) (by decide) kk) ?_
                show OGo p e below (T348.setTop (mkF m 187 #[.val (.int p1), .val (.int p2), .val (.int p3), .val (.int (4 : Int32)), .val (.int (((p1.toUInt32 >>> ((3 : Int32) &&& 31).toUInt32).toInt32) &&& (7 : Int32))), .val (.int (((p1.toUInt32 >>> ((6 : Int32) &&& 31).toUInt32).toInt32) &&& (15 : Int32))), .val (.int fl), .val (.ref f5), .val (.ref ww), .val (.ref al), .unset] [])) _
                refine OGo.step (fun _ kk => XS.iloadN X348.here hx rfl (hb hby at_187) rfl kk) ?_
                refine OGo.step (fun _ kk => XS.iconst X348.here hx rfl (hb hby at_188) kk) ?_
                show OGo p e below (T348.setTop (mkF m 189 #[.val (.int p1), .val (.int p2), .val (.int p3), .val (.int (4 : Int32)), .val (.int (((p1.toUInt32 >>> ((3 : Int32) &&& 31).toUInt32).toInt32) &&& (7 : Int32))), .val (.int (((p1.toUInt32 >>> ((6 : Int32) &&& 31).toUInt32).toInt32) &&& (15 : Int32))), .val (.int fl), .val (.ref f5), .val (.ref ww), .val (.ref al), .unset] [(.int (4 : Int32)), (.int (4 : Int32))])) _
                refine OGo.step (fun _ kk => XS.icmpYes X348.here hx rfl (pc0 := 189) (pc' := 206) rfl (hb hby at_189) rfl (teq rfl).1 (by decide) (by decide) kk) ?_
                show OGo p e below (T348.setTop (mkF m 206 #[.val (.int p1), .val (.int p2), .val (.int p3), .val (.int (4 : Int32)), .val (.int (((p1.toUInt32 >>> ((3 : Int32) &&& 31).toUInt32).toInt32) &&& (7 : Int32))), .val (.int (((p1.toUInt32 >>> ((6 : Int32) &&& 31).toUInt32).toInt32) &&& (15 : Int32))), .val (.int fl), .val (.ref f5), .val (.ref ww), .val (.ref al), .unset] [])) _
                refine OGo.step (fun _ kk => XS.iconst X348.here hx rfl (hb hby at_206) kk) ?_
                refine OGo.step (fun _ kk => XS.goto X348.here hx rfl (pc0 := 207) (pc' := 211) rfl (hb hby at_207) (by decide) (by decide) kk) ?_
                refine OGo.step (fun _ kk => XS.istore X348.here hx rfl (hb hby at_211) rfl (l' := #[.val (.int p1), .val (.int p2), .val (.int p3), .val (.int (4 : Int32)), .val (.int (((p1.toUInt32 >>> ((3 : Int32) &&& 31).toUInt32).toInt32) &&& (7 : Int32))), .val (.int (((p1.toUInt32 >>> ((6 : Int32) &&& 31).toUInt32).toInt32) &&& (15 : Int32))), .val (.int fl), .val (.ref f5), .val (.ref ww), .val (.ref al), .val (.int (1 : Int32))]) rfl kk) ?_
                refine OGo.step (fun _ kk => XS.aload X348.here hx rfl (hb hby at_213) rfl rfl kk) ?_
                show OGo p e below (T348.setTop (mkF m 215 #[.val (.int p1), .val (.int p2), .val (.int p3), .val (.int (4 : Int32)), .val (.int (((p1.toUInt32 >>> ((3 : Int32) &&& 31).toUInt32).toInt32) &&& (7 : Int32))), .val (.int (((p1.toUInt32 >>> ((6 : Int32) &&& 31).toUInt32).toInt32) &&& (15 : Int32))), .val (.int fl), .val (.ref f5), .val (.ref ww), .val (.ref al), .val (.int (1 : Int32))] [(.ref al)])) _
                refine own_callSW X348 hx hZ (y := (⟨"com/example/tags_to_grants/tagstogrants/cli/TagsToGrants", "isOneRequest", "(Ljava/util/List;)Z"⟩ : MethodName)) hown (hw _ (List.mem_of_getElem? (i := 57) rfl)) (hw _ (List.mem_of_getElem? (i := 58) rfl)) (hw _ (List.mem_of_getElem? (i := 59) rfl)) (hw _ (List.mem_of_getElem? (i := 60) rfl)) (by decide) hEL OW350 (W := 0) (own_one4 l Z a0 hw [] al T348.heap n0 sz348 f1348 f3348) rfl  (pc := 215) (Ls := #[.val (.int p1), .val (.int p2), .val (.int p3), .val (.int (4 : Int32)), .val (.int (((p1.toUInt32 >>> ((3 : Int32) &&& 31).toUInt32).toInt32) &&& (7 : Int32))), .val (.int (((p1.toUInt32 >>> ((6 : Int32) &&& 31).toUInt32).toInt32) &&& (15 : Int32))), .val (.int fl), .val (.ref f5), .val (.ref ww), .val (.ref al), .val (.int (1 : Int32))]) (argsL := [(.ref al)]) (rest := []) (by rw [hml]; rfl) (lenOf own_pd13 rfl) rfl (hb hby at_215) (by decide) (by decide) (by decide) (by decide) ?_
                intro v392 T392 L392 X392 hQ392 OW392 hZ hown CH392
                obtain ⟨rfl, N392, Xe392⟩ := hQ392
                have sf393 := CH392.safe (f5_348).lt sf349
                show OGo p e below (T392.setTop (mkF m 218 #[.val (.int p1), .val (.int p2), .val (.int p3), .val (.int (4 : Int32)), .val (.int (((p1.toUInt32 >>> ((3 : Int32) &&& 31).toUInt32).toInt32) &&& (7 : Int32))), .val (.int (((p1.toUInt32 >>> ((6 : Int32) &&& 31).toUInt32).toInt32) &&& (15 : Int32))), .val (.int fl), .val (.ref f5), .val (.ref ww), .val (.ref al), .val (.int (1 : Int32))] [(.int (1 : Int32))])) _
                have Nc392 := Fr.app Nc348 N392
                have sz392 : n0 ≤ T392.heap.size := Nat.le_trans sz348 Xe392.1
                refine OGo.step (fun _ kk => XS.iload X392.here hx rfl (hb hby at_218) rfl kk) ?_
                show OGo p e below (T392.setTop (mkF m 220 #[.val (.int p1), .val (.int p2), .val (.int p3), .val (.int (4 : Int32)), .val (.int (((p1.toUInt32 >>> ((3 : Int32) &&& 31).toUInt32).toInt32) &&& (7 : Int32))), .val (.int (((p1.toUInt32 >>> ((6 : Int32) &&& 31).toUInt32).toInt32) &&& (15 : Int32))), .val (.int fl), .val (.ref f5), .val (.ref ww), .val (.ref al), .val (.int (1 : Int32))] [(.int (1 : Int32)), (.int (1 : Int32))])) _
                refine OGo.step (fun _ kk => XS.icmpNo X392.here hx rfl (hb hby at_220) rfl (teq rfl).2 kk) ?_
                show OGo p e below (T392.setTop (mkF m 223 #[.val (.int p1), .val (.int p2), .val (.int p3), .val (.int (4 : Int32)), .val (.int (((p1.toUInt32 >>> ((3 : Int32) &&& 31).toUInt32).toInt32) &&& (7 : Int32))), .val (.int (((p1.toUInt32 >>> ((6 : Int32) &&& 31).toUInt32).toInt32) &&& (15 : Int32))), .val (.int fl), .val (.ref f5), .val (.ref ww), .val (.ref al), .val (.int (1 : Int32))] [])) _
                refine OGo.step (fun _ kk => XS.iconst X392.here hx rfl (hb hby at_223) kk) ?_
                refine OGo.step (fun _ kk => XS.goto X392.here hx rfl (pc0 := 224) (pc' := 228) rfl (hb hby at_224) (by decide) (by decide) kk) ?_
                show OGo p e below (T392.setTop (mkF m 228 #[.val (.int p1), .val (.int p2), .val (.int p3), .val (.int (4 : Int32)), .val (.int (((p1.toUInt32 >>> ((3 : Int32) &&& 31).toUInt32).toInt32) &&& (7 : Int32))), .val (.int (((p1.toUInt32 >>> ((6 : Int32) &&& 31).toUInt32).toInt32) &&& (15 : Int32))), .val (.int fl), .val (.ref f5), .val (.ref ww), .val (.ref al), .val (.int (1 : Int32))] [(.int (1 : Int32))])) _
                exact own_retNW X392 hx hlk hEL OW392 rfl hret (by simp) (hb hby at_228) ⟨by rw [own_nar1], Nc392⟩ (by decide) (by decide)
            · refine OGo.step (fun _ kk => XS.icmpYes X343.here hx rfl (pc0 := 128) (pc' := 141) rfl (hb hby at_128) rfl (flt hf3).2.2.2 (by decide) (by decide) kk) ?_
              show OGo p e below (T343.setTop (mkF m 141 #[.val (.int p1), .val (.int p2), .val (.int p3), .val (.int nn), .val (.int (((p1.toUInt32 >>> ((3 : Int32) &&& 31).toUInt32).toInt32) &&& (7 : Int32))), .val (.int (((p1.toUInt32 >>> ((6 : Int32) &&& 31).toUInt32).toInt32) &&& (15 : Int32))), .val (.int fl), .val (.ref f5), .val (.ref ww), .val (.ref al), .unset] [])) _
              obtain rfl := own_sk3 h8 hf2 hf3
              show OGo p e below (T343.setTop (mkF m 141 #[.val (.int p1), .val (.int p2), .val (.int p3), .val (.int (3 : Int32)), .val (.int (((p1.toUInt32 >>> ((3 : Int32) &&& 31).toUInt32).toInt32) &&& (7 : Int32))), .val (.int (((p1.toUInt32 >>> ((6 : Int32) &&& 31).toUInt32).toInt32) &&& (15 : Int32))), .val (.int fl), .val (.ref f5), .val (.ref ww), .val (.ref al), .unset] [])) _
              refine OGo.step (fun _ kk => XS.iloadN X343.here hx rfl (hb hby at_141) rfl kk) ?_
              refine OGo.step (fun _ kk => XS.iconst X343.here hx rfl (hb hby at_142) kk) ?_
              show OGo p e below (T343.setTop (mkF m 143 #[.val (.int p1), .val (.int p2), .val (.int p3), .val (.int (3 : Int32)), .val (.int (((p1.toUInt32 >>> ((3 : Int32) &&& 31).toUInt32).toInt32) &&& (7 : Int32))), .val (.int (((p1.toUInt32 >>> ((6 : Int32) &&& 31).toUInt32).toInt32) &&& (15 : Int32))), .val (.int fl), .val (.ref f5), .val (.ref ww), .val (.ref al), .unset] [(.int (4 : Int32)), (.int (3 : Int32))])) _
              refine OGo.step (fun _ kk => XS.icmpYes X343.here hx rfl (pc0 := 143) (pc' := 156) rfl (hb hby at_143) rfl (flt (by decide)).2.2.2 (by decide) (by decide) kk) ?_
              show OGo p e below (T343.setTop (mkF m 156 #[.val (.int p1), .val (.int p2), .val (.int p3), .val (.int (3 : Int32)), .val (.int (((p1.toUInt32 >>> ((3 : Int32) &&& 31).toUInt32).toInt32) &&& (7 : Int32))), .val (.int (((p1.toUInt32 >>> ((6 : Int32) &&& 31).toUInt32).toInt32) &&& (15 : Int32))), .val (.int fl), .val (.ref f5), .val (.ref ww), .val (.ref al), .unset] [])) _
              refine OGo.step (fun _ kk => XS.iloadN X343.here hx rfl (hb hby at_156) rfl kk) ?_
              refine OGo.step (fun _ kk => XS.iconst X343.here hx rfl (hb hby at_157) kk) ?_
              show OGo p e below (T343.setTop (mkF m 158 #[.val (.int p1), .val (.int p2), .val (.int p3), .val (.int (3 : Int32)), .val (.int (((p1.toUInt32 >>> ((3 : Int32) &&& 31).toUInt32).toInt32) &&& (7 : Int32))), .val (.int (((p1.toUInt32 >>> ((6 : Int32) &&& 31).toUInt32).toInt32) &&& (15 : Int32))), .val (.int fl), .val (.ref f5), .val (.ref ww), .val (.ref al), .unset] [(.int (5 : Int32)), (.int (3 : Int32))])) _
              refine OGo.step (fun _ kk => XS.icmpYes X343.here hx rfl (pc0 := 158) (pc' := 171) rfl (hb hby at_158) rfl (flt (by decide)).2.2.2 (by decide) (by decide) kk) ?_
              show OGo p e below (T343.setTop (mkF m 171 #[.val (.int p1), .val (.int p2), .val (.int p3), .val (.int (3 : Int32)), .val (.int (((p1.toUInt32 >>> ((3 : Int32) &&& 31).toUInt32).toInt32) &&& (7 : Int32))), .val (.int (((p1.toUInt32 >>> ((6 : Int32) &&& 31).toUInt32).toInt32) &&& (15 : Int32))), .val (.int fl), .val (.ref f5), .val (.ref ww), .val (.ref al), .unset] [])) _
              refine OGo.step (fun _ kk => XS.iloadN X343.here hx rfl (hb hby at_171) rfl kk) ?_
              refine OGo.step (fun _ kk => XS.bipush X343.here hx rfl (hb hby at_172) kk) ?_
              show OGo p e below (T343.setTop (mkF m 174 #[.val (.int p1), .val (.int p2), .val (.int p3), .val (.int (3 : Int32)), .val (.int (((p1.toUInt32 >>> ((3 : Int32) &&& 31).toUInt32).toInt32) &&& (7 : Int32))), .val (.int (((p1.toUInt32 >>> ((6 : Int32) &&& 31).toUInt32).toInt32) &&& (15 : Int32))), .val (.int fl), .val (.ref f5), .val (.ref ww), .val (.ref al), .unset] [(.int (6 : Int32)), (.int (3 : Int32))])) _
              refine OGo.step (fun _ kk => XS.icmpYes X343.here hx rfl (pc0 := 174) (pc' := 187) rfl (hb hby at_174) rfl (flt (by decide)).2.2.2 (by decide) (by decide) kk) ?_
              show OGo p e below (T343.setTop (mkF m 187 #[.val (.int p1), .val (.int p2), .val (.int p3), .val (.int (3 : Int32)), .val (.int (((p1.toUInt32 >>> ((3 : Int32) &&& 31).toUInt32).toInt32) &&& (7 : Int32))), .val (.int (((p1.toUInt32 >>> ((6 : Int32) &&& 31).toUInt32).toInt32) &&& (15 : Int32))), .val (.int fl), .val (.ref f5), .val (.ref ww), .val (.ref al), .unset] [])) _
              refine OGo.step (fun _ kk => XS.iloadN X343.here hx rfl (hb hby at_187) rfl kk) ?_
              refine OGo.step (fun _ kk => XS.iconst X343.here hx rfl (hb hby at_188) kk) ?_
              show OGo p e below (T343.setTop (mkF m 189 #[.val (.int p1), .val (.int p2), .val (.int p3), .val (.int (3 : Int32)), .val (.int (((p1.toUInt32 >>> ((3 : Int32) &&& 31).toUInt32).toInt32) &&& (7 : Int32))), .val (.int (((p1.toUInt32 >>> ((6 : Int32) &&& 31).toUInt32).toInt32) &&& (15 : Int32))), .val (.int fl), .val (.ref f5), .val (.ref ww), .val (.ref al), .unset] [(.int (4 : Int32)), (.int (3 : Int32))])) _
              refine OGo.step (fun _ kk => XS.icmpNo X343.here hx rfl (hb hby at_189) rfl (feq (by decide)).1 kk) ?_
              show OGo p e below (T343.setTop (mkF m 192 #[.val (.int p1), .val (.int p2), .val (.int p3), .val (.int (3 : Int32)), .val (.int (((p1.toUInt32 >>> ((3 : Int32) &&& 31).toUInt32).toInt32) &&& (7 : Int32))), .val (.int (((p1.toUInt32 >>> ((6 : Int32) &&& 31).toUInt32).toInt32) &&& (15 : Int32))), .val (.int fl), .val (.ref f5), .val (.ref ww), .val (.ref al), .unset] [])) _
              refine OGo.step (fun _ kk => XS.iloadN X343.here hx rfl (hb hby at_192) rfl kk) ?_
              refine OGo.step (fun _ kk => XS.bipush X343.here hx rfl (hb hby at_193) kk) ?_
              show OGo p e below (T343.setTop (mkF m 195 #[.val (.int p1), .val (.int p2), .val (.int p3), .val (.int (3 : Int32)), .val (.int (((p1.toUInt32 >>> ((3 : Int32) &&& 31).toUInt32).toInt32) &&& (7 : Int32))), .val (.int (((p1.toUInt32 >>> ((6 : Int32) &&& 31).toUInt32).toInt32) &&& (15 : Int32))), .val (.int fl), .val (.ref f5), .val (.ref ww), .val (.ref al), .unset] [(.int (6 : Int32)), (.int (3 : Int32))])) _
              refine OGo.step (fun _ kk => XS.icmpYes X343.here hx rfl (pc0 := 195) (pc' := 210) rfl (hb hby at_195) rfl (feq (by decide)).2 (by decide) (by decide) kk) ?_
              show OGo p e below (T343.setTop (mkF m 210 #[.val (.int p1), .val (.int p2), .val (.int p3), .val (.int (3 : Int32)), .val (.int (((p1.toUInt32 >>> ((3 : Int32) &&& 31).toUInt32).toInt32) &&& (7 : Int32))), .val (.int (((p1.toUInt32 >>> ((6 : Int32) &&& 31).toUInt32).toInt32) &&& (15 : Int32))), .val (.int fl), .val (.ref f5), .val (.ref ww), .val (.ref al), .unset] [])) _
              refine OGo.step (fun _ kk => XS.iconst X343.here hx rfl (hb hby at_210) kk) ?_
              refine OGo.step (fun _ kk => XS.istore X343.here hx rfl (hb hby at_211) rfl (l' := #[.val (.int p1), .val (.int p2), .val (.int p3), .val (.int (3 : Int32)), .val (.int (((p1.toUInt32 >>> ((3 : Int32) &&& 31).toUInt32).toInt32) &&& (7 : Int32))), .val (.int (((p1.toUInt32 >>> ((6 : Int32) &&& 31).toUInt32).toInt32) &&& (15 : Int32))), .val (.int fl), .val (.ref f5), .val (.ref ww), .val (.ref al), .val (.int (0 : Int32))]) rfl kk) ?_
              refine OGo.step (fun _ kk => XS.aload X343.here hx rfl (hb hby at_213) rfl rfl kk) ?_
              show OGo p e below (T343.setTop (mkF m 215 #[.val (.int p1), .val (.int p2), .val (.int p3), .val (.int (3 : Int32)), .val (.int (((p1.toUInt32 >>> ((3 : Int32) &&& 31).toUInt32).toInt32) &&& (7 : Int32))), .val (.int (((p1.toUInt32 >>> ((6 : Int32) &&& 31).toUInt32).toInt32) &&& (15 : Int32))), .val (.int fl), .val (.ref f5), .val (.ref ww), .val (.ref al), .val (.int (0 : Int32))] [(.ref al)])) _
              refine own_callSW X343 hx hZ (y := (⟨"com/example/tags_to_grants/tagstogrants/cli/TagsToGrants", "isOneRequest", "(Ljava/util/List;)Z"⟩ : MethodName)) hown (hw _ (List.mem_of_getElem? (i := 57) rfl)) (hw _ (List.mem_of_getElem? (i := 58) rfl)) (hw _ (List.mem_of_getElem? (i := 59) rfl)) (hw _ (List.mem_of_getElem? (i := 60) rfl)) (by decide) hEL OW345 (W := 0) (own_one3 l Z a0 hw [] al T343.heap n0 sz343 f1343 f3343) rfl  (pc := 215) (Ls := #[.val (.int p1), .val (.int p2), .val (.int p3), .val (.int (3 : Int32)), .val (.int (((p1.toUInt32 >>> ((3 : Int32) &&& 31).toUInt32).toInt32) &&& (7 : Int32))), .val (.int (((p1.toUInt32 >>> ((6 : Int32) &&& 31).toUInt32).toInt32) &&& (15 : Int32))), .val (.int fl), .val (.ref f5), .val (.ref ww), .val (.ref al), .val (.int (0 : Int32))]) (argsL := [(.ref al)]) (rest := []) (by rw [hml]; rfl) (lenOf own_pd13 rfl) rfl (hb hby at_215) (by decide) (by decide) (by decide) (by decide) ?_
              intro v394 T394 L394 X394 hQ394 OW394 hZ hown CH394
              obtain ⟨rfl, N394, Xe394⟩ := hQ394
              have sf395 := CH394.safe (f5_343).lt sf344
              show OGo p e below (T394.setTop (mkF m 218 #[.val (.int p1), .val (.int p2), .val (.int p3), .val (.int (3 : Int32)), .val (.int (((p1.toUInt32 >>> ((3 : Int32) &&& 31).toUInt32).toInt32) &&& (7 : Int32))), .val (.int (((p1.toUInt32 >>> ((6 : Int32) &&& 31).toUInt32).toInt32) &&& (15 : Int32))), .val (.int fl), .val (.ref f5), .val (.ref ww), .val (.ref al), .val (.int (0 : Int32))] [(.int (0 : Int32))])) _
              have Nc394 := Fr.app Nc343 N394
              have sz394 : n0 ≤ T394.heap.size := Nat.le_trans sz343 Xe394.1
              refine OGo.step (fun _ kk => XS.iload X394.here hx rfl (hb hby at_218) rfl kk) ?_
              show OGo p e below (T394.setTop (mkF m 220 #[.val (.int p1), .val (.int p2), .val (.int p3), .val (.int (3 : Int32)), .val (.int (((p1.toUInt32 >>> ((3 : Int32) &&& 31).toUInt32).toInt32) &&& (7 : Int32))), .val (.int (((p1.toUInt32 >>> ((6 : Int32) &&& 31).toUInt32).toInt32) &&& (15 : Int32))), .val (.int fl), .val (.ref f5), .val (.ref ww), .val (.ref al), .val (.int (0 : Int32))] [(.int (0 : Int32)), (.int (0 : Int32))])) _
              refine OGo.step (fun _ kk => XS.icmpNo X394.here hx rfl (hb hby at_220) rfl (teq rfl).2 kk) ?_
              show OGo p e below (T394.setTop (mkF m 223 #[.val (.int p1), .val (.int p2), .val (.int p3), .val (.int (3 : Int32)), .val (.int (((p1.toUInt32 >>> ((3 : Int32) &&& 31).toUInt32).toInt32) &&& (7 : Int32))), .val (.int (((p1.toUInt32 >>> ((6 : Int32) &&& 31).toUInt32).toInt32) &&& (15 : Int32))), .val (.int fl), .val (.ref f5), .val (.ref ww), .val (.ref al), .val (.int (0 : Int32))] [])) _
              refine OGo.step (fun _ kk => XS.iconst X394.here hx rfl (hb hby at_223) kk) ?_
              refine OGo.step (fun _ kk => XS.goto X394.here hx rfl (pc0 := 224) (pc' := 228) rfl (hb hby at_224) (by decide) (by decide) kk) ?_
              show OGo p e below (T394.setTop (mkF m 228 #[.val (.int p1), .val (.int p2), .val (.int p3), .val (.int (3 : Int32)), .val (.int (((p1.toUInt32 >>> ((3 : Int32) &&& 31).toUInt32).toInt32) &&& (7 : Int32))), .val (.int (((p1.toUInt32 >>> ((6 : Int32) &&& 31).toUInt32).toInt32) &&& (15 : Int32))), .val (.int fl), .val (.ref f5), .val (.ref ww), .val (.ref al), .val (.int (0 : Int32))] [(.int (1 : Int32))])) _
              exact own_retNW X394 hx hlk hEL OW394 rfl hret (by simp) (hb hby at_228) ⟨by rw [own_nar1], Nc394⟩ (by decide) (by decide)
          · refine OGo.step (fun _ kk => XS.icmpYes X338.here hx rfl (pc0 := 113) (pc' := 126) rfl (hb hby at_113) rfl (flt hf2).2.2.2 (by decide) (by decide) kk) ?_
            show OGo p e below (T338.setTop (mkF m 126 #[.val (.int p1), .val (.int p2), .val (.int p3), .val (.int nn), .val (.int (((p1.toUInt32 >>> ((3 : Int32) &&& 31).toUInt32).toInt32) &&& (7 : Int32))), .val (.int (((p1.toUInt32 >>> ((6 : Int32) &&& 31).toUInt32).toInt32) &&& (15 : Int32))), .val (.int fl), .val (.ref f5), .val (.ref ww), .val (.ref al), .unset] [])) _
            obtain rfl := own_sk2 h8 hf1 hf2
            show OGo p e below (T338.setTop (mkF m 126 #[.val (.int p1), .val (.int p2), .val (.int p3), .val (.int (2 : Int32)), .val (.int (((p1.toUInt32 >>> ((3 : Int32) &&& 31).toUInt32).toInt32) &&& (7 : Int32))), .val (.int (((p1.toUInt32 >>> ((6 : Int32) &&& 31).toUInt32).toInt32) &&& (15 : Int32))), .val (.int fl), .val (.ref f5), .val (.ref ww), .val (.ref al), .unset] [])) _
            refine OGo.step (fun _ kk => XS.iloadN X338.here hx rfl (hb hby at_126) rfl kk) ?_
            refine OGo.step (fun _ kk => XS.iconst X338.here hx rfl (hb hby at_127) kk) ?_
            show OGo p e below (T338.setTop (mkF m 128 #[.val (.int p1), .val (.int p2), .val (.int p3), .val (.int (2 : Int32)), .val (.int (((p1.toUInt32 >>> ((3 : Int32) &&& 31).toUInt32).toInt32) &&& (7 : Int32))), .val (.int (((p1.toUInt32 >>> ((6 : Int32) &&& 31).toUInt32).toInt32) &&& (15 : Int32))), .val (.int fl), .val (.ref f5), .val (.ref ww), .val (.ref al), .unset] [(.int (3 : Int32)), (.int (2 : Int32))])) _
            refine OGo.step (fun _ kk => XS.icmpYes X338.here hx rfl (pc0 := 128) (pc' := 141) rfl (hb hby at_128) rfl (flt (by decide)).2.2.2 (by decide) (by decide) kk) ?_
            show OGo p e below (T338.setTop (mkF m 141 #[.val (.int p1), .val (.int p2), .val (.int p3), .val (.int (2 : Int32)), .val (.int (((p1.toUInt32 >>> ((3 : Int32) &&& 31).toUInt32).toInt32) &&& (7 : Int32))), .val (.int (((p1.toUInt32 >>> ((6 : Int32) &&& 31).toUInt32).toInt32) &&& (15 : Int32))), .val (.int fl), .val (.ref f5), .val (.ref ww), .val (.ref al), .unset] [])) _
            refine OGo.step (fun _ kk => XS.iloadN X338.here hx rfl (hb hby at_141) rfl kk) ?_
            refine OGo.step (fun _ kk => XS.iconst X338.here hx rfl (hb hby at_142) kk) ?_
            show OGo p e below (T338.setTop (mkF m 143 #[.val (.int p1), .val (.int p2), .val (.int p3), .val (.int (2 : Int32)), .val (.int (((p1.toUInt32 >>> ((3 : Int32) &&& 31).toUInt32).toInt32) &&& (7 : Int32))), .val (.int (((p1.toUInt32 >>> ((6 : Int32) &&& 31).toUInt32).toInt32) &&& (15 : Int32))), .val (.int fl), .val (.ref f5), .val (.ref ww), .val (.ref al), .unset] [(.int (4 : Int32)), (.int (2 : Int32))])) _
            refine OGo.step (fun _ kk => XS.icmpYes X338.here hx rfl (pc0 := 143) (pc' := 156) rfl (hb hby at_143) rfl (flt (by decide)).2.2.2 (by decide) (by decide) kk) ?_
            show OGo p e below (T338.setTop (mkF m 156 #[.val (.int p1), .val (.int p2), .val (.int p3), .val (.int (2 : Int32)), .val (.int (((p1.toUInt32 >>> ((3 : Int32) &&& 31).toUInt32).toInt32) &&& (7 : Int32))), .val (.int (((p1.toUInt32 >>> ((6 : Int32) &&& 31).toUInt32).toInt32) &&& (15 : Int32))), .val (.int fl), .val (.ref f5), .val (.ref ww), .val (.ref al), .unset] [])) _
            refine OGo.step (fun _ kk => XS.iloadN X338.here hx rfl (hb hby at_156) rfl kk) ?_
            refine OGo.step (fun _ kk => XS.iconst X338.here hx rfl (hb hby at_157) kk) ?_
            show OGo p e below (T338.setTop (mkF m 158 #[.val (.int p1), .val (.int p2), .val (.int p3), .val (.int (2 : Int32)), .val (.int (((p1.toUInt32 >>> ((3 : Int32) &&& 31).toUInt32).toInt32) &&& (7 : Int32))), .val (.int (((p1.toUInt32 >>> ((6 : Int32) &&& 31).toUInt32).toInt32) &&& (15 : Int32))), .val (.int fl), .val (.ref f5), .val (.ref ww), .val (.ref al), .unset] [(.int (5 : Int32)), (.int (2 : Int32))])) _
            refine OGo.step (fun _ kk => XS.icmpYes X338.here hx rfl (pc0 := 158) (pc' := 171) rfl (hb hby at_158) rfl (flt (by decide)).2.2.2 (by decide) (by decide) kk) ?_
            show OGo p e below (T338.setTop (mkF m 171 #[.val (.int p1), .val (.int p2), .val (.int p3), .val (.int (2 : Int32)), .val (.int (((p1.toUInt32 >>> ((3 : Int32) &&& 31).toUInt32).toInt32) &&& (7 : Int32))), .val (.int (((p1.toUInt32 >>> ((6 : Int32) &&& 31).toUInt32).toInt32) &&& (15 : Int32))), .val (.int fl), .val (.ref f5), .val (.ref ww), .val (.ref al), .unset] [])) _
            refine OGo.step (fun _ kk => XS.iloadN X338.here hx rfl (hb hby at_171) rfl kk) ?_
            refine OGo.step (fun _ kk => XS.bipush X338.here hx rfl (hb hby at_172) kk) ?_
            show OGo p e below (T338.setTop (mkF m 174 #[.val (.int p1), .val (.int p2), .val (.int p3), .val (.int (2 : Int32)), .val (.int (((p1.toUInt32 >>> ((3 : Int32) &&& 31).toUInt32).toInt32) &&& (7 : Int32))), .val (.int (((p1.toUInt32 >>> ((6 : Int32) &&& 31).toUInt32).toInt32) &&& (15 : Int32))), .val (.int fl), .val (.ref f5), .val (.ref ww), .val (.ref al), .unset] [(.int (6 : Int32)), (.int (2 : Int32))])) _
            refine OGo.step (fun _ kk => XS.icmpYes X338.here hx rfl (pc0 := 174) (pc' := 187) rfl (hb hby at_174) rfl (flt (by decide)).2.2.2 (by decide) (by decide) kk) ?_
            show OGo p e below (T338.setTop (mkF m 187 #[.val (.int p1), .val (.int p2), .val (.int p3), .val (.int (2 : Int32)), .val (.int (((p1.toUInt32 >>> ((3 : Int32) &&& 31).toUInt32).toInt32) &&& (7 : Int32))), .val (.int (((p1.toUInt32 >>> ((6 : Int32) &&& 31).toUInt32).toInt32) &&& (15 : Int32))), .val (.int fl), .val (.ref f5), .val (.ref ww), .val (.ref al), .unset] [])) _
            refine OGo.step (fun _ kk => XS.iloadN X338.here hx rfl (hb hby at_187) rfl kk) ?_
            refine OGo.step (fun _ kk => XS.iconst X338.here hx rfl (hb hby at_188) kk) ?_
            show OGo p e below (T338.setTop (mkF m 189 #[.val (.int p1), .val (.int p2), .val (.int p3), .val (.int (2 : Int32)), .val (.int (((p1.toUInt32 >>> ((3 : Int32) &&& 31).toUInt32).toInt32) &&& (7 : Int32))), .val (.int (((p1.toUInt32 >>> ((6 : Int32) &&& 31).toUInt32).toInt32) &&& (15 : Int32))), .val (.int fl), .val (.ref f5), .val (.ref ww), .val (.ref al), .unset] [(.int (4 : Int32)), (.int (2 : Int32))])) _
            refine OGo.step (fun _ kk => XS.icmpNo X338.here hx rfl (hb hby at_189) rfl (feq (by decide)).1 kk) ?_
            show OGo p e below (T338.setTop (mkF m 192 #[.val (.int p1), .val (.int p2), .val (.int p3), .val (.int (2 : Int32)), .val (.int (((p1.toUInt32 >>> ((3 : Int32) &&& 31).toUInt32).toInt32) &&& (7 : Int32))), .val (.int (((p1.toUInt32 >>> ((6 : Int32) &&& 31).toUInt32).toInt32) &&& (15 : Int32))), .val (.int fl), .val (.ref f5), .val (.ref ww), .val (.ref al), .unset] [])) _
            refine OGo.step (fun _ kk => XS.iloadN X338.here hx rfl (hb hby at_192) rfl kk) ?_
            refine OGo.step (fun _ kk => XS.bipush X338.here hx rfl (hb hby at_193) kk) ?_
            show OGo p e below (T338.setTop (mkF m 195 #[.val (.int p1), .val (.int p2), .val (.int p3), .val (.int (2 : Int32)), .val (.int (((p1.toUInt32 >>> ((3 : Int32) &&& 31).toUInt32).toInt32) &&& (7 : Int32))), .val (.int (((p1.toUInt32 >>> ((6 : Int32) &&& 31).toUInt32).toInt32) &&& (15 : Int32))), .val (.int fl), .val (.ref f5), .val (.ref ww), .val (.ref al), .unset] [(.int (6 : Int32)), (.int (2 : Int32))])) _
            refine OGo.step (fun _ kk => XS.icmpYes X338.here hx rfl (pc0 := 195) (pc' := 210) rfl (hb hby at_195) rfl (feq (by decide)).2 (by decide) (by decide) kk) ?_
            show OGo p e below (T338.setTop (mkF m 210 #[.val (.int p1), .val (.int p2), .val (.int p3), .val (.int (2 : Int32)), .val (.int (((p1.toUInt32 >>> ((3 : Int32) &&& 31).toUInt32).toInt32) &&& (7 : Int32))), .val (.int (((p1.toUInt32 >>> ((6 : Int32) &&& 31).toUInt32).toInt32) &&& (15 : Int32))), .val (.int fl), .val (.ref f5), .val (.ref ww), .val (.ref al), .unset] [])) _
            refine OGo.step (fun _ kk => XS.iconst X338.here hx rfl (hb hby at_210) kk) ?_
            refine OGo.step (fun _ kk => XS.istore X338.here hx rfl (hb hby at_211) rfl (l' := #[.val (.int p1), .val (.int p2), .val (.int p3), .val (.int (2 : Int32)), .val (.int (((p1.toUInt32 >>> ((3 : Int32) &&& 31).toUInt32).toInt32) &&& (7 : Int32))), .val (.int (((p1.toUInt32 >>> ((6 : Int32) &&& 31).toUInt32).toInt32) &&& (15 : Int32))), .val (.int fl), .val (.ref f5), .val (.ref ww), .val (.ref al), .val (.int (0 : Int32))]) rfl kk) ?_
            refine OGo.step (fun _ kk => XS.aload X338.here hx rfl (hb hby at_213) rfl rfl kk) ?_
            show OGo p e below (T338.setTop (mkF m 215 #[.val (.int p1), .val (.int p2), .val (.int p3), .val (.int (2 : Int32)), .val (.int (((p1.toUInt32 >>> ((3 : Int32) &&& 31).toUInt32).toInt32) &&& (7 : Int32))), .val (.int (((p1.toUInt32 >>> ((6 : Int32) &&& 31).toUInt32).toInt32) &&& (15 : Int32))), .val (.int fl), .val (.ref f5), .val (.ref ww), .val (.ref al), .val (.int (0 : Int32))] [(.ref al)])) _
            refine own_callSW X338 hx hZ (y := (⟨"com/example/tags_to_grants/tagstogrants/cli/TagsToGrants", "isOneRequest", "(Ljava/util/List;)Z"⟩ : MethodName)) hown (hw _ (List.mem_of_getElem? (i := 57) rfl)) (hw _ (List.mem_of_getElem? (i := 58) rfl)) (hw _ (List.mem_of_getElem? (i := 59) rfl)) (hw _ (List.mem_of_getElem? (i := 60) rfl)) (by decide) hEL OW340 (W := 0) (own_one2 l Z a0 hw [] al T338.heap n0 sz338 f1338 f3338) rfl  (pc := 215) (Ls := #[.val (.int p1), .val (.int p2), .val (.int p3), .val (.int (2 : Int32)), .val (.int (((p1.toUInt32 >>> ((3 : Int32) &&& 31).toUInt32).toInt32) &&& (7 : Int32))), .val (.int (((p1.toUInt32 >>> ((6 : Int32) &&& 31).toUInt32).toInt32) &&& (15 : Int32))), .val (.int fl), .val (.ref f5), .val (.ref ww), .val (.ref al), .val (.int (0 : Int32))]) (argsL := [(.ref al)]) (rest := []) (by rw [hml]; rfl) (lenOf own_pd13 rfl) rfl (hb hby at_215) (by decide) (by decide) (by decide) (by decide) ?_
            intro v396 T396 L396 X396 hQ396 OW396 hZ hown CH396
            obtain ⟨rfl, N396, Xe396⟩ := hQ396
            have sf397 := CH396.safe (f5_338).lt sf339
            show OGo p e below (T396.setTop (mkF m 218 #[.val (.int p1), .val (.int p2), .val (.int p3), .val (.int (2 : Int32)), .val (.int (((p1.toUInt32 >>> ((3 : Int32) &&& 31).toUInt32).toInt32) &&& (7 : Int32))), .val (.int (((p1.toUInt32 >>> ((6 : Int32) &&& 31).toUInt32).toInt32) &&& (15 : Int32))), .val (.int fl), .val (.ref f5), .val (.ref ww), .val (.ref al), .val (.int (0 : Int32))] [(.int (0 : Int32))])) _
            have Nc396 := Fr.app Nc338 N396
            have sz396 : n0 ≤ T396.heap.size := Nat.le_trans sz338 Xe396.1
            refine OGo.step (fun _ kk => XS.iload X396.here hx rfl (hb hby at_218) rfl kk) ?_
            show OGo p e below (T396.setTop (mkF m 220 #[.val (.int p1), .val (.int p2), .val (.int p3), .val (.int (2 : Int32)), .val (.int (((p1.toUInt32 >>> ((3 : Int32) &&& 31).toUInt32).toInt32) &&& (7 : Int32))), .val (.int (((p1.toUInt32 >>> ((6 : Int32) &&& 31).toUInt32).toInt32) &&& (15 : Int32))), .val (.int fl), .val (.ref f5), .val (.ref ww), .val (.ref al), .val (.int (0 : Int32))] [(.int (0 : Int32)), (.int (0 : Int32))])) _
            refine OGo.step (fun _ kk => XS.icmpNo X396.here hx rfl (hb hby at_220) rfl (teq rfl).2 kk) ?_
            show OGo p e below (T396.setTop (mkF m 223 #[.val (.int p1), .val (.int p2), .val (.int p3), .val (.int (2 : Int32)), .val (.int (((p1.toUInt32 >>> ((3 : Int32) &&& 31).toUInt32).toInt32) &&& (7 : Int32))), .val (.int (((p1.toUInt32 >>> ((6 : Int32) &&& 31).toUInt32).toInt32) &&& (15 : Int32))), .val (.int fl), .val (.ref f5), .val (.ref ww), .val (.ref al), .val (.int (0 : Int32))] [])) _
            refine OGo.step (fun _ kk => XS.iconst X396.here hx rfl (hb hby at_223) kk) ?_
            refine OGo.step (fun _ kk => XS.goto X396.here hx rfl (pc0 := 224) (pc' := 228) rfl (hb hby at_224) (by decide) (by decide) kk) ?_
            show OGo p e below (T396.setTop (mkF m 228 #[.val (.int p1), .val (.int p2), .val (.int p3), .val (.int (2 : Int32)), .val (.int (((p1.toUInt32 >>> ((3 : Int32) &&& 31).toUInt32).toInt32) &&& (7 : Int32))), .val (.int (((p1.toUInt32 >>> ((6 : Int32) &&& 31).toUInt32).toInt32) &&& (15 : Int32))), .val (.int fl), .val (.ref f5), .val (.ref ww), .val (.ref al), .val (.int (0 : Int32))] [(.int (1 : Int32))])) _
            exact own_retNW X396 hx hlk hEL OW396 rfl hret (by simp) (hb hby at_228) ⟨by rw [own_nar1], Nc396⟩ (by decide) (by decide)
        · refine OGo.step (fun _ kk => XS.icmpYes X334.here hx rfl (pc0 := 98) (pc' := 111) rfl (hb hby at_98) rfl (flt hf1).2.2.2 (by decide) (by decide) kk) ?_
          show OGo p e below (T334.setTop (mkF m 111 #[.val (.int p1), .val (.int p2), .val (.int p3), .val (.int nn), .val (.int (((p1.toUInt32 >>> ((3 : Int32) &&& 31).toUInt32).toInt32) &&& (7 : Int32))), .val (.int (((p1.toUInt32 >>> ((6 : Int32) &&& 31).toUInt32).toInt32) &&& (15 : Int32))), .val (.int fl), .val (.ref f5), .val (.ref ww), .val (.ref al), .unset] [])) _
          obtain rfl := own_sk1 h8 hf0 hf1
          show OGo p e below (T334.setTop (mkF m 111 #[.val (.int p1), .val (.int p2), .val (.int p3), .val (.int (1 : Int32)), .val (.int (((p1.toUInt32 >>> ((3 : Int32) &&& 31).toUInt32).toInt32) &&& (7 : Int32))), .val (.int (((p1.toUInt32 >>> ((6 : Int32) &&& 31).toUInt32).toInt32) &&& (15 : Int32))), .val (.int fl), .val (.ref f5), .val (.ref ww), .val (.ref al), .unset] [])) _
          refine OGo.step (fun _ kk => XS.iloadN X334.here hx rfl (hb hby at_111) rfl kk) ?_
          refine OGo.step (fun _ kk => XS.iconst X334.here hx rfl (hb hby at_112) kk) ?_
          show OGo p e below (T334.setTop (mkF m 113 #[.val (.int p1), .val (.int p2), .val (.int p3), .val (.int (1 : Int32)), .val (.int (((p1.toUInt32 >>> ((3 : Int32) &&& 31).toUInt32).toInt32) &&& (7 : Int32))), .val (.int (((p1.toUInt32 >>> ((6 : Int32) &&& 31).toUInt32).toInt32) &&& (15 : Int32))), .val (.int fl), .val (.ref f5), .val (.ref ww), .val (.ref al), .unset] [(.int (2 : Int32)), (.int (1 : Int32))])) _
          refine OGo.step (fun _ kk => XS.icmpYes X334.here hx rfl (pc0 := 113) (pc' := 126) rfl (hb hby at_113) rfl (flt (by decide)).2.2.2 (by decide) (by decide) kk) ?_
          show OGo p e below (T334.setTop (mkF m 126 #[.val (.int p1), .val (.int p2), .val (.int p3), .val (.int (1 : Int32)), .val (.int (((p1.toUInt32 >>> ((3 : Int32) &&& 31).toUInt32).toInt32) &&& (7 : Int32))), .val (.int (((p1.toUInt32 >>> ((6 : Int32) &&& 31).toUInt32).toInt32) &&& (15 : Int32))), .val (.int fl), .val (.ref f5), .val (.ref ww), .val (.ref al), .unset] [])) _
          refine OGo.step (fun _ kk => XS.iloadN X334.here hx rfl (hb hby at_126) rfl kk) ?_
          refine OGo.step (fun _ kk => XS.iconst X334.here hx rfl (hb hby at_127) kk) ?_
          show OGo p e below (T334.setTop (mkF m 128 #[.val (.int p1), .val (.int p2), .val (.int p3), .val (.int (1 : Int32)), .val (.int (((p1.toUInt32 >>> ((3 : Int32) &&& 31).toUInt32).toInt32) &&& (7 : Int32))), .val (.int (((p1.toUInt32 >>> ((6 : Int32) &&& 31).toUInt32).toInt32) &&& (15 : Int32))), .val (.int fl), .val (.ref f5), .val (.ref ww), .val (.ref al), .unset] [(.int (3 : Int32)), (.int (1 : Int32))])) _
          refine OGo.step (fun _ kk => XS.icmpYes X334.here hx rfl (pc0 := 128) (pc' := 141) rfl (hb hby at_128) rfl (flt (by decide)).2.2.2 (by decide) (by decide) kk) ?_
          show OGo p e below (T334.setTop (mkF m 141 #[.val (.int p1), .val (.int p2), .val (.int p3), .val (.int (1 : Int32)), .val (.int (((p1.toUInt32 >>> ((3 : Int32) &&& 31).toUInt32).toInt32) &&& (7 : Int32))), .val (.int (((p1.toUInt32 >>> ((6 : Int32) &&& 31).toUInt32).toInt32) &&& (15 : Int32))), .val (.int fl), .val (.ref f5), .val (.ref ww), .val (.ref al), .unset] [])) _
          refine OGo.step (fun _ kk => XS.iloadN X334.here hx rfl (hb hby at_141) rfl kk) ?_
          refine OGo.step (fun _ kk => XS.iconst X334.here hx rfl (hb hby at_142) kk) ?_
          show OGo p e below (T334.setTop (mkF m 143 #[.val (.int p1), .val (.int p2), .val (.int p3), .val (.int (1 : Int32)), .val (.int (((p1.toUInt32 >>> ((3 : Int32) &&& 31).toUInt32).toInt32) &&& (7 : Int32))), .val (.int (((p1.toUInt32 >>> ((6 : Int32) &&& 31).toUInt32).toInt32) &&& (15 : Int32))), .val (.int fl), .val (.ref f5), .val (.ref ww), .val (.ref al), .unset] [(.int (4 : Int32)), (.int (1 : Int32))])) _
          refine OGo.step (fun _ kk => XS.icmpYes X334.here hx rfl (pc0 := 143) (pc' := 156) rfl (hb hby at_143) rfl (flt (by decide)).2.2.2 (by decide) (by decide) kk) ?_
          show OGo p e below (T334.setTop (mkF m 156 #[.val (.int p1), .val (.int p2), .val (.int p3), .val (.int (1 : Int32)), .val (.int (((p1.toUInt32 >>> ((3 : Int32) &&& 31).toUInt32).toInt32) &&& (7 : Int32))), .val (.int (((p1.toUInt32 >>> ((6 : Int32) &&& 31).toUInt32).toInt32) &&& (15 : Int32))), .val (.int fl), .val (.ref f5), .val (.ref ww), .val (.ref al), .unset] [])) _
          refine OGo.step (fun _ kk => XS.iloadN X334.here hx rfl (hb hby at_156) rfl kk) ?_
          refine OGo.step (fun _ kk => XS.iconst X334.here hx rfl (hb hby at_157) kk) ?_
          show OGo p e below (T334.setTop (mkF m 158 #[.val (.int p1), .val (.int p2), .val (.int p3), .val (.int (1 : Int32)), .val (.int (((p1.toUInt32 >>> ((3 : Int32) &&& 31).toUInt32).toInt32) &&& (7 : Int32))), .val (.int (((p1.toUInt32 >>> ((6 : Int32) &&& 31).toUInt32).toInt32) &&& (15 : Int32))), .val (.int fl), .val (.ref f5), .val (.ref ww), .val (.ref al), .unset] [(.int (5 : Int32)), (.int (1 : Int32))])) _
          refine OGo.step (fun _ kk => XS.icmpYes X334.here hx rfl (pc0 := 158) (pc' := 171) rfl (hb hby at_158) rfl (flt (by decide)).2.2.2 (by decide) (by decide) kk) ?_
          show OGo p e below (T334.setTop (mkF m 171 #[.val (.int p1), .val (.int p2), .val (.int p3), .val (.int (1 : Int32)), .val (.int (((p1.toUInt32 >>> ((3 : Int32) &&& 31).toUInt32).toInt32) &&& (7 : Int32))), .val (.int (((p1.toUInt32 >>> ((6 : Int32) &&& 31).toUInt32).toInt32) &&& (15 : Int32))), .val (.int fl), .val (.ref f5), .val (.ref ww), .val (.ref al), .unset] [])) _
          refine OGo.step (fun _ kk => XS.iloadN X334.here hx rfl (hb hby at_171) rfl kk) ?_
          refine OGo.step (fun _ kk => XS.bipush X334.here hx rfl (hb hby at_172) kk) ?_
          show OGo p e below (T334.setTop (mkF m 174 #[.val (.int p1), .val (.int p2), .val (.int p3), .val (.int (1 : Int32)), .val (.int (((p1.toUInt32 >>> ((3 : Int32) &&& 31).toUInt32).toInt32) &&& (7 : Int32))), .val (.int (((p1.toUInt32 >>> ((6 : Int32) &&& 31).toUInt32).toInt32) &&& (15 : Int32))), .val (.int fl), .val (.ref f5), .val (.ref ww), .val (.ref al), .unset] [(.int (6 : Int32)), (.int (1 : Int32))])) _
          refine OGo.step (fun _ kk => XS.icmpYes X334.here hx rfl (pc0 := 174) (pc' := 187) rfl (hb hby at_174) rfl (flt (by decide)).2.2.2 (by decide) (by decide) kk) ?_
          show OGo p e below (T334.setTop (mkF m 187 #[.val (.int p1), .val (.int p2), .val (.int p3), .val (.int (1 : Int32)), .val (.int (((p1.toUInt32 >>> ((3 : Int32) &&& 31).toUInt32).toInt32) &&& (7 : Int32))), .val (.int (((p1.toUInt32 >>> ((6 : Int32) &&& 31).toUInt32).toInt32) &&& (15 : Int32))), .val (.int fl), .val (.ref f5), .val (.ref ww), .val (.ref al), .unset] [])) _
          refine OGo.step (fun _ kk => XS.iloadN X334.here hx rfl (hb hby at_187) rfl kk) ?_
          refine OGo.step (fun _ kk => XS.iconst X334.here hx rfl (hb hby at_188) kk) ?_
          show OGo p e below (T334.setTop (mkF m 189 #[.val (.int p1), .val (.int p2), .val (.int p3), .val (.int (1 : Int32)), .val (.int (((p1.toUInt32 >>> ((3 : Int32) &&& 31).toUInt32).toInt32) &&& (7 : Int32))), .val (.int (((p1.toUInt32 >>> ((6 : Int32) &&& 31).toUInt32).toInt32) &&& (15 : Int32))), .val (.int fl), .val (.ref f5), .val (.ref ww), .val (.ref al), .unset] [(.int (4 : Int32)), (.int (1 : Int32))])) _
          refine OGo.step (fun _ kk => XS.icmpNo X334.here hx rfl (hb hby at_189) rfl (feq (by decide)).1 kk) ?_
          show OGo p e below (T334.setTop (mkF m 192 #[.val (.int p1), .val (.int p2), .val (.int p3), .val (.int (1 : Int32)), .val (.int (((p1.toUInt32 >>> ((3 : Int32) &&& 31).toUInt32).toInt32) &&& (7 : Int32))), .val (.int (((p1.toUInt32 >>> ((6 : Int32) &&& 31).toUInt32).toInt32) &&& (15 : Int32))), .val (.int fl), .val (.ref f5), .val (.ref ww), .val (.ref al), .unset] [])) _
          refine OGo.step (fun _ kk => XS.iloadN X334.here hx rfl (hb hby at_192) rfl kk) ?_
          refine OGo.step (fun _ kk => XS.bipush X334.here hx rfl (hb hby at_193) kk) ?_
          show OGo p e below (T334.setTop (mkF m 195 #[.val (.int p1), .val (.int p2), .val (.int p3), .val (.int (1 : Int32)), .val (.int (((p1.toUInt32 >>> ((3 : Int32) &&& 31).toUInt32).toInt32) &&& (7 : Int32))), .val (.int (((p1.toUInt32 >>> ((6 : Int32) &&& 31).toUInt32).toInt32) &&& (15 : Int32))), .val (.int fl), .val (.ref f5), .val (.ref ww), .val (.ref al), .unset] [(.int (6 : Int32)), (.int (1 : Int32))])) _
          refine OGo.step (fun _ kk => XS.icmpYes X334.here hx rfl (pc0 := 195) (pc' := 210) rfl (hb hby at_195) rfl (feq (by decide)).2 (by decide) (by decide) kk) ?_
          show OGo p e below (T334.setTop (mkF m 210 #[.val (.int p1), .val (.int p2), .val (.int p3), .val (.int (1 : Int32)), .val (.int (((p1.toUInt32 >>> ((3 : Int32) &&& 31).toUInt32).toInt32) &&& (7 : Int32))), .val (.int (((p1.toUInt32 >>> ((6 : Int32) &&& 31).toUInt32).toInt32) &&& (15 : Int32))), .val (.int fl), .val (.ref f5), .val (.ref ww), .val (.ref al), .unset] [])) _
          refine OGo.step (fun _ kk => XS.iconst X334.here hx rfl (hb hby at_210) kk) ?_
          refine OGo.step (fun _ kk => XS.istore X334.here hx rfl (hb hby at_211) rfl (l' := #[.val (.int p1), .val (.int p2), .val (.int p3), .val (.int (1 : Int32)), .val (.int (((p1.toUInt32 >>> ((3 : Int32) &&& 31).toUInt32).toInt32) &&& (7 : Int32))), .val (.int (((p1.toUInt32 >>> ((6 : Int32) &&& 31).toUInt32).toInt32) &&& (15 : Int32))), .val (.int fl), .val (.ref f5), .val (.ref ww), .val (.ref al), .val (.int (0 : Int32))]) rfl kk) ?_
          refine OGo.step (fun _ kk => XS.aload X334.here hx rfl (hb hby at_213) rfl rfl kk) ?_
          show OGo p e below (T334.setTop (mkF m 215 #[.val (.int p1), .val (.int p2), .val (.int p3), .val (.int (1 : Int32)), .val (.int (((p1.toUInt32 >>> ((3 : Int32) &&& 31).toUInt32).toInt32) &&& (7 : Int32))), .val (.int (((p1.toUInt32 >>> ((6 : Int32) &&& 31).toUInt32).toInt32) &&& (15 : Int32))), .val (.int fl), .val (.ref f5), .val (.ref ww), .val (.ref al), .val (.int (0 : Int32))] [(.ref al)])) _
          refine own_callSW X334 hx hZ (y := (⟨"com/example/tags_to_grants/tagstogrants/cli/TagsToGrants", "isOneRequest", "(Ljava/util/List;)Z"⟩ : MethodName)) hown (hw _ (List.mem_of_getElem? (i := 57) rfl)) (hw _ (List.mem_of_getElem? (i := 58) rfl)) (hw _ (List.mem_of_getElem? (i := 59) rfl)) (hw _ (List.mem_of_getElem? (i := 60) rfl)) (by decide) hEL OW335 (W := 0) (own_one1 l Z a0 hw [] al T334.heap n0 sz334 f1334 f3334) rfl  (pc := 215) (Ls := #[.val (.int p1), .val (.int p2), .val (.int p3), .val (.int (1 : Int32)), .val (.int (((p1.toUInt32 >>> ((3 : Int32) &&& 31).toUInt32).toInt32) &&& (7 : Int32))), .val (.int (((p1.toUInt32 >>> ((6 : Int32) &&& 31).toUInt32).toInt32) &&& (15 : Int32))), .val (.int fl), .val (.ref f5), .val (.ref ww), .val (.ref al), .val (.int (0 : Int32))]) (argsL := [(.ref al)]) (rest := []) (by rw [hml]; rfl) (lenOf own_pd13 rfl) rfl (hb hby at_215) (by decide) (by decide) (by decide) (by decide) ?_
          intro v398 T398 L398 X398 hQ398 OW398 hZ hown CH398
          obtain ⟨rfl, N398, Xe398⟩ := hQ398
          have sf399 := CH398.safe (f5_334).lt sfe
          show OGo p e below (T398.setTop (mkF m 218 #[.val (.int p1), .val (.int p2), .val (.int p3), .val (.int (1 : Int32)), .val (.int (((p1.toUInt32 >>> ((3 : Int32) &&& 31).toUInt32).toInt32) &&& (7 : Int32))), .val (.int (((p1.toUInt32 >>> ((6 : Int32) &&& 31).toUInt32).toInt32) &&& (15 : Int32))), .val (.int fl), .val (.ref f5), .val (.ref ww), .val (.ref al), .val (.int (0 : Int32))] [(.int (0 : Int32))])) _
          have Nc398 := Fr.app Nc334 N398
          have sz398 : n0 ≤ T398.heap.size := Nat.le_trans sz334 Xe398.1
          refine OGo.step (fun _ kk => XS.iload X398.here hx rfl (hb hby at_218) rfl kk) ?_
          show OGo p e below (T398.setTop (mkF m 220 #[.val (.int p1), .val (.int p2), .val (.int p3), .val (.int (1 : Int32)), .val (.int (((p1.toUInt32 >>> ((3 : Int32) &&& 31).toUInt32).toInt32) &&& (7 : Int32))), .val (.int (((p1.toUInt32 >>> ((6 : Int32) &&& 31).toUInt32).toInt32) &&& (15 : Int32))), .val (.int fl), .val (.ref f5), .val (.ref ww), .val (.ref al), .val (.int (0 : Int32))] [(.int (0 : Int32)), (.int (0 : Int32))])) _
          refine OGo.step (fun _ kk => XS.icmpNo X398.here hx rfl (hb hby at_220) rfl (teq rfl).2 kk) ?_
          show OGo p e below (T398.setTop (mkF m 223 #[.val (.int p1), .val (.int p2), .val (.int p3), .val (.int (1 : Int32)), .val (.int (((p1.toUInt32 >>> ((3 : Int32) &&& 31).toUInt32).toInt32) &&& (7 : Int32))), .val (.int (((p1.toUInt32 >>> ((6 : Int32) &&& 31).toUInt32).toInt32) &&& (15 : Int32))), .val (.int fl), .val (.ref f5), .val (.ref ww), .val (.ref al), .val (.int (0 : Int32))] [])) _
          refine OGo.step (fun _ kk => XS.iconst X398.here hx rfl (hb hby at_223) kk) ?_
          refine OGo.step (fun _ kk => XS.goto X398.here hx rfl (pc0 := 224) (pc' := 228) rfl (hb hby at_224) (by decide) (by decide) kk) ?_
          show OGo p e below (T398.setTop (mkF m 228 #[.val (.int p1), .val (.int p2), .val (.int p3), .val (.int (1 : Int32)), .val (.int (((p1.toUInt32 >>> ((3 : Int32) &&& 31).toUInt32).toInt32) &&& (7 : Int32))), .val (.int (((p1.toUInt32 >>> ((6 : Int32) &&& 31).toUInt32).toInt32) &&& (15 : Int32))), .val (.int fl), .val (.ref f5), .val (.ref ww), .val (.ref al), .val (.int (0 : Int32))] [(.int (1 : Int32))])) _
          exact own_retNW X398 hx hlk hEL OW398 rfl hret (by simp) (hb hby at_228) ⟨by rw [own_nar1], Nc398⟩ (by decide) (by decide)
      · refine OGo.step (fun _ kk => XS.ifYes X327.here hx rfl (pc0 := 83) (pc' := 96) rfl (hb hby at_83) rfl ((if0 _ _).trans (flt hf0).2.2.2) (by decide) (by decide) kk) ?_
        show OGo p e below (T327.setTop (mkF m 96 #[.val (.int p1), .val (.int p2), .val (.int p3), .val (.int nn), .val (.int (((p1.toUInt32 >>> ((3 : Int32) &&& 31).toUInt32).toInt32) &&& (7 : Int32))), .val (.int (((p1.toUInt32 >>> ((6 : Int32) &&& 31).toUInt32).toInt32) &&& (15 : Int32))), .val (.int fl), .val (.ref f5), .val (.ref ww), .val (.ref al), .unset] [])) _
        obtain rfl := own_sk0 h8 hf0
        show OGo p e below (T327.setTop (mkF m 96 #[.val (.int p1), .val (.int p2), .val (.int p3), .val (.int (0 : Int32)), .val (.int (((p1.toUInt32 >>> ((3 : Int32) &&& 31).toUInt32).toInt32) &&& (7 : Int32))), .val (.int (((p1.toUInt32 >>> ((6 : Int32) &&& 31).toUInt32).toInt32) &&& (15 : Int32))), .val (.int fl), .val (.ref f5), .val (.ref ww), .val (.ref al), .unset] [])) _
        refine OGo.step (fun _ kk => XS.iloadN X327.here hx rfl (hb hby at_96) rfl kk) ?_
        refine OGo.step (fun _ kk => XS.iconst X327.here hx rfl (hb hby at_97) kk) ?_
        show OGo p e below (T327.setTop (mkF m 98 #[.val (.int p1), .val (.int p2), .val (.int p3), .val (.int (0 : Int32)), .val (.int (((p1.toUInt32 >>> ((3 : Int32) &&& 31).toUInt32).toInt32) &&& (7 : Int32))), .val (.int (((p1.toUInt32 >>> ((6 : Int32) &&& 31).toUInt32).toInt32) &&& (15 : Int32))), .val (.int fl), .val (.ref f5), .val (.ref ww), .val (.ref al), .unset] [(.int (1 : Int32)), (.int (0 : Int32))])) _
        refine OGo.step (fun _ kk => XS.icmpYes X327.here hx rfl (pc0 := 98) (pc' := 111) rfl (hb hby at_98) rfl (flt (by decide)).2.2.2 (by decide) (by decide) kk) ?_
        show OGo p e below (T327.setTop (mkF m 111 #[.val (.int p1), .val (.int p2), .val (.int p3), .val (.int (0 : Int32)), .val (.int (((p1.toUInt32 >>> ((3 : Int32) &&& 31).toUInt32).toInt32) &&& (7 : Int32))), .val (.int (((p1.toUInt32 >>> ((6 : Int32) &&& 31).toUInt32).toInt32) &&& (15 : Int32))), .val (.int fl), .val (.ref f5), .val (.ref ww), .val (.ref al), .unset] [])) _
        refine OGo.step (fun _ kk => XS.iloadN X327.here hx rfl (hb hby at_111) rfl kk) ?_
        refine OGo.step (fun _ kk => XS.iconst X327.here hx rfl (hb hby at_112) kk) ?_
        show OGo p e below (T327.setTop (mkF m 113 #[.val (.int p1), .val (.int p2), .val (.int p3), .val (.int (0 : Int32)), .val (.int (((p1.toUInt32 >>> ((3 : Int32) &&& 31).toUInt32).toInt32) &&& (7 : Int32))), .val (.int (((p1.toUInt32 >>> ((6 : Int32) &&& 31).toUInt32).toInt32) &&& (15 : Int32))), .val (.int fl), .val (.ref f5), .val (.ref ww), .val (.ref al), .unset] [(.int (2 : Int32)), (.int (0 : Int32))])) _
        refine OGo.step (fun _ kk => XS.icmpYes X327.here hx rfl (pc0 := 113) (pc' := 126) rfl (hb hby at_113) rfl (flt (by decide)).2.2.2 (by decide) (by decide) kk) ?_
        show OGo p e below (T327.setTop (mkF m 126 #[.val (.int p1), .val (.int p2), .val (.int p3), .val (.int (0 : Int32)), .val (.int (((p1.toUInt32 >>> ((3 : Int32) &&& 31).toUInt32).toInt32) &&& (7 : Int32))), .val (.int (((p1.toUInt32 >>> ((6 : Int32) &&& 31).toUInt32).toInt32) &&& (15 : Int32))), .val (.int fl), .val (.ref f5), .val (.ref ww), .val (.ref al), .unset] [])) _
        refine OGo.step (fun _ kk => XS.iloadN X327.here hx rfl (hb hby at_126) rfl kk) ?_
        refine OGo.step (fun _ kk => XS.iconst X327.here hx rfl (hb hby at_127) kk) ?_
        show OGo p e below (T327.setTop (mkF m 128 #[.val (.int p1), .val (.int p2), .val (.int p3), .val (.int (0 : Int32)), .val (.int (((p1.toUInt32 >>> ((3 : Int32) &&& 31).toUInt32).toInt32) &&& (7 : Int32))), .val (.int (((p1.toUInt32 >>> ((6 : Int32) &&& 31).toUInt32).toInt32) &&& (15 : Int32))), .val (.int fl), .val (.ref f5), .val (.ref ww), .val (.ref al), .unset] [(.int (3 : Int32)), (.int (0 : Int32))])) _
        refine OGo.step (fun _ kk => XS.icmpYes X327.here hx rfl (pc0 := 128) (pc' := 141) rfl (hb hby at_128) rfl (flt (by decide)).2.2.2 (by decide) (by decide) kk) ?_
        show OGo p e below (T327.setTop (mkF m 141 #[.val (.int p1), .val (.int p2), .val (.int p3), .val (.int (0 : Int32)), .val (.int (((p1.toUInt32 >>> ((3 : Int32) &&& 31).toUInt32).toInt32) &&& (7 : Int32))), .val (.int (((p1.toUInt32 >>> ((6 : Int32) &&& 31).toUInt32).toInt32) &&& (15 : Int32))), .val (.int fl), .val (.ref f5), .val (.ref ww), .val (.ref al), .unset] [])) _
        refine OGo.step (fun _ kk => XS.iloadN X327.here hx rfl (hb hby at_141) rfl kk) ?_
        refine OGo.step (fun _ kk => XS.iconst X327.here hx rfl (hb hby at_142) kk) ?_
        show OGo p e below (T327.setTop (mkF m 143 #[.val (.int p1), .val (.int p2), .val (.int p3), .val (.int (0 : Int32)), .val (.int (((p1.toUInt32 >>> ((3 : Int32) &&& 31).toUInt32).toInt32) &&& (7 : Int32))), .val (.int (((p1.toUInt32 >>> ((6 : Int32) &&& 31).toUInt32).toInt32) &&& (15 : Int32))), .val (.int fl), .val (.ref f5), .val (.ref ww), .val (.ref al), .unset] [(.int (4 : Int32)), (.int (0 : Int32))])) _
        refine OGo.step (fun _ kk => XS.icmpYes X327.here hx rfl (pc0 := 143) (pc' := 156) rfl (hb hby at_143) rfl (flt (by decide)).2.2.2 (by decide) (by decide) kk) ?_
        show OGo p e below (T327.setTop (mkF m 156 #[.val (.int p1), .val (.int p2), .val (.int p3), .val (.int (0 : Int32)), .val (.int (((p1.toUInt32 >>> ((3 : Int32) &&& 31).toUInt32).toInt32) &&& (7 : Int32))), .val (.int (((p1.toUInt32 >>> ((6 : Int32) &&& 31).toUInt32).toInt32) &&& (15 : Int32))), .val (.int fl), .val (.ref f5), .val (.ref ww), .val (.ref al), .unset] [])) _
        refine OGo.step (fun _ kk => XS.iloadN X327.here hx rfl (hb hby at_156) rfl kk) ?_
        refine OGo.step (fun _ kk => XS.iconst X327.here hx rfl (hb hby at_157) kk) ?_
        show OGo p e below (T327.setTop (mkF m 158 #[.val (.int p1), .val (.int p2), .val (.int p3), .val (.int (0 : Int32)), .val (.int (((p1.toUInt32 >>> ((3 : Int32) &&& 31).toUInt32).toInt32) &&& (7 : Int32))), .val (.int (((p1.toUInt32 >>> ((6 : Int32) &&& 31).toUInt32).toInt32) &&& (15 : Int32))), .val (.int fl), .val (.ref f5), .val (.ref ww), .val (.ref al), .unset] [(.int (5 : Int32)), (.int (0 : Int32))])) _
        refine OGo.step (fun _ kk => XS.icmpYes X327.here hx rfl (pc0 := 158) (pc' := 171) rfl (hb hby at_158) rfl (flt (by decide)).2.2.2 (by decide) (by decide) kk) ?_
        show OGo p e below (T327.setTop (mkF m 171 #[.val (.int p1), .val (.int p2), .val (.int p3), .val (.int (0 : Int32)), .val (.int (((p1.toUInt32 >>> ((3 : Int32) &&& 31).toUInt32).toInt32) &&& (7 : Int32))), .val (.int (((p1.toUInt32 >>> ((6 : Int32) &&& 31).toUInt32).toInt32) &&& (15 : Int32))), .val (.int fl), .val (.ref f5), .val (.ref ww), .val (.ref al), .unset] [])) _
        refine OGo.step (fun _ kk => XS.iloadN X327.here hx rfl (hb hby at_171) rfl kk) ?_
        refine OGo.step (fun _ kk => XS.bipush X327.here hx rfl (hb hby at_172) kk) ?_
        show OGo p e below (T327.setTop (mkF m 174 #[.val (.int p1), .val (.int p2), .val (.int p3), .val (.int (0 : Int32)), .val (.int (((p1.toUInt32 >>> ((3 : Int32) &&& 31).toUInt32).toInt32) &&& (7 : Int32))), .val (.int (((p1.toUInt32 >>> ((6 : Int32) &&& 31).toUInt32).toInt32) &&& (15 : Int32))), .val (.int fl), .val (.ref f5), .val (.ref ww), .val (.ref al), .unset] [(.int (6 : Int32)), (.int (0 : Int32))])) _
        refine OGo.step (fun _ kk => XS.icmpYes X327.here hx rfl (pc0 := 174) (pc' := 187) rfl (hb hby at_174) rfl (flt (by decide)).2.2.2 (by decide) (by decide) kk) ?_
        show OGo p e below (T327.setTop (mkF m 187 #[.val (.int p1), .val (.int p2), .val (.int p3), .val (.int (0 : Int32)), .val (.int (((p1.toUInt32 >>> ((3 : Int32) &&& 31).toUInt32).toInt32) &&& (7 : Int32))), .val (.int (((p1.toUInt32 >>> ((6 : Int32) &&& 31).toUInt32).toInt32) &&& (15 : Int32))), .val (.int fl), .val (.ref f5), .val (.ref ww), .val (.ref al), .unset] [])) _
        refine OGo.step (fun _ kk => XS.iloadN X327.here hx rfl (hb hby at_187) rfl kk) ?_
        refine OGo.step (fun _ kk => XS.iconst X327.here hx rfl (hb hby at_188) kk) ?_
        show OGo p e below (T327.setTop (mkF m 189 #[.val (.int p1), .val (.int p2), .val (.int p3), .val (.int (0 : Int32)), .val (.int (((p1.toUInt32 >>> ((3 : Int32) &&& 31).toUInt32).toInt32) &&& (7 : Int32))), .val (.int (((p1.toUInt32 >>> ((6 : Int32) &&& 31).toUInt32).toInt32) &&& (15 : Int32))), .val (.int fl), .val (.ref f5), .val (.ref ww), .val (.ref al), .unset] [(.int (4 : Int32)), (.int (0 : Int32))])) _
        refine OGo.step (fun _ kk => XS.icmpNo X327.here hx rfl (hb hby at_189) rfl (feq (by decide)).1 kk) ?_
        show OGo p e below (T327.setTop (mkF m 192 #[.val (.int p1), .val (.int p2), .val (.int p3), .val (.int (0 : Int32)), .val (.int (((p1.toUInt32 >>> ((3 : Int32) &&& 31).toUInt32).toInt32) &&& (7 : Int32))), .val (.int (((p1.toUInt32 >>> ((6 : Int32) &&& 31).toUInt32).toInt32) &&& (15 : Int32))), .val (.int fl), .val (.ref f5), .val (.ref ww), .val (.ref al), .unset] [])) _
        refine OGo.step (fun _ kk => XS.iloadN X327.here hx rfl (hb hby at_192) rfl kk) ?_
        refine OGo.step (fun _ kk => XS.bipush X327.here hx rfl (hb hby at_193) kk) ?_
        show OGo p e below (T327.setTop (mkF m 195 #[.val (.int p1), .val (.int p2), .val (.int p3), .val (.int (0 : Int32)), .val (.int (((p1.toUInt32 >>> ((3 : Int32) &&& 31).toUInt32).toInt32) &&& (7 : Int32))), .val (.int (((p1.toUInt32 >>> ((6 : Int32) &&& 31).toUInt32).toInt32) &&& (15 : Int32))), .val (.int fl), .val (.ref f5), .val (.ref ww), .val (.ref al), .unset] [(.int (6 : Int32)), (.int (0 : Int32))])) _
        refine OGo.step (fun _ kk => XS.icmpYes X327.here hx rfl (pc0 := 195) (pc' := 210) rfl (hb hby at_195) rfl (feq (by decide)).2 (by decide) (by decide) kk) ?_
        show OGo p e below (T327.setTop (mkF m 210 #[.val (.int p1), .val (.int p2), .val (.int p3), .val (.int (0 : Int32)), .val (.int (((p1.toUInt32 >>> ((3 : Int32) &&& 31).toUInt32).toInt32) &&& (7 : Int32))), .val (.int (((p1.toUInt32 >>> ((6 : Int32) &&& 31).toUInt32).toInt32) &&& (15 : Int32))), .val (.int fl), .val (.ref f5), .val (.ref ww), .val (.ref al), .unset] [])) _
        refine OGo.step (fun _ kk => XS.iconst X327.here hx rfl (hb hby at_210) kk) ?_
        refine OGo.step (fun _ kk => XS.istore X327.here hx rfl (hb hby at_211) rfl (l' := #[.val (.int p1), .val (.int p2), .val (.int p3), .val (.int (0 : Int32)), .val (.int (((p1.toUInt32 >>> ((3 : Int32) &&& 31).toUInt32).toInt32) &&& (7 : Int32))), .val (.int (((p1.toUInt32 >>> ((6 : Int32) &&& 31).toUInt32).toInt32) &&& (15 : Int32))), .val (.int fl), .val (.ref f5), .val (.ref ww), .val (.ref al), .val (.int (0 : Int32))]) rfl kk) ?_
        refine OGo.step (fun _ kk => XS.aload X327.here hx rfl (hb hby at_213) rfl rfl kk) ?_
        show OGo p e below (T327.setTop (mkF m 215 #[.val (.int p1), .val (.int p2), .val (.int p3), .val (.int (0 : Int32)), .val (.int (((p1.toUInt32 >>> ((3 : Int32) &&& 31).toUInt32).toInt32) &&& (7 : Int32))), .val (.int (((p1.toUInt32 >>> ((6 : Int32) &&& 31).toUInt32).toInt32) &&& (15 : Int32))), .val (.int fl), .val (.ref f5), .val (.ref ww), .val (.ref al), .val (.int (0 : Int32))] [(.ref al)])) _
        refine own_callSW X327 hx hZ (y := (⟨"com/example/tags_to_grants/tagstogrants/cli/TagsToGrants", "isOneRequest", "(Ljava/util/List;)Z"⟩ : MethodName)) hown (hw _ (List.mem_of_getElem? (i := 57) rfl)) (hw _ (List.mem_of_getElem? (i := 58) rfl)) (hw _ (List.mem_of_getElem? (i := 59) rfl)) (hw _ (List.mem_of_getElem? (i := 60) rfl)) (by decide) hEL OW328 (W := 0) (own_one0 l Z a0 hw [] al T327.heap n0 sz327 f1327 f3327) rfl  (pc := 215) (Ls := #[.val (.int p1), .val (.int p2), .val (.int p3), .val (.int (0 : Int32)), .val (.int (((p1.toUInt32 >>> ((3 : Int32) &&& 31).toUInt32).toInt32) &&& (7 : Int32))), .val (.int (((p1.toUInt32 >>> ((6 : Int32) &&& 31).toUInt32).toInt32) &&& (15 : Int32))), .val (.int fl), .val (.ref f5), .val (.ref ww), .val (.ref al), .val (.int (0 : Int32))]) (argsL := [(.ref al)]) (rest := []) (by rw [hml]; rfl) (lenOf own_pd13 rfl) rfl (hb hby at_215) (by decide) (by decide) (by decide) (by decide) ?_
        intro v400 T400 L400 X400 hQ400 OW400 hZ hown CH400
        obtain ⟨rfl, N400, Xe400⟩ := hQ400
        show OGo p e below (T400.setTop (mkF m 218 #[.val (.int p1), .val (.int p2), .val (.int p3), .val (.int (0 : Int32)), .val (.int (((p1.toUInt32 >>> ((3 : Int32) &&& 31).toUInt32).toInt32) &&& (7 : Int32))), .val (.int (((p1.toUInt32 >>> ((6 : Int32) &&& 31).toUInt32).toInt32) &&& (15 : Int32))), .val (.int fl), .val (.ref f5), .val (.ref ww), .val (.ref al), .val (.int (0 : Int32))] [(.int (0 : Int32))])) _
        have Nc400 := Fr.app Nc327 N400
        have sz400 : n0 ≤ T400.heap.size := Nat.le_trans sz327 Xe400.1
        refine OGo.step (fun _ kk => XS.iload X400.here hx rfl (hb hby at_218) rfl kk) ?_
        show OGo p e below (T400.setTop (mkF m 220 #[.val (.int p1), .val (.int p2), .val (.int p3), .val (.int (0 : Int32)), .val (.int (((p1.toUInt32 >>> ((3 : Int32) &&& 31).toUInt32).toInt32) &&& (7 : Int32))), .val (.int (((p1.toUInt32 >>> ((6 : Int32) &&& 31).toUInt32).toInt32) &&& (15 : Int32))), .val (.int fl), .val (.ref f5), .val (.ref ww), .val (.ref al), .val (.int (0 : Int32))] [(.int (0 : Int32)), (.int (0 : Int32))])) _
        refine OGo.step (fun _ kk => XS.icmpNo X400.here hx rfl (hb hby at_220) rfl (teq rfl).2 kk) ?_
        show OGo p e below (T400.setTop (mkF m 223 #[.val (.int p1), .val (.int p2), .val (.int p3), .val (.int (0 : Int32)), .val (.int (((p1.toUInt32 >>> ((3 : Int32) &&& 31).toUInt32).toInt32) &&& (7 : Int32))), .val (.int (((p1.toUInt32 >>> ((6 : Int32) &&& 31).toUInt32).toInt32) &&& (15 : Int32))), .val (.int fl), .val (.ref f5), .val (.ref ww), .val (.ref al), .val (.int (0 : Int32))] [])) _
        refine OGo.step (fun _ kk => XS.iconst X400.here hx rfl (hb hby at_223) kk) ?_
        refine OGo.step (fun _ kk => XS.goto X400.here hx rfl (pc0 := 224) (pc' := 228) rfl (hb hby at_224) (by decide) (by decide) kk) ?_
        show OGo p e below (T400.setTop (mkF m 228 #[.val (.int p1), .val (.int p2), .val (.int p3), .val (.int (0 : Int32)), .val (.int (((p1.toUInt32 >>> ((3 : Int32) &&& 31).toUInt32).toInt32) &&& (7 : Int32))), .val (.int (((p1.toUInt32 >>> ((6 : Int32) &&& 31).toUInt32).toInt32) &&& (15 : Int32))), .val (.int fl), .val (.ref f5), .val (.ref ww), .val (.ref al), .val (.int (0 : Int32))] [(.int (1 : Int32))])) _
        exact own_retNW X400 hx hlk hEL OW400 rfl hret (by simp) (hb hby at_228) ⟨by rw [own_nar1], Nc400⟩ (by decide) (by decide)
  by_cases hk : (((p1.toUInt32 >>> ((10 : Int32) &&& 31).toUInt32).toInt32) &&& (1 : Int32)) = (0 : Int32)
  · refine OGo.step (fun _ kk => XS.ifYes X0.here hx rfl (pc0 := 28) (pc' := 35) rfl (hb hby at_28) rfl ((if0 _ _).trans (teq hk).1) (by decide) (by decide) kk) ?_
    show OGo p e below (s₁.setTop (mkF m 35 #[.val (.int p1), .val (.int p2), .val (.int p3), .val (.int (p1 &&& (7 : Int32))), .val (.int (((p1.toUInt32 >>> ((3 : Int32) &&& 31).toUInt32).toInt32) &&& (7 : Int32))), .val (.int (((p1.toUInt32 >>> ((6 : Int32) &&& 31).toUInt32).toInt32) &&& (15 : Int32))), .unset, .unset, .unset, .unset, .unset] [])) _
    refine OGo.step (fun _ kk => XS.iconst X0.here hx rfl (hb hby at_35) kk) ?_
    refine OGo.step (fun _ kk => XS.istore X0.here hx rfl (hb hby at_36) rfl (l' := #[.val (.int p1), .val (.int p2), .val (.int p3), .val (.int (p1 &&& (7 : Int32))), .val (.int (((p1.toUInt32 >>> ((3 : Int32) &&& 31).toUInt32).toInt32) &&& (7 : Int32))), .val (.int (((p1.toUInt32 >>> ((6 : Int32) &&& 31).toUInt32).toInt32) &&& (15 : Int32))), .val (.int (0 : Int32)), .unset, .unset, .unset, .unset]) rfl kk) ?_
    show OGo p e below (s₁.setTop (mkF m 38 #[.val (.int p1), .val (.int p2), .val (.int p3), .val (.int (p1 &&& (7 : Int32))), .val (.int (((p1.toUInt32 >>> ((3 : Int32) &&& 31).toUInt32).toInt32) &&& (7 : Int32))), .val (.int (((p1.toUInt32 >>> ((6 : Int32) &&& 31).toUInt32).toInt32) &&& (15 : Int32))), .val (.int (0 : Int32)), .unset, .unset, .unset, .unset] [])) _
    exact K38 _
  · refine OGo.step (fun _ kk => XS.ifNo X0.here hx rfl (hb hby at_28) rfl ((if0 _ _).trans (feq hk).1) kk) ?_
    show OGo p e below (s₁.setTop (mkF m 31 #[.val (.int p1), .val (.int p2), .val (.int p3), .val (.int (p1 &&& (7 : Int32))), .val (.int (((p1.toUInt32 >>> ((3 : Int32) &&& 31).toUInt32).toInt32) &&& (7 : Int32))), .val (.int (((p1.toUInt32 >>> ((6 : Int32) &&& 31).toUInt32).toInt32) &&& (15 : Int32))), .unset, .unset, .unset, .unset, .unset] [])) _
    refine OGo.step (fun _ kk => XS.iconst X0.here hx rfl (hb hby at_31) kk) ?_
    refine OGo.step (fun _ kk => XS.goto X0.here hx rfl (pc0 := 32) (pc' := 36) rfl (hb hby at_32) (by decide) (by decide) kk) ?_
    refine OGo.step (fun _ kk => XS.istore X0.here hx rfl (hb hby at_36) rfl (l' := #[.val (.int p1), .val (.int p2), .val (.int p3), .val (.int (p1 &&& (7 : Int32))), .val (.int (((p1.toUInt32 >>> ((3 : Int32) &&& 31).toUInt32).toInt32) &&& (7 : Int32))), .val (.int (((p1.toUInt32 >>> ((6 : Int32) &&& 31).toUInt32).toInt32) &&& (15 : Int32))), .val (.int (1 : Int32)), .unset, .unset, .unset, .unset]) rfl kk) ?_
    show OGo p e below (s₁.setTop (mkF m 38 #[.val (.int p1), .val (.int p2), .val (.int p3), .val (.int (p1 &&& (7 : Int32))), .val (.int (((p1.toUInt32 >>> ((3 : Int32) &&& 31).toUInt32).toInt32) &&& (7 : Int32))), .val (.int (((p1.toUInt32 >>> ((6 : Int32) &&& 31).toUInt32).toInt32) &&& (15 : Int32))), .val (.int (1 : Int32)), .unset, .unset, .unset, .unset] [])) _
    exact K38 _

set_option maxRecDepth 65536 in
set_option maxHeartbeats 40000000 in
theorem comes_1 {Post : Tables → Env → Array Value → State → Outcome → State → Prop} (hpost : ∀ tb e args s v u, (limb_1_1.after args s (.returned v) u = true ∧ limb_1_2.after args s (.returned v) u = true ∧ True) → ReturnedEndW s (.returned v) u (Jvm.fieldLocs frame_1_writes args s ++ Jvm.arrayLocs frame_1_arrays args s ++ Jvm.staticLocs frame_1_statics s) 32 3264 → Post tb e args s (.returned v) u) :
    ArmFor flags0 classFile x code maxLocals ret World_1 tables_1 room_1 Calls_1 rest_1 Pre_1 Post := by
  intro l hfl _ _ p e ha hc hk s m args below hf hA hF happ hP
  obtain ⟨hcalls, hrest, hpre⟩ := hP
  obtain ⟨-, -, -, hnamed, -, -, -, hat⟩ := (Spec.applies_iff hf).mp happ
  obtain ⟨hg, hn⟩ := and_e (Cond.before_iff.mp (show (Jvm.Cond.and given_1 narrow_1).before args s = true from hpre))
  obtain ⟨k401, k401'⟩ := and_e hg
  obtain ⟨k402, k402'⟩ := and_e k401'
  obtain ⟨k403, k403'⟩ := and_e k402'
  obtain ⟨w0_, w1_, w2_, rfl⟩ : ∃ w0_ w1_ w2_ : Value, args = #[w0_, w1_, w2_] := by
    have hs : args.size = 3 := by simpa [Cond.value, given_1] using k401
    obtain ⟨L⟩ := args
    match L, hs with
    | [w0_, w1_, w2_], _ => exact ⟨w0_, w1_, w2_, rfl⟩
  have hw := fun d (hd : d ∈ tables_1) => atoms_spec (ws := Jvm.Cond.code x code maxLocals ret :: tables_1) hat d (List.mem_cons_of_mem _ hd)
  have hfit : Fit s := fun {y c} hc i hi => by
    obtain ⟨ha, rfl⟩ := Array.getElem?_eq_some_iff.mp hc
    have q := List.all_eq_true.mp ((Array.all_eq_true_iff_forall_mem.mp hF) _ (Array.getElem_mem ha)) i (List.mem_range.mpr hi)
    simpa [Array.getElem?_eq_getElem hi] using q
  obtain ⟨hsets, hown0⟩ := atoms_of _ (rest_1_c_eq ▸ (show rest_1_c.before _ s = true from hrest))
  obtain ⟨i0, ei0⟩ := is_v k402
  obtain rfl : w0_ = (.int i0) := Option.some.inj ei0
  obtain ⟨i1, ei1⟩ := is_v k403
  obtain rfl : w1_ = (.int i1) := Option.some.inj ei1
  obtain ⟨i2, ei2⟩ := is_v k403'
  obtain rfl : w2_ = (.int i2) := Option.some.inj ei2
  obtain ⟨zc, ezc⟩ := is_v (Cond.before_iff.mp (hsets _ (List.mem_of_getElem? (i := 1) rfl)))
  have SC0 := Sta.start ezc (Or.inl (hsets _ (List.mem_of_getElem? (i := 0) rfl)))
  have hzc : ¬ zc = 0 := gotF (Cond.eq_ints ezc (Term.int_eval (0))) (not_v (Cond.before_iff.mp (hsets _ (List.mem_of_getElem? (i := 2) rfl))))
  obtain ⟨fm, efm, hfm⟩ := isR_v (Cond.before_iff.mp (hsets _ (List.mem_of_getElem? (i := 8) rfl)))
  have SF0 := Sta.start efm (Or.inl (hsets _ (List.mem_of_getElem? (i := 7) rfl)))
  have xD := Cond.before_iff.mp (hsets _ (List.mem_of_getElem? (i := 15) rfl))
  obtain ⟨dd, evD⟩ := arr_v xD
  have SD0 := Sta.start evD (Or.inr ⟨(hw _ (List.mem_of_getElem? (i := 35) rfl)), (hsets _ (List.mem_of_getElem? (i := 11) rfl))⟩)
  obtain ⟨cd, Ad0⟩ := Arr.start evD xD
  have lD := own_len evD Ad0 (own_eqv (Cond.before_iff.mp (hsets _ (List.mem_of_getElem? (i := 17) rfl))) rfl)
  have Sd : cd.slots.size = 0 := by
    have q := len_toInt lD.1
    rw [lD.2] at q
    have z : (0 : Int32).toInt = 0 := rfl
    omega
  have hch : CHv s consts_1 s.vm s.heap := CHv.start (own_hEL hw) (fun p hp => hcalls.1 p hp) (hsets _ (List.mem_of_getElem? (i := 2) rfl)) (own_wS hw _ (by simp [Bundle.stringAtoms])) (own_wS hw _ (by simp [Bundle.stringAtoms, Bundle.sN]))
  obtain ⟨n, o, h1, h2, h3, _, L, rfl, ⟨rfl, N⟩, -, hq⟩ := own_rm0 l s _ hw tables_1 i0 i1 i2 zc fm dd cd s.heap s.heap.size (Nat.le_refl _) SC0 hzc SF0 hfm SD0 Ad0 Sd p e ha hc hk s m _ below hf ((Spec.applies_iff_loose hf).mp happ).1 ⟨rfl, State.Warmed39.refl s, rfl, hch⟩ trivial
  exact ⟨n, _, h1, h2, h3, hpost _ _ _ _ _ _ ⟨Cond.after_iff.mpr rfl, Cond.after_iff.mpr (eq_i res_at (Term.int_eval (1)) rfl), trivial⟩ ⟨hq.1, hq.2.1, hq.2.2.1, (hq.2.2.2.sift fun y hy => Or.inr (N y hy)).mono (by decide) (by decide)⟩⟩
theorem main_1_1 : Claimed_1_1 := comes_1 fun _ _ _ _ _ _ h hF => ⟨h.1, hF⟩
theorem main_1_2 : Claimed_1_2 := comes_1 fun _ _ _ _ _ _ h hF => ⟨h.2.1, hF⟩
end Jvm.Pilot.@@N@@
namespace Jvm.Pilot.@@N@@
open Jvm Jvm.ClassFile Sem Op Lib Jvm.Free Jvm.Stand Jvm.Pilot.@@N@@.Jvm.D
/-! MADE BY PROGRAM (witnessworld.py) out of the Statement's table words and the real class files: 31 classes; the members and pool entries that the words name. The judged class is class 1, her method 1. -/
namespace start1
open Jvm.ClassFile
def u (s : String) : CpInfo := .utf8 (stringToUtf16 s)
/-- a pool by its gaps: so many unusable entries, then the entry; so many at the end -/
def gap : Nat → List CpInfo → List CpInfo
  | 0, r => r
  | n + 1, r => .unusable :: gap n r
def poolList (es : List (Nat × CpInfo)) (last : Nat) : List CpInfo := es.foldr (fun e r => gap e.1 (e.2 :: r)) (gap last [])
def pool (es : List (Nat × CpInfo)) (last : Nat) : Array CpInfo := ⟨poolList es last⟩
def fileOf (pool : Array CpInfo) (this : Nat) (attrs : Array Attribute := #[]) (ms : Array MethodInfo := #[]) (fl : Nat := 33) (sup : Nat := 0) (ifs : Array Nat := #[]) (fds : Array FieldInfo := #[]) : ClassFile where
  minorVersion := 0
  majorVersion := 65
  constantPool := pool
  accessFlags := fl
  thisClass := this
  superClass := sup
  interfaces := ifs
  fields := fds
  methods := ms
  attributes := attrs
def plain (name : String) (sup : Option ClassId) : Class where
  name := name
  kind := .ordinary
  loader := none
  accessFlags := 33
  super := sup
  interfaces := #[]
  cf := none
  fields := #[]
  methods := #[]
  instanceTypes := #[]
  staticTypes := #[]
  resolved := #[]
  callSites := []
  init := .initialized
  statics := none
  mirror := none

def pool0 : Array CpInfo := pool [(5, u "<init>"), (0, u "()V"), (1, .class_ 10), (1, u "java/lang/Object")] 113

def k0c0 : Code := { maxStack := 0, maxLocals := 1, code := object_method_1_code, exceptionTable := #[], attributes := #[] }
def k0m0 : Method := { name := "<init>", desc := "()V", sig := { parameters := [], returnType := none }, accessFlags := 1, code := some k0c0 }
/-- java/lang/Object -/
def k0 : Class := { plain "java/lang/Object" none with
  accessFlags := 33
  interfaces := #[]
  cf := some (fileOf pool0 8 #[] #[{ accessFlags := 1, nameIndex := 5, descriptorIndex := 6, attributes := #[] }] 33 0 #[] #[])
  fields := #[]
  methods := #[k0m0]
  instanceTypes := #[]
  staticTypes := #[]
  resolved := Array.replicate 124 none
  statics := none }

def pool1 : Array CpInfo := pool [(2, .class_ 4), (0, .nameAndType 5 6), (0, u "java/lang/Object"), (0, u "<init>"), (0, u "()V"), (0, .methodref 8 9), (0, .class_ 10), (0, .nameAndType 11 12), (0, u "com/example/tags_to_grants/tagstogrants/cli/TagsToGrantsIsOneRequestPinLaw"), (0, u "fifth"), (0, u "(IIII)Ljava/lang/String;"), (0, .string 14), (0, u "--as"), (0, .methodref 16 17), (0, .class_ 18), (0, .nameAndType 19 20), (0, u "java/lang/String"), (0, u "valueOf"), (0, u "(C)Ljava/lang/String;"), (0, .class_ 22), (0, u "java/util/ArrayList"), (0, .methodref 21 3), (0, .interfaceMethodref 25 26), (0, .class_ 27), (0, .nameAndType 28 29), (0, u "java/util/List"), (0, u "add"), (0, u "(Ljava/lang/Object;)Z"), (0, .methodref 8 31), (0, .nameAndType 32 33), (0, u "isAs"), (0, u "(Ljava/lang/String;)Z"), (0, .methodref 35 36), (0, .class_ 37), (0, .nameAndType 38 39), (0, u "com/example/tags_to_grants/tagstogrants/cli/TagsToGrants"), (0, u "isOneRequest"), (0, u "(Ljava/util/List;)Z"), (0, .methodref 16 41), (0, .nameAndType 5 42), (0, u "([C)V"), (0, .string 44), (0, u ""), (0, .methodref 16 46), (0, .nameAndType 47 48), (0, u "length"), (0, u "()I"), (0, .methodref 16 50), (0, .nameAndType 51 52), (0, u "charAt"), (0, u "(I)C"), (2, u "law"), (0, u "(III)Z")] 3

def k1m0 : Method := { name := "<init>", desc := "()V", sig := { parameters := [], returnType := none }, accessFlags := 2, code := none }
def k1c1 : Code := { maxStack := 4, maxLocals := 11, code := code, exceptionTable := #[], attributes := #[] }
def k1m1 : Method := { name := "law", desc := "(III)Z", sig := { parameters := [.int, .int, .int], returnType := some .boolean }, accessFlags := 9, code := some k1c1 }
def k1c2 : Code := { maxStack := 6, maxLocals := 13, code := method_3_code, exceptionTable := #[], attributes := #[] }
def k1m2 : Method := { name := "fifth", desc := "(IIII)Ljava/lang/String;", sig := { parameters := [.int, .int, .int, .int], returnType := some (.object "java/lang/String") }, accessFlags := 10, code := some k1c2 }
def k1c3 : Code := { maxStack := 2, maxLocals := 1, code := method_4_code, exceptionTable := #[], attributes := #[] }
def k1m3 : Method := { name := "isAs", desc := "(Ljava/lang/String;)Z", sig := { parameters := [(.object "java/lang/String")], returnType := some .boolean }, accessFlags := 10, code := some k1c3 }
/-- com/example/tags_to_grants/tagstogrants/cli/TagsToGrantsIsOneRequestPinLaw -/
def k1 : Class := { plain "com/example/tags_to_grants/tagstogrants/cli/TagsToGrantsIsOneRequestPinLaw" (some 0) with
  accessFlags := 49
  interfaces := #[]
  cf := some (fileOf pool1 8 #[] #[{ accessFlags := 2, nameIndex := 5, descriptorIndex := 6, attributes := #[] }, { accessFlags := 9, nameIndex := 55, descriptorIndex := 56, attributes := #[] }, { accessFlags := 10, nameIndex := 11, descriptorIndex := 12, attributes := #[] }, { accessFlags := 10, nameIndex := 32, descriptorIndex := 33, attributes := #[] }] 49 2 #[] #[])
  fields := #[]
  methods := #[k1m0, k1m1, k1m2, k1m3]
  instanceTypes := #[]
  staticTypes := #[]
  resolved := Array.replicate 60 none
  statics := none }

def pool2 : Array CpInfo := pool [(1, .class_ 2), (0, u "java/io/Serializable"), (0, .class_ 4), (0, u "java/lang/Object")] 2

/-- java/io/Serializable -/
def k2 : Class := { plain "java/io/Serializable" (some 0) with
  accessFlags := 1537
  interfaces := #[]
  cf := some (fileOf pool2 1 #[] #[] 1537 3 #[] #[])
  fields := #[]
  methods := #[]
  instanceTypes := #[]
  staticTypes := #[]
  resolved := Array.replicate 7 none
  statics := none }

def pool3 : Array CpInfo := pool [(1, .class_ 2), (0, u "java/lang/Comparable"), (0, .class_ 4), (0, u "java/lang/Object")] 7

/-- java/lang/Comparable -/
def k3 : Class := { plain "java/lang/Comparable" (some 0) with
  accessFlags := 1537
  interfaces := #[]
  cf := some (fileOf pool3 1 #[] #[] 1537 3 #[] #[])
  fields := #[]
  methods := #[]
  instanceTypes := #[]
  staticTypes := #[]
  resolved := Array.replicate 12 none
  statics := none }

def pool4 : Array CpInfo := pool [(2, .class_ 4), (1, u "java/lang/CharSequence"), (42, .class_ 48), (0, u "java/lang/CharSequence$1CodePointIterator"), (10, .class_ 60), (0, u "java/lang/CharSequence$1CharIterator"), (5, .class_ 67), (0, u "java/lang/Object")] 63

/-- java/lang/CharSequence -/
def k4 : Class := { plain "java/lang/CharSequence" (some 0) with
  accessFlags := 1537
  interfaces := #[]
  cf := some (fileOf pool4 2 #[.nestMembers #[47, 59]] #[] 1537 66 #[] #[])
  fields := #[]
  methods := #[]
  instanceTypes := #[]
  staticTypes := #[]
  resolved := Array.replicate 131 none
  statics := none }

def pool5 : Array CpInfo := pool [(1, .class_ 2), (0, u "java/lang/constant/Constable"), (0, .class_ 4), (0, u "java/lang/Object")] 6

/-- java/lang/constant/Constable -/
def k5 : Class := { plain "java/lang/constant/Constable" (some 0) with
  accessFlags := 1537
  interfaces := #[]
  cf := some (fileOf pool5 1 #[] #[] 1537 3 #[] #[])
  fields := #[]
  methods := #[]
  instanceTypes := #[]
  staticTypes := #[]
  resolved := Array.replicate 11 none
  statics := none }

def pool6 : Array CpInfo := pool [(1, .class_ 2), (0, u "java/lang/constant/ConstantDesc"), (0, .class_ 4), (0, u "java/lang/Object")] 32

/-- java/lang/constant/ConstantDesc -/
def k6 : Class := { plain "java/lang/constant/ConstantDesc" (some 0) with
  accessFlags := 1537
  interfaces := #[]
  cf := some (fileOf pool6 1 #[] #[] 1537 3 #[] #[])
  fields := #[]
  methods := #[]
  instanceTypes := #[]
  staticTypes := #[]
  resolved := Array.replicate 37 none
  statics := none }

def pool7 : Array CpInfo := pool [(1, .methodref 2 3), (0, .class_ 4), (0, .nameAndType 5 6), (0, u "java/lang/Object"), (0, u "<init>"), (0, u "()V"), (2, .fieldref 10 11), (0, .class_ 12), (0, .nameAndType 13 14), (0, u "java/lang/String"), (0, u "value"), (0, u "[B"), (0, .fieldref 10 16), (0, .nameAndType 17 18), (0, u "coder"), (0, u "B"), (2, u "hash"), (0, u "I"), (2, u "hashIsZero"), (0, u "Z"), (0, .methodref 10 28), (0, .nameAndType 5 29), (0, u "([CIILjava/lang/Void;)V"), (8, .fieldref 10 39), (0, .nameAndType 40 26), (0, u "COMPACT_STRINGS"), (1, .class_ 44), (1, u "java/lang/StringUTF16"), (0, u "compress"), (1, .methodref 42 48), (0, .nameAndType 49 50), (0, u "coderFromArrayLen"), (0, u "([BI)B"), (2, u "toBytes"), (53, .class_ 109), (1, u "java/lang/StringLatin1"), (32, u "()Z"), (34, .methodref 42 178), (0, .nameAndType 45 179), (0, u "([CII)[B"), (29, .methodref 10 210), (0, .nameAndType 5 211), (0, u "([BB)V"), (122, u "()I"), (0, .methodref 10 336), (0, .nameAndType 17 337), (0, u "()B"), (25, u "([BI)C"), (5, u "(C)Z"), (21, u "(II)V"), (35, u "(I)C"), (64, .methodref 10 493), (0, .nameAndType 494 142), (0, u "isLatin1"), (0, .methodref 107 496), (0, .nameAndType 497 363), (0, u "charAt"), (3, u "checkIndex"), (5, u "length"), (33, .methodref 107 542), (0, .nameAndType 543 544), (0, u "equals"), (0, u "([B[B)Z"), (28, u "(Ljava/lang/Object;)Z"), (1, .class_ 576), (0, u "java/lang/CharSequence"), (22, u "CASE_INSENSITIVE_ORDER"), (0, u "Ljava/util/Comparator;"), (181, u "valueOf"), (0, u "(C)Ljava/lang/String;"), (226, u "([C)V"), (4, .methodref 107 1016), (0, .nameAndType 1017 369), (0, u "canEncode"), (0, .methodref 107 1019), (0, .nameAndType 53 1020), (0, u "(C)[B"), (32, .fieldref 1054 1055), (0, .class_ 1056), (0, .nameAndType 1057 1058), (0, u "jdk/internal/util/Preconditions"), (0, u "SIOOBE_FORMATTER"), (0, u "Ljava/util/function/BiFunction;"), (0, .methodref 1054 1060), (0, .nameAndType 501 1061), (0, u "(IILjava/util/function/BiFunction;)I"), (39, u "serialPersistentFields"), (0, u "[Ljava/io/ObjectStreamField;"), (0, .class_ 1104), (0, u "java/lang/String$CaseInsensitiveComparator"), (1, .class_ 1107), (0, u "java/io/Serializable"), (0, .class_ 1109), (0, u "java/lang/Comparable"), (0, .class_ 1111), (0, u "java/lang/constant/Constable"), (0, .class_ 1113), (0, u "java/lang/constant/ConstantDesc"), (2, u "serialVersionUID"), (0, u "J"), (3, u "REPL"), (0, u "C"), (2, u "LATIN1"), (1, u "UTF16")] 323

def k7m0 : Method := { name := "<init>", desc := "()V", sig := { parameters := [], returnType := none }, accessFlags := 1, code := none }
def k7c1 : Code := { maxStack := 5, maxLocals := 2, code := jdk_42_method_3_code, exceptionTable := #[], attributes := #[] }
def k7m1 : Method := { name := "<init>", desc := "([C)V", sig := { parameters := [(.array .char)], returnType := none }, accessFlags := 1, code := some k7c1 }
def k7c2 : Code := { maxStack := 2, maxLocals := 1, code := jdk_42_method_54_code, exceptionTable := #[], attributes := #[] }
def k7m2 : Method := { name := "length", desc := "()I", sig := { parameters := [], returnType := some .int }, accessFlags := 1, code := some k7c2 }
def k7c3 : Code := { maxStack := 2, maxLocals := 2, code := jdk_42_method_56_code, exceptionTable := #[], attributes := #[] }
def k7m3 : Method := { name := "charAt", desc := "(I)C", sig := { parameters := [.int], returnType := some .char }, accessFlags := 1, code := some k7c3 }
def k7c4 : Code := { maxStack := 2, maxLocals := 3, code := jdk_42_method_66_code, exceptionTable := #[], attributes := #[] }
def k7m4 : Method := { name := "equals", desc := "(Ljava/lang/Object;)Z", sig := { parameters := [(.object "java/lang/Object")], returnType := some .boolean }, accessFlags := 1, code := some k7c4 }
def k7c5 : Code := { maxStack := 4, maxLocals := 1, code := jdk_42_method_139_code, exceptionTable := #[], attributes := #[] }
def k7m5 : Method := { name := "valueOf", desc := "(C)Ljava/lang/String;", sig := { parameters := [.char], returnType := some (.object "java/lang/String") }, accessFlags := 9, code := some k7c5 }
def k7c6 : Code := { maxStack := 4, maxLocals := 6, code := jdk_42_method_149_code, exceptionTable := #[], attributes := #[] }
def k7m6 : Method := { name := "<init>", desc := "([CIILjava/lang/Void;)V", sig := { parameters := [(.array .char), .int, .int, (.object "java/lang/Void")], returnType := none }, accessFlags := 2, code := some k7c6 }
def k7c7 : Code := { maxStack := 2, maxLocals := 3, code := jdk_42_method_151_code, exceptionTable := #[], attributes := #[] }
def k7m7 : Method := { name := "<init>", desc := "([BB)V", sig := { parameters := [(.array .byte), .byte], returnType := none }, accessFlags := 0, code := some k7c7 }
def k7c8 : Code := { maxStack := 1, maxLocals := 1, code := jdk_42_method_152_code, exceptionTable := #[], attributes := #[] }
def k7m8 : Method := { name := "coder", desc := "()B", sig := { parameters := [], returnType := some .byte }, accessFlags := 0, code := some k7c8 }
def k7c9 : Code := { maxStack := 1, maxLocals := 1, code := jdk_42_method_154_code, exceptionTable := #[], attributes := #[] }
def k7m9 : Method := { name := "isLatin1", desc := "()Z", sig := { parameters := [], returnType := some .boolean }, accessFlags := 0, code := some k7c9 }
def k7c10 : Code := { maxStack := 3, maxLocals := 2, code := jdk_42_method_155_code, exceptionTable := #[], attributes := #[] }
def k7m10 : Method := { name := "checkIndex", desc := "(II)V", sig := { parameters := [.int, .int], returnType := none }, accessFlags := 8, code := some k7c10 }
/-- java/lang/String -/
def k7 : Class := { plain "java/lang/String" (some 0) with
  accessFlags := 49
  interfaces := #[2, 3, 4, 5, 6]
  cf := some (fileOf pool7 10 #[.nestMembers #[1103]] #[{ accessFlags := 1, nameIndex := 5, descriptorIndex := 6, attributes := #[] }, { accessFlags := 1, nameIndex := 5, descriptorIndex := 1010, attributes := #[] }, { accessFlags := 1, nameIndex := 507, descriptorIndex := 334, attributes := #[] }, { accessFlags := 1, nameIndex := 497, descriptorIndex := 427, attributes := #[] }, { accessFlags := 1, nameIndex := 543, descriptorIndex := 573, attributes := #[] }, { accessFlags := 9, nameIndex := 782, descriptorIndex := 783, attributes := #[] }, { accessFlags := 2, nameIndex := 5, descriptorIndex := 29, attributes := #[] }, { accessFlags := 0, nameIndex := 5, descriptorIndex := 211, attributes := #[] }, { accessFlags := 0, nameIndex := 17, descriptorIndex := 337, attributes := #[] }, { accessFlags := 0, nameIndex := 494, descriptorIndex := 142, attributes := #[] }, { accessFlags := 8, nameIndex := 501, descriptorIndex := 391, attributes := #[] }] 49 2 #[1106, 1108, 575, 1110, 1112] #[{ accessFlags := 18, nameIndex := 13, descriptorIndex := 14, attributes := #[] }, { accessFlags := 18, nameIndex := 17, descriptorIndex := 18, attributes := #[] }, { accessFlags := 2, nameIndex := 21, descriptorIndex := 22, attributes := #[] }, { accessFlags := 2, nameIndex := 25, descriptorIndex := 26, attributes := #[] }, { accessFlags := 26, nameIndex := 1116, descriptorIndex := 1117, attributes := #[] }, { accessFlags := 24, nameIndex := 40, descriptorIndex := 26, attributes := #[] }, { accessFlags := 26, nameIndex := 1101, descriptorIndex := 1102, attributes := #[] }, { accessFlags := 26, nameIndex := 1121, descriptorIndex := 1122, attributes := #[] }, { accessFlags := 25, nameIndex := 599, descriptorIndex := 600, attributes := #[] }, { accessFlags := 24, nameIndex := 1125, descriptorIndex := 18, attributes := #[] }, { accessFlags := 24, nameIndex := 1127, descriptorIndex := 18, attributes := #[] }])
  fields := #[{ name := "value", type := (.array .byte), accessFlags := 18, slot := 0, constantValue := 0 }, { name := "coder", type := .byte, accessFlags := 18, slot := 1, constantValue := 0 }, { name := "hash", type := .int, accessFlags := 2, slot := 2, constantValue := 0 }, { name := "hashIsZero", type := .boolean, accessFlags := 2, slot := 3, constantValue := 0 }, { name := "serialVersionUID", type := .long, accessFlags := 26, slot := 0, constantValue := 0 }, { name := "COMPACT_STRINGS", type := .boolean, accessFlags := 24, slot := 1, constantValue := 0 }, { name := "serialPersistentFields", type := (.array (.object "java/io/ObjectStreamField")), accessFlags := 26, slot := 2, constantValue := 0 }, { name := "REPL", type := .char, accessFlags := 26, slot := 3, constantValue := 0 }, { name := "CASE_INSENSITIVE_ORDER", type := (.object "java/util/Comparator"), accessFlags := 25, slot := 4, constantValue := 0 }, { name := "LATIN1", type := .byte, accessFlags := 24, slot := 5, constantValue := 0 }, { name := "UTF16", type := .byte, accessFlags := 24, slot := 6, constantValue := 0 }]
  methods := #[k7m0, k7m1, k7m2, k7m3, k7m4, k7m5, k7m6, k7m7, k7m8, k7m9, k7m10]
  instanceTypes := #[(.array .byte), .byte, .int, .boolean]
  staticTypes := #[.long, .boolean, (.array (.object "java/io/ObjectStreamField")), .char, (.object "java/util/Comparator"), .byte, .byte]
  resolved := Array.replicate 1451 none
  statics := some 0 }

def pool8 : Array CpInfo := pool [(1, .class_ 2), (0, u "java/lang/String"), (1, .class_ 6), (1, u "java/lang/Object"), (0, u "<init>"), (0, u "()V"), (0, .methodref 1 10), (0, .nameAndType 11 12), (0, u "checkIndex"), (0, u "(II)V"), (1, .class_ 16), (1, u "java/lang/StringLatin1"), (36, u "([BI)C"), (36, u "canEncode"), (14, u "(C)Z"), (15, u "$assertionsDisabled"), (0, u "Z"), (98, .class_ 223), (1, u "java/lang/StringLatin1$LinesSpliterator"), (28, u "charAt"), (28, u "equals"), (0, u "([B[B)Z"), (97, u "toBytes"), (1, u "(C)[B"), (7, .class_ 391), (0, u "java/lang/StringLatin1$CharsSpliterator")] 3

def k8m0 : Method := { name := "<init>", desc := "()V", sig := { parameters := [], returnType := none }, accessFlags := 0, code := none }
def k8c1 : Code := { maxStack := 2, maxLocals := 2, code := jdk_43_method_2_code, exceptionTable := #[], attributes := #[] }
def k8m1 : Method := { name := "charAt", desc := "([BI)C", sig := { parameters := [(.array .byte), .int], returnType := some .char }, accessFlags := 9, code := some k8c1 }
def k8c2 : Code := { maxStack := 2, maxLocals := 1, code := jdk_43_method_3_code, exceptionTable := #[], attributes := #[] }
def k8m2 : Method := { name := "canEncode", desc := "(C)Z", sig := { parameters := [.char], returnType := some .boolean }, accessFlags := 9, code := some k8c2 }
def k8c3 : Code := { maxStack := 3, maxLocals := 3, code := jdk_43_method_13_code, exceptionTable := #[], attributes := #[] }
def k8m3 : Method := { name := "equals", desc := "([B[B)Z", sig := { parameters := [(.array .byte), (.array .byte)], returnType := some .boolean }, accessFlags := 9, code := some k8c3 }
def k8c4 : Code := { maxStack := 4, maxLocals := 1, code := jdk_43_method_46_code, exceptionTable := #[], attributes := #[] }
def k8m4 : Method := { name := "toBytes", desc := "(C)[B", sig := { parameters := [.char], returnType := some (.array .byte) }, accessFlags := 9, code := some k8c4 }
/-- java/lang/StringLatin1 -/
def k8 : Class := { plain "java/lang/StringLatin1" (some 0) with
  accessFlags := 48
  interfaces := #[]
  cf := some (fileOf pool8 14 #[.nestMembers #[390, 221]] #[{ accessFlags := 0, nameIndex := 7, descriptorIndex := 8, attributes := #[] }, { accessFlags := 9, nameIndex := 252, descriptorIndex := 53, attributes := #[] }, { accessFlags := 9, nameIndex := 90, descriptorIndex := 105, attributes := #[] }, { accessFlags := 9, nameIndex := 281, descriptorIndex := 282, attributes := #[] }, { accessFlags := 9, nameIndex := 380, descriptorIndex := 382, attributes := #[] }] 48 4 #[] #[{ accessFlags := 4120, nameIndex := 121, descriptorIndex := 122, attributes := #[] }])
  fields := #[{ name := "$assertionsDisabled", type := .boolean, accessFlags := 4120, slot := 0, constantValue := 0 }]
  methods := #[k8m0, k8m1, k8m2, k8m3, k8m4]
  instanceTypes := #[]
  staticTypes := #[.boolean]
  resolved := Array.replicate 395 none
  statics := none }

def pool9 : Array CpInfo := pool [(8, .class_ 10), (1, u "java/lang/Iterable"), (24, .class_ 36), (0, u "java/lang/Object")] 25

/-- java/lang/Iterable -/
def k9 : Class := { plain "java/lang/Iterable" (some 0) with
  accessFlags := 1537
  interfaces := #[]
  cf := some (fileOf pool9 8 #[] #[] 1537 35 #[] #[])
  fields := #[]
  methods := #[]
  instanceTypes := #[]
  staticTypes := #[]
  resolved := Array.replicate 62 none
  statics := none }

def pool10 : Array CpInfo := pool [(10, .class_ 12), (1, u "java/util/Collection"), (47, .class_ 61), (0, u "java/lang/Object"), (0, .class_ 63), (0, u "java/lang/Iterable")] 51

/-- java/util/Collection -/
def k10 : Class := { plain "java/util/Collection" (some 0) with
  accessFlags := 1537
  interfaces := #[9]
  cf := some (fileOf pool10 10 #[] #[] 1537 60 #[62] #[])
  fields := #[]
  methods := #[]
  instanceTypes := #[]
  staticTypes := #[]
  resolved := Array.replicate 115 none
  statics := none }

def pool11 : Array CpInfo := pool [(1, .methodref 2 3), (0, .class_ 4), (0, .nameAndType 5 6), (0, u "java/lang/Object"), (0, u "<init>"), (0, u "()V"), (1, .class_ 10), (1, u "java/util/AbstractCollection"), (66, .class_ 78), (0, u "java/util/Collection")] 81

def k11c0 : Code := { maxStack := 1, maxLocals := 1, code := jdk_22_method_1_code, exceptionTable := #[], attributes := #[] }
def k11m0 : Method := { name := "<init>", desc := "()V", sig := { parameters := [], returnType := none }, accessFlags := 4, code := some k11c0 }
/-- java/util/AbstractCollection -/
def k11 : Class := { plain "java/util/AbstractCollection" (some 0) with
  accessFlags := 1057
  interfaces := #[10]
  cf := some (fileOf pool11 8 #[] #[{ accessFlags := 4, nameIndex := 5, descriptorIndex := 6, attributes := #[] }] 1057 2 #[77] #[])
  fields := #[]
  methods := #[k11m0]
  instanceTypes := #[]
  staticTypes := #[]
  resolved := Array.replicate 160 none
  statics := none }

def pool12 : Array CpInfo := pool [(8, .class_ 10), (1, u "java/util/SequencedCollection"), (15, .class_ 27), (0, u "java/lang/Object"), (0, .class_ 29), (0, u "java/util/Collection")] 27

/-- java/util/SequencedCollection -/
def k12 : Class := { plain "java/util/SequencedCollection" (some 0) with
  accessFlags := 1537
  interfaces := #[10]
  cf := some (fileOf pool12 8 #[] #[] 1537 26 #[28] #[])
  fields := #[]
  methods := #[]
  instanceTypes := #[]
  staticTypes := #[]
  resolved := Array.replicate 57 none
  statics := none }

def pool13 : Array CpInfo := pool [(8, .class_ 10), (1, u "java/util/List"), (49, u "add"), (3, u "(Ljava/lang/Object;)Z"), (10, u "get"), (0, u "(I)Ljava/lang/Object;"), (2, u "size"), (0, u "()I"), (22, .class_ 104), (0, u "java/lang/Object"), (15, .class_ 121), (0, u "java/util/SequencedCollection")] 129

def k13m0 : Method := { name := "size", desc := "()I", sig := { parameters := [], returnType := some .int }, accessFlags := 1025, code := none }
def k13m1 : Method := { name := "add", desc := "(Ljava/lang/Object;)Z", sig := { parameters := [(.object "java/lang/Object")], returnType := some .boolean }, accessFlags := 1025, code := none }
def k13m2 : Method := { name := "get", desc := "(I)Ljava/lang/Object;", sig := { parameters := [.int], returnType := some (.object "java/lang/Object") }, accessFlags := 1025, code := none }
/-- java/util/List -/
def k13 : Class := { plain "java/util/List" (some 0) with
  accessFlags := 1537
  interfaces := #[12]
  cf := some (fileOf pool13 8 #[] #[{ accessFlags := 1025, nameIndex := 79, descriptorIndex := 80, attributes := #[] }, { accessFlags := 1025, nameIndex := 60, descriptorIndex := 64, attributes := #[] }, { accessFlags := 1025, nameIndex := 75, descriptorIndex := 76, attributes := #[] }] 1537 103 #[120] #[])
  fields := #[]
  methods := #[k13m0, k13m1, k13m2]
  instanceTypes := #[]
  staticTypes := #[]
  resolved := Array.replicate 251 none
  statics := none }

def pool14 : Array CpInfo := pool [(1, .methodref 2 3), (0, .class_ 4), (0, .nameAndType 5 6), (0, u "java/util/AbstractCollection"), (0, u "<init>"), (0, u "()V"), (0, .fieldref 8 9), (0, .class_ 10), (0, .nameAndType 11 12), (0, u "java/util/AbstractList"), (0, u "modCount"), (0, u "I"), (64, .class_ 78), (0, u "java/util/AbstractList$Itr"), (3, .class_ 83), (0, u "java/util/AbstractList$ListItr"), (9, .class_ 94), (0, u "java/util/AbstractList$RandomAccessSubList"), (3, .class_ 99), (0, u "java/util/AbstractList$SubList"), (33, .class_ 134), (0, u "java/util/List"), (73, .class_ 209), (0, u "java/util/AbstractList$SubList$1"), (0, .class_ 211), (0, u "java/util/AbstractList$RandomAccessSpliterator")] 6

def k14c0 : Code := { maxStack := 2, maxLocals := 1, code := jdk_39_method_1_code, exceptionTable := #[], attributes := #[] }
def k14m0 : Method := { name := "<init>", desc := "()V", sig := { parameters := [], returnType := none }, accessFlags := 4, code := some k14c0 }
/-- java/util/AbstractList -/
def k14 : Class := { plain "java/util/AbstractList" (some 11) with
  accessFlags := 1057
  interfaces := #[13]
  cf := some (fileOf pool14 8 #[.nestMembers #[93, 98, 208, 210, 82, 77]] #[{ accessFlags := 4, nameIndex := 5, descriptorIndex := 6, attributes := #[] }] 1057 2 #[133] #[{ accessFlags := 132, nameIndex := 11, descriptorIndex := 12, attributes := #[] }])
  fields := #[{ name := "modCount", type := .int, accessFlags := 132, slot := 0, constantValue := 0 }]
  methods := #[k14m0]
  instanceTypes := #[.int]
  staticTypes := #[]
  resolved := Array.replicate 218 none
  statics := none }

def pool15 : Array CpInfo := pool [(1, .class_ 2), (0, u "java/util/RandomAccess"), (0, .class_ 4), (0, u "java/lang/Object")] 2

/-- java/util/RandomAccess -/
def k15 : Class := { plain "java/util/RandomAccess" (some 0) with
  accessFlags := 1537
  interfaces := #[]
  cf := some (fileOf pool15 1 #[] #[] 1537 3 #[] #[])
  fields := #[]
  methods := #[]
  instanceTypes := #[]
  staticTypes := #[]
  resolved := Array.replicate 7 none
  statics := none }

def pool16 : Array CpInfo := pool [(1, .class_ 2), (0, u "java/lang/Cloneable"), (0, .class_ 4), (0, u "java/lang/Object")] 2

/-- java/lang/Cloneable -/
def k16 : Class := { plain "java/lang/Cloneable" (some 0) with
  accessFlags := 1537
  interfaces := #[]
  cf := some (fileOf pool16 1 #[] #[] 1537 3 #[] #[])
  fields := #[]
  methods := #[]
  instanceTypes := #[]
  staticTypes := #[]
  resolved := Array.replicate 7 none
  statics := none }

def pool17 : Array CpInfo := pool [(1, .methodref 2 3), (0, .class_ 4), (0, .nameAndType 5 6), (0, u "java/util/AbstractList"), (0, u "<init>"), (0, u "()V"), (0, .class_ 8), (0, u "java/lang/Object"), (0, .fieldref 10 11), (0, .class_ 12), (0, .nameAndType 13 14), (0, u "java/util/ArrayList"), (0, u "elementData"), (0, u "[Ljava/lang/Object;"), (2, u "EMPTY_ELEMENTDATA"), (21, .fieldref 10 40), (0, .nameAndType 41 14), (0, u "DEFAULTCAPACITY_EMPTY_ELEMENTDATA"), (5, u "()[Ljava/lang/Object;"), (0, .fieldref 10 49), (0, .nameAndType 50 51), (0, u "size"), (0, u "I"), (11, .fieldref 10 64), (0, .nameAndType 65 51), (0, u "modCount"), (3, .methodref 10 70), (0, .nameAndType 71 72), (0, u "grow"), (0, u "(I)[Ljava/lang/Object;"), (6, .methodref 80 81), (0, .class_ 82), (0, .nameAndType 83 84), (0, u "java/lang/Math"), (0, u "max"), (0, u "(II)I"), (11, u "(Ljava/lang/Object;)Z"), (21, .methodref 119 120), (0, .class_ 121), (0, .nameAndType 122 84), (0, u "java/util/Objects"), (0, u "checkIndex"), (0, .methodref 10 124), (0, .nameAndType 13 125), (0, u "(I)Ljava/lang/Object;"), (3, .methodref 10 130), (0, .nameAndType 71 47), (0, .methodref 10 132), (0, .nameAndType 133 134), (0, u "add"), (0, u "(Ljava/lang/Object;[Ljava/lang/Object;I)V"), (13, .class_ 149), (0, u "java/util/List"), (36, u "()I"), (75, .class_ 263), (0, u "java/util/ArrayList$ListItr"), (3, .class_ 268), (0, u "java/util/ArrayList$Itr"), (7, .class_ 277), (0, u "java/util/ArrayList$SubList"), (12, .class_ 291), (0, u "java/util/ArrayList$ArrayListSpliterator"), (37, .class_ 330), (0, u "java/util/RandomAccess"), (0, .class_ 332), (0, u "java/lang/Cloneable"), (0, .class_ 334), (0, u "java/io/Serializable"), (0, u "serialVersionUID"), (0, u "J"), (3, u "DEFAULT_CAPACITY"), (40, u "get"), (118, .class_ 501), (0, u "java/util/ArrayList$SubList$2"), (0, .class_ 503), (0, u "java/util/ArrayList$SubList$1")] 5

def k17c0 : Code := { maxStack := 2, maxLocals := 1, code := jdk_38_method_2_code, exceptionTable := #[], attributes := #[] }
def k17m0 : Method := { name := "<init>", desc := "()V", sig := { parameters := [], returnType := none }, accessFlags := 1, code := some k17c0 }
def k17c1 : Code := { maxStack := 4, maxLocals := 4, code := jdk_38_method_6_code, exceptionTable := #[], attributes := #[] }
def k17m1 : Method := { name := "grow", desc := "(I)[Ljava/lang/Object;", sig := { parameters := [.int], returnType := some (.array (.object "java/lang/Object")) }, accessFlags := 2, code := some k17c1 }
def k17c2 : Code := { maxStack := 3, maxLocals := 1, code := jdk_38_method_7_code, exceptionTable := #[], attributes := #[] }
def k17m2 : Method := { name := "grow", desc := "()[Ljava/lang/Object;", sig := { parameters := [], returnType := some (.array (.object "java/lang/Object")) }, accessFlags := 2, code := some k17c2 }
def k17c3 : Code := { maxStack := 1, maxLocals := 1, code := jdk_38_method_8_code, exceptionTable := #[], attributes := #[] }
def k17m3 : Method := { name := "size", desc := "()I", sig := { parameters := [], returnType := some .int }, accessFlags := 1, code := some k17c3 }
def k17c4 : Code := { maxStack := 2, maxLocals := 2, code := jdk_38_method_18_code, exceptionTable := #[], attributes := #[] }
def k17m4 : Method := { name := "elementData", desc := "(I)Ljava/lang/Object;", sig := { parameters := [.int], returnType := some (.object "java/lang/Object") }, accessFlags := 0, code := some k17c4 }
def k17c5 : Code := { maxStack := 2, maxLocals := 2, code := jdk_38_method_20_code, exceptionTable := #[], attributes := #[] }
def k17m5 : Method := { name := "get", desc := "(I)Ljava/lang/Object;", sig := { parameters := [.int], returnType := some (.object "java/lang/Object") }, accessFlags := 1, code := some k17c5 }
def k17c6 : Code := { maxStack := 3, maxLocals := 4, code := jdk_38_method_24_code, exceptionTable := #[], attributes := #[] }
def k17m6 : Method := { name := "add", desc := "(Ljava/lang/Object;[Ljava/lang/Object;I)V", sig := { parameters := [(.object "java/lang/Object"), (.array (.object "java/lang/Object")), .int], returnType := none }, accessFlags := 2, code := some k17c6 }
def k17c7 : Code := { maxStack := 4, maxLocals := 2, code := jdk_38_method_25_code, exceptionTable := #[], attributes := #[] }
def k17m7 : Method := { name := "add", desc := "(Ljava/lang/Object;)Z", sig := { parameters := [(.object "java/lang/Object")], returnType := some .boolean }, accessFlags := 1, code := some k17c7 }
/-- java/util/ArrayList -/
def k17 : Class := { plain "java/util/ArrayList" (some 14) with
  accessFlags := 33
  interfaces := #[13, 15, 16, 2]
  cf := some (fileOf pool17 10 #[.nestMembers #[290, 276, 500, 502, 262, 267]] #[{ accessFlags := 1, nameIndex := 5, descriptorIndex := 6, attributes := #[] }, { accessFlags := 2, nameIndex := 71, descriptorIndex := 72, attributes := #[] }, { accessFlags := 2, nameIndex := 71, descriptorIndex := 47, attributes := #[] }, { accessFlags := 1, nameIndex := 50, descriptorIndex := 186, attributes := #[] }, { accessFlags := 0, nameIndex := 13, descriptorIndex := 125, attributes := #[] }, { accessFlags := 1, nameIndex := 381, descriptorIndex := 125, attributes := #[] }, { accessFlags := 2, nameIndex := 133, descriptorIndex := 134, attributes := #[] }, { accessFlags := 1, nameIndex := 133, descriptorIndex := 96, attributes := #[] }] 33 2 #[148, 329, 331, 333] #[{ accessFlags := 26, nameIndex := 335, descriptorIndex := 336, attributes := #[] }, { accessFlags := 26, nameIndex := 340, descriptorIndex := 51, attributes := #[] }, { accessFlags := 26, nameIndex := 17, descriptorIndex := 14, attributes := #[] }, { accessFlags := 26, nameIndex := 41, descriptorIndex := 14, attributes := #[] }, { accessFlags := 128, nameIndex := 13, descriptorIndex := 14, attributes := #[] }, { accessFlags := 2, nameIndex := 50, descriptorIndex := 51, attributes := #[] }])
  fields := #[{ name := "serialVersionUID", type := .long, accessFlags := 26, slot := 0, constantValue := 0 }, { name := "DEFAULT_CAPACITY", type := .int, accessFlags := 26, slot := 1, constantValue := 0 }, { name := "EMPTY_ELEMENTDATA", type := (.array (.object "java/lang/Object")), accessFlags := 26, slot := 2, constantValue := 0 }, { name := "DEFAULTCAPACITY_EMPTY_ELEMENTDATA", type := (.array (.object "java/lang/Object")), accessFlags := 26, slot := 3, constantValue := 0 }, { name := "elementData", type := (.array (.object "java/lang/Object")), accessFlags := 128, slot := 1, constantValue := 0 }, { name := "size", type := .int, accessFlags := 2, slot := 2, constantValue := 0 }]
  methods := #[k17m0, k17m1, k17m2, k17m3, k17m4, k17m5, k17m6, k17m7]
  instanceTypes := #[.int, (.array (.object "java/lang/Object")), .int]
  staticTypes := #[.long, .int, (.array (.object "java/lang/Object")), (.array (.object "java/lang/Object"))]
  resolved := Array.replicate 509 none
  statics := some 1 }

def pool18 : Array CpInfo := pool [(2, .class_ 4), (1, u "java/lang/Object"), (0, u "<init>"), (0, u "()V"), (35, .class_ 44), (1, u "com/example/tags_to_grants/tagstogrants/cli/TagsToGrants"), (7, .class_ 54), (1, u "java/lang/String"), (25, u "SUBCOMMANDS"), (0, u "Ljava/util/Map;"), (4, u "get"), (1, .class_ 89), (0, u "com/example/tags_to_grants/tagstogrants/cli/TagsToGrants$Subcommand"), (9, .class_ 101), (1, u "java/util/List"), (35, .interfaceMethodref 99 138), (0, .nameAndType 139 140), (0, u "size"), (0, u "()I"), (0, .interfaceMethodref 99 142), (0, .nameAndType 86 143), (0, u "(I)Ljava/lang/Object;"), (0, .string 145), (0, u "--as"), (0, .methodref 52 147), (0, .nameAndType 148 149), (0, u "equals"), (0, u "(Ljava/lang/Object;)Z"), (142, u "EXIT_OK"), (0, u "I"), (2, u "EXIT_DENY"), (1, u "EXIT_ERROR"), (1, u "PROGRAM"), (0, u "Ljava/lang/String;"), (11, u "isOneRequest"), (0, u "(Ljava/util/List;)Z")] 87

def k18m0 : Method := { name := "<init>", desc := "()V", sig := { parameters := [], returnType := none }, accessFlags := 2, code := none }
def k18c1 : Code := { maxStack := 2, maxLocals := 1, code := prog_10_method_5_code, exceptionTable := #[], attributes := #[] }
def k18m1 : Method := { name := "isOneRequest", desc := "(Ljava/util/List;)Z", sig := { parameters := [(.object "java/util/List")], returnType := some .boolean }, accessFlags := 8, code := some k18c1 }
/-- com/example/tags_to_grants/tagstogrants/cli/TagsToGrants -/
def k18 : Class := { plain "com/example/tags_to_grants/tagstogrants/cli/TagsToGrants" (some 0) with
  accessFlags := 49
  interfaces := #[]
  cf := some (fileOf pool18 42 #[.nestMembers #[88]] #[{ accessFlags := 2, nameIndex := 5, descriptorIndex := 6, attributes := #[] }, { accessFlags := 8, nameIndex := 313, descriptorIndex := 314, attributes := #[] }] 49 2 #[] #[{ accessFlags := 24, nameIndex := 292, descriptorIndex := 293, attributes := #[] }, { accessFlags := 24, nameIndex := 296, descriptorIndex := 293, attributes := #[] }, { accessFlags := 24, nameIndex := 298, descriptorIndex := 293, attributes := #[] }, { accessFlags := 26, nameIndex := 300, descriptorIndex := 301, attributes := #[] }, { accessFlags := 26, nameIndex := 80, descriptorIndex := 81, attributes := #[] }])
  fields := #[{ name := "EXIT_OK", type := .int, accessFlags := 24, slot := 0, constantValue := 0 }, { name := "EXIT_DENY", type := .int, accessFlags := 24, slot := 1, constantValue := 0 }, { name := "EXIT_ERROR", type := .int, accessFlags := 24, slot := 2, constantValue := 0 }, { name := "PROGRAM", type := (.object "java/lang/String"), accessFlags := 26, slot := 3, constantValue := 0 }, { name := "SUBCOMMANDS", type := (.object "java/util/Map"), accessFlags := 26, slot := 4, constantValue := 0 }]
  methods := #[k18m0, k18m1]
  instanceTypes := #[]
  staticTypes := #[.int, .int, .int, (.object "java/lang/String"), (.object "java/util/Map")]
  resolved := Array.replicate 402 none
  statics := none }

def pool19 : Array CpInfo := pool [(1, .class_ 2), (0, u "java/lang/Math"), (1, .class_ 6), (1, u "java/lang/Object"), (0, u "<init>"), (0, u "()V"), (89, .class_ 100), (1, u "java/lang/Math$RandomNumberGeneratorHolder"), (71, u "negativeZeroFloatBits"), (0, u "J"), (2, u "negativeZeroDoubleBits"), (21, u "max"), (46, u "$assertionsDisabled"), (0, u "Z"), (88, u "(II)I"), (2, u "twoToTheDoubleScaleDown"), (0, u "D"), (4, u "twoToTheDoubleScaleUp"), (9, u "E"), (3, u "PI"), (2, u "TAU"), (2, u "DEGREES_TO_RADIANS"), (0, u "RADIANS_TO_DEGREES")] 94

def k19m0 : Method := { name := "<init>", desc := "()V", sig := { parameters := [], returnType := none }, accessFlags := 2, code := none }
def k19c1 : Code := { maxStack := 2, maxLocals := 2, code := jdk_29_method_65_code, exceptionTable := #[], attributes := #[] }
def k19m1 : Method := { name := "max", desc := "(II)I", sig := { parameters := [.int, .int], returnType := some .int }, accessFlags := 9, code := some k19c1 }
/-- java/lang/Math -/
def k19 : Class := { plain "java/lang/Math" (some 0) with
  accessFlags := 49
  interfaces := #[]
  cf := some (fileOf pool19 1 #[.nestMembers #[98]] #[{ accessFlags := 2, nameIndex := 7, descriptorIndex := 8, attributes := #[] }, { accessFlags := 9, nameIndex := 198, descriptorIndex := 335, attributes := #[] }] 49 4 #[] #[{ accessFlags := 25, nameIndex := 354, descriptorIndex := 339, attributes := #[] }, { accessFlags := 25, nameIndex := 358, descriptorIndex := 339, attributes := #[] }, { accessFlags := 25, nameIndex := 361, descriptorIndex := 339, attributes := #[] }, { accessFlags := 26, nameIndex := 364, descriptorIndex := 339, attributes := #[] }, { accessFlags := 26, nameIndex := 365, descriptorIndex := 339, attributes := #[] }, { accessFlags := 26, nameIndex := 172, descriptorIndex := 173, attributes := #[] }, { accessFlags := 26, nameIndex := 176, descriptorIndex := 173, attributes := #[] }, { accessFlags := 8, nameIndex := 344, descriptorIndex := 339, attributes := #[] }, { accessFlags := 8, nameIndex := 338, descriptorIndex := 339, attributes := #[] }, { accessFlags := 4120, nameIndex := 245, descriptorIndex := 246, attributes := #[] }])
  fields := #[{ name := "E", type := .double, accessFlags := 25, slot := 0, constantValue := 0 }, { name := "PI", type := .double, accessFlags := 25, slot := 1, constantValue := 0 }, { name := "TAU", type := .double, accessFlags := 25, slot := 2, constantValue := 0 }, { name := "DEGREES_TO_RADIANS", type := .double, accessFlags := 26, slot := 3, constantValue := 0 }, { name := "RADIANS_TO_DEGREES", type := .double, accessFlags := 26, slot := 4, constantValue := 0 }, { name := "negativeZeroFloatBits", type := .long, accessFlags := 26, slot := 5, constantValue := 0 }, { name := "negativeZeroDoubleBits", type := .long, accessFlags := 26, slot := 6, constantValue := 0 }, { name := "twoToTheDoubleScaleUp", type := .double, accessFlags := 8, slot := 7, constantValue := 0 }, { name := "twoToTheDoubleScaleDown", type := .double, accessFlags := 8, slot := 8, constantValue := 0 }, { name := "$assertionsDisabled", type := .boolean, accessFlags := 4120, slot := 9, constantValue := 0 }]
  methods := #[k19m0, k19m1]
  instanceTypes := #[]
  staticTypes := #[.double, .double, .double, .double, .double, .long, .long, .double, .double, .boolean]
  resolved := Array.replicate 460 none
  statics := none }

def pool20 : Array CpInfo := pool [(6, .class_ 8), (1, u "java/lang/Object"), (0, u "<init>"), (0, u "()V"), (1, .class_ 14), (1, u "java/lang/StringUTF16"), (31, u "$assertionsDisabled"), (0, u "Z"), (13, u "HI_BYTE_SHIFT"), (0, u "I"), (2, u "LO_BYTE_SHIFT"), (49, .methodref 12 116), (0, .nameAndType 117 118), (0, u "compress"), (0, u "([CI[BII)I"), (3, u "([CII)[B"), (138, u "coderFromArrayLen"), (0, u "([BI)B"), (106, .class_ 371), (1, u "java/lang/StringUTF16$LinesSpliterator"), (58, u "MAX_LENGTH"), (196, .class_ 628), (0, u "java/lang/StringUTF16$CodePointsSpliterator"), (0, .class_ 630), (0, u "java/lang/StringUTF16$CharsSpliterator")] 4

def k20m0 : Method := { name := "<init>", desc := "()V", sig := { parameters := [], returnType := none }, accessFlags := 0, code := none }
def k20c1 : Code := { maxStack := 2, maxLocals := 2, code := jdk_52_method_15_code, exceptionTable := #[], attributes := #[] }
def k20m1 : Method := { name := "coderFromArrayLen", desc := "([BI)B", sig := { parameters := [(.array .byte), .int], returnType := some .byte }, accessFlags := 8, code := some k20c1 }
def k20c2 : Code := { maxStack := 5, maxLocals := 6, code := jdk_52_method_16_code, exceptionTable := #[], attributes := #[] }
def k20m2 : Method := { name := "compress", desc := "([CII)[B", sig := { parameters := [(.array .char), .int, .int], returnType := some (.array .byte) }, accessFlags := 9, code := some k20c2 }
def k20c3 : Code := { maxStack := 3, maxLocals := 7, code := jdk_52_method_21_code, exceptionTable := #[], attributes := #[] }
def k20m3 : Method := { name := "compress", desc := "([CI[BII)I", sig := { parameters := [(.array .char), .int, (.array .byte), .int, .int], returnType := some .int }, accessFlags := 9, code := some k20c3 }
/-- java/lang/StringUTF16 -/
def k20 : Class := { plain "java/lang/StringUTF16" (some 0) with
  accessFlags := 48
  interfaces := #[]
  cf := some (fileOf pool20 12 #[.nestMembers #[627, 629, 369]] #[{ accessFlags := 0, nameIndex := 9, descriptorIndex := 10, attributes := #[] }, { accessFlags := 8, nameIndex := 261, descriptorIndex := 262, attributes := #[] }, { accessFlags := 9, nameIndex := 117, descriptorIndex := 122, attributes := #[] }, { accessFlags := 9, nameIndex := 117, descriptorIndex := 118, attributes := #[] }] 48 6 #[] #[{ accessFlags := 26, nameIndex := 61, descriptorIndex := 62, attributes := #[] }, { accessFlags := 26, nameIndex := 65, descriptorIndex := 62, attributes := #[] }, { accessFlags := 24, nameIndex := 430, descriptorIndex := 62, attributes := #[] }, { accessFlags := 4120, nameIndex := 46, descriptorIndex := 47, attributes := #[] }])
  fields := #[{ name := "HI_BYTE_SHIFT", type := .int, accessFlags := 26, slot := 0, constantValue := 0 }, { name := "LO_BYTE_SHIFT", type := .int, accessFlags := 26, slot := 1, constantValue := 0 }, { name := "MAX_LENGTH", type := .int, accessFlags := 24, slot := 2, constantValue := 0 }, { name := "$assertionsDisabled", type := .boolean, accessFlags := 4120, slot := 3, constantValue := 0 }]
  methods := #[k20m0, k20m1, k20m2, k20m3]
  instanceTypes := #[]
  staticTypes := #[.int, .int, .int, .boolean]
  resolved := Array.replicate 635 none
  statics := none }

def pool21 : Array CpInfo := pool [(2, .class_ 4), (1, u "java/lang/Object"), (0, u "<init>"), (0, u "()V"), (17, .class_ 26), (1, u "jdk/internal/util/Preconditions"), (6, u "checkIndex"), (21, .class_ 56), (0, u "jdk/internal/util/Preconditions$4"), (57, .class_ 115), (0, u "jdk/internal/util/Preconditions$1"), (7, u "SIOOBE_FORMATTER"), (0, u "Ljava/util/function/BiFunction;"), (0, .class_ 126), (0, u "jdk/internal/util/Preconditions$2"), (3, u "AIOOBE_FORMATTER"), (0, .class_ 132), (0, u "jdk/internal/util/Preconditions$3"), (3, u "IOOBE_FORMATTER"), (41, u "(IILjava/util/function/BiFunction;)I")] 15

def k21m0 : Method := { name := "<init>", desc := "()V", sig := { parameters := [], returnType := none }, accessFlags := 1, code := none }
def k21c1 : Code := { maxStack := 3, maxLocals := 3, code := jdk_41_method_11_code, exceptionTable := #[], attributes := #[] }
def k21m1 : Method := { name := "checkIndex", desc := "(IILjava/util/function/BiFunction;)I", sig := { parameters := [.int, .int, (.object "java/util/function/BiFunction")], returnType := some .int }, accessFlags := 9, code := some k21c1 }
/-- jdk/internal/util/Preconditions -/
def k21 : Class := { plain "jdk/internal/util/Preconditions" (some 0) with
  accessFlags := 33
  interfaces := #[]
  cf := some (fileOf pool21 24 #[.nestMembers #[55, 131, 125, 114]] #[{ accessFlags := 1, nameIndex := 5, descriptorIndex := 6, attributes := #[] }, { accessFlags := 9, nameIndex := 33, descriptorIndex := 178, attributes := #[] }] 33 2 #[] #[{ accessFlags := 25, nameIndex := 123, descriptorIndex := 124, attributes := #[] }, { accessFlags := 25, nameIndex := 130, descriptorIndex := 124, attributes := #[] }, { accessFlags := 25, nameIndex := 136, descriptorIndex := 124, attributes := #[] }])
  fields := #[{ name := "SIOOBE_FORMATTER", type := (.object "java/util/function/BiFunction"), accessFlags := 25, slot := 0, constantValue := 0 }, { name := "AIOOBE_FORMATTER", type := (.object "java/util/function/BiFunction"), accessFlags := 25, slot := 1, constantValue := 0 }, { name := "IOOBE_FORMATTER", type := (.object "java/util/function/BiFunction"), accessFlags := 25, slot := 2, constantValue := 0 }]
  methods := #[k21m0, k21m1]
  instanceTypes := #[]
  staticTypes := #[(.object "java/util/function/BiFunction"), (.object "java/util/function/BiFunction"), (.object "java/util/function/BiFunction")]
  resolved := Array.replicate 194 none
  statics := some 2 }

def pool22 : Array CpInfo := pool [(2, .class_ 4), (1, u "java/lang/Object"), (0, u "<init>"), (0, u "()V"), (35, .class_ 44), (1, u "java/util/Objects"), (60, .methodref 106 107), (0, .class_ 108), (0, .nameAndType 109 110), (0, u "jdk/internal/util/Preconditions"), (0, u "checkIndex"), (0, u "(IILjava/util/function/BiFunction;)I"), (60, u "(II)I")] 12

def k22m0 : Method := { name := "<init>", desc := "()V", sig := { parameters := [], returnType := none }, accessFlags := 2, code := none }
def k22c1 : Code := { maxStack := 3, maxLocals := 2, code := jdk_31_method_17_code, exceptionTable := #[], attributes := #[] }
def k22m1 : Method := { name := "checkIndex", desc := "(II)I", sig := { parameters := [.int, .int], returnType := some .int }, accessFlags := 9, code := some k22c1 }
/-- java/util/Objects -/
def k22 : Class := { plain "java/util/Objects" (some 0) with
  accessFlags := 49
  interfaces := #[]
  cf := some (fileOf pool22 42 #[] #[{ accessFlags := 2, nameIndex := 5, descriptorIndex := 6, attributes := #[] }, { accessFlags := 9, nameIndex := 109, descriptorIndex := 171, attributes := #[] }] 49 2 #[] #[])
  fields := #[]
  methods := #[k22m0, k22m1]
  instanceTypes := #[]
  staticTypes := #[]
  resolved := Array.replicate 184 none
  statics := none }

def pool23 : Array CpInfo := pool [(9, u "<init>"), (6, .class_ 18), (1, u "java/lang/Object"), (0, u "()V"), (1, .class_ 23), (1, u "jdk/internal/util/ArraysSupport"), (0, u "LOG2_ARRAY_LONG_INDEX_SCALE"), (0, u "I"), (2, u "U"), (0, u "Ljdk/internal/misc/Unsafe;"), (8, u "BIG_ENDIAN"), (0, u "Z"), (8, u "LOG2_BYTE_BIT_SIZE"), (4, u "LOG2_ARRAY_INT_INDEX_SCALE"), (54, u "JLA"), (0, u "Ljdk/internal/access/JavaLangAccess;"), (11, u "LOG2_ARRAY_BOOLEAN_INDEX_SCALE"), (9, u "LOG2_ARRAY_BYTE_INDEX_SCALE"), (5, u "LOG2_ARRAY_CHAR_INDEX_SCALE"), (5, u "LOG2_ARRAY_SHORT_INDEX_SCALE"), (18, u "LOG2_ARRAY_FLOAT_INDEX_SCALE"), (24, u "LOG2_ARRAY_DOUBLE_INDEX_SCALE"), (89, u "T_BOOLEAN"), (2, u "T_CHAR"), (1, u "T_FLOAT"), (1, u "T_DOUBLE"), (1, u "T_BYTE"), (1, u "T_SHORT"), (1, u "T_INT"), (1, u "T_LONG"), (1, u "SOFT_MAX_ARRAY_LENGTH")] 83

def k23m0 : Method := { name := "<init>", desc := "()V", sig := { parameters := [], returnType := none }, accessFlags := 2, code := none }
/-- jdk/internal/util/ArraysSupport -/
def k23 : Class := { plain "jdk/internal/util/ArraysSupport" (some 0) with
  accessFlags := 33
  interfaces := #[]
  cf := some (fileOf pool23 21 #[] #[{ accessFlags := 2, nameIndex := 9, descriptorIndex := 19, attributes := #[] }] 33 16 #[] #[{ accessFlags := 24, nameIndex := 28, descriptorIndex := 29, attributes := #[] }, { accessFlags := 26, nameIndex := 38, descriptorIndex := 39, attributes := #[] }, { accessFlags := 25, nameIndex := 121, descriptorIndex := 25, attributes := #[] }, { accessFlags := 25, nameIndex := 131, descriptorIndex := 25, attributes := #[] }, { accessFlags := 25, nameIndex := 137, descriptorIndex := 25, attributes := #[] }, { accessFlags := 25, nameIndex := 143, descriptorIndex := 25, attributes := #[] }, { accessFlags := 25, nameIndex := 53, descriptorIndex := 25, attributes := #[] }, { accessFlags := 25, nameIndex := 24, descriptorIndex := 25, attributes := #[] }, { accessFlags := 25, nameIndex := 162, descriptorIndex := 25, attributes := #[] }, { accessFlags := 25, nameIndex := 187, descriptorIndex := 25, attributes := #[] }, { accessFlags := 26, nameIndex := 48, descriptorIndex := 25, attributes := #[] }, { accessFlags := 25, nameIndex := 277, descriptorIndex := 25, attributes := #[] }, { accessFlags := 25, nameIndex := 280, descriptorIndex := 25, attributes := #[] }, { accessFlags := 25, nameIndex := 282, descriptorIndex := 25, attributes := #[] }, { accessFlags := 25, nameIndex := 284, descriptorIndex := 25, attributes := #[] }, { accessFlags := 25, nameIndex := 286, descriptorIndex := 25, attributes := #[] }, { accessFlags := 25, nameIndex := 288, descriptorIndex := 25, attributes := #[] }, { accessFlags := 25, nameIndex := 290, descriptorIndex := 25, attributes := #[] }, { accessFlags := 25, nameIndex := 292, descriptorIndex := 25, attributes := #[] }, { accessFlags := 26, nameIndex := 108, descriptorIndex := 109, attributes := #[] }, { accessFlags := 25, nameIndex := 294, descriptorIndex := 25, attributes := #[] }])
  fields := #[{ name := "U", type := (.object "jdk/internal/misc/Unsafe"), accessFlags := 24, slot := 0, constantValue := 0 }, { name := "BIG_ENDIAN", type := .boolean, accessFlags := 26, slot := 1, constantValue := 0 }, { name := "LOG2_ARRAY_BOOLEAN_INDEX_SCALE", type := .int, accessFlags := 25, slot := 2, constantValue := 0 }, { name := "LOG2_ARRAY_BYTE_INDEX_SCALE", type := .int, accessFlags := 25, slot := 3, constantValue := 0 }, { name := "LOG2_ARRAY_CHAR_INDEX_SCALE", type := .int, accessFlags := 25, slot := 4, constantValue := 0 }, { name := "LOG2_ARRAY_SHORT_INDEX_SCALE", type := .int, accessFlags := 25, slot := 5, constantValue := 0 }, { name := "LOG2_ARRAY_INT_INDEX_SCALE", type := .int, accessFlags := 25, slot := 6, constantValue := 0 }, { name := "LOG2_ARRAY_LONG_INDEX_SCALE", type := .int, accessFlags := 25, slot := 7, constantValue := 0 }, { name := "LOG2_ARRAY_FLOAT_INDEX_SCALE", type := .int, accessFlags := 25, slot := 8, constantValue := 0 }, { name := "LOG2_ARRAY_DOUBLE_INDEX_SCALE", type := .int, accessFlags := 25, slot := 9, constantValue := 0 }, { name := "LOG2_BYTE_BIT_SIZE", type := .int, accessFlags := 26, slot := 10, constantValue := 0 }, { name := "T_BOOLEAN", type := .int, accessFlags := 25, slot := 11, constantValue := 0 }, { name := "T_CHAR", type := .int, accessFlags := 25, slot := 12, constantValue := 0 }, { name := "T_FLOAT", type := .int, accessFlags := 25, slot := 13, constantValue := 0 }, { name := "T_DOUBLE", type := .int, accessFlags := 25, slot := 14, constantValue := 0 }, { name := "T_BYTE", type := .int, accessFlags := 25, slot := 15, constantValue := 0 }, { name := "T_SHORT", type := .int, accessFlags := 25, slot := 16, constantValue := 0 }, { name := "T_INT", type := .int, accessFlags := 25, slot := 17, constantValue := 0 }, { name := "T_LONG", type := .int, accessFlags := 25, slot := 18, constantValue := 0 }, { name := "JLA", type := (.object "jdk/internal/access/JavaLangAccess"), accessFlags := 26, slot := 19, constantValue := 0 }, { name := "SOFT_MAX_ARRAY_LENGTH", type := .int, accessFlags := 25, slot := 20, constantValue := 0 }]
  methods := #[k23m0]
  instanceTypes := #[]
  staticTypes := #[(.object "jdk/internal/misc/Unsafe"), .boolean, .int, .int, .int, .int, .int, .int, .int, .int, .int, .int, .int, .int, .int, .int, .int, .int, .int, (.object "jdk/internal/access/JavaLangAccess"), .int]
  resolved := Array.replicate 378 none
  statics := none }

/-- the primitive byte -/
def k24 : Class := { plain "byte" none with kind := .primitive 'B', accessFlags := 0x411 }
/-- [B -/
def k25 : Class := { plain "[B" (some 0) with kind := .array 24 .byte, interfaces := #[16, 2], accessFlags := 1041 }

/-- the primitive char -/
def k26 : Class := { plain "char" none with kind := .primitive 'C', accessFlags := 0x411 }
/-- [C -/
def k27 : Class := { plain "[C" (some 0) with kind := .array 26 .char, interfaces := #[16, 2], accessFlags := 1041 }

/-- the primitive int -/
def k28 : Class := { plain "int" none with kind := .primitive 'I', accessFlags := 0x411 }
/-- [I -/
def k29 : Class := { plain "[I" (some 0) with kind := .array 28 .int, interfaces := #[16, 2], accessFlags := 1041 }

/-- [Ljava/lang/Object; -/
def k30 : Class := { plain "[Ljava/lang/Object;" (some 0) with kind := .array 0 (.object "java/lang/Object"), interfaces := #[16, 2], accessFlags := 1041 }

def heap : Heap := #[{ cls := 7, slots := #[.long 0, .int 1, .null, .int 0, .null, .int 0, .int 0], vm := .statics 7 },
  { cls := 17, slots := #[.long 0, .int 0, .ref 3, .ref 4], vm := .statics 17 },
  { cls := 21, slots := #[.null, .null, .null], vm := .statics 21 },
  { cls := 30, slots := #[], vm := .none },
  { cls := 30, slots := #[], vm := .none }]
def classes : Array Class := #[k0, k1, k2, k3, k4, k5, k6, k7, k8, k9, k10, k11, k12, k13, k14, k15, k16, k17, k18, k19, k20, k21, k22, k23, k24, k25, k26, k27, k28, k29, k30]
def interned : List (Array UInt16 × Addr) := []
def slotsUsed : Nat := 14
def theMethod : MethodId := ⟨1, 1⟩
def args0 : Array Value := #[.int 5, .int 7, .int 9]
def aboutOver (below : List Frame) : State where
  vm := { classes := classes, interned := interned.toArray }
  heap := heap
  slotsUsed := slotsUsed
  threads := #[{ frames := .invoking theMethod args0 :: below }]
def below0 : List Frame := [.native { method := ⟨0, 0⟩, args := #[] }]
def about1 : State := aboutOver below0
def p0 : Program := .bare "" "" ""
def e0 : Env := launch0.env 0 0 0
theorem w_frames : about1.frames = Frame.invoking theMethod args0 :: below0 := rfl
set_option maxRecDepth 65536 in
theorem w_args : argsFit about1.vm theMethod args0 = true := by decide +kernel
set_option maxRecDepth 65536 in
theorem w_heap : heapFits about1 = true := by decide +kernel
set_option maxRecDepth 65536 in
theorem w_runnable : about1.curStatus? = some .runnable := by decide +kernel
set_option maxRecDepth 65536 in
theorem w_alone : about1.alone = true := by decide +kernel
set_option maxRecDepth 65536 in
theorem w_named : about1.methodNamed? x = some theMethod := by decide +kernel
set_option maxRecDepth 65536 in
theorem w_hears : about1.hears theMethod below0 = true := by decide +kernel
set_option maxRecDepth 65536 in
theorem w_ripe : about1.ripe theMethod args0 below0 = true := by decide +kernel
theorem w_running : about1.status = .running := rfl
set_option maxRecDepth 65536 in
theorem w_room : about1.hasRoom e0.platform room_1 = true :=
  launch0.hasRoom_least _ room_1 (by decide +kernel) (by decide +kernel) (by decide +kernel) (by decide +kernel) (by decide +kernel) (by decide +kernel)
theorem allAtoms_all (ts : List Jvm.Cond) (a : Array Jvm.Value) (st : Jvm.State) : (allAtoms ts).before a st = ts.all (fun c => c.before a st) := by
  induction ts with
  | nil => rfl
  | cons c t ih =>
    show (Jvm.Cond.and c (allAtoms t)).before a st = _
    rw [Jvm.Cond.before_and, ih, List.all_cons]
def words1 : List Jvm.Cond := Jvm.Cond.code x code maxLocals ret :: tables_1
/-- a 'code' word, met by the world's own term for the bytes: nothing is compared byte by byte -/
theorem code_word {y : MethodName} {bytes : ByteArray} {mx : Nat} {rt : Option FieldType} {a : Array Value} {s : State} {m : MethodId} {meth : Method} {c : Code} (h1 : s.methodNamed? y = some m) (h2 : s.vm.method? m = some meth) (h3 : meth.code = some c) (h4 : c.code = bytes)
    (h5 : (c.maxLocals == mx && c.exceptionTable.isEmpty && decide (c.maxStack ≤ mostOperands) && decide (meth.sig.returnType = rt) && !meth.locks && decide (parseMethodDescriptor y.desc = some meth.sig)) = true) : (Jvm.Cond.code y bytes mx rt).before a s = true := by
  simp only [Bool.and_eq_true, beq_iff_eq, Bool.not_eq_true', decide_eq_true_eq] at h5
  obtain ⟨⟨⟨⟨⟨g1, g2⟩, g3⟩, g4⟩, g5⟩, g6⟩ := h5
  simp [Cond.before, Cond.holds, Cond.value, h1, h2, h3, h4, g1, g2, g3, g4, g5, g6]
def isCode : Jvm.Cond → Bool
  | .code _ _ _ _ => true
  | _ => false
theorem all_split {L : List Jvm.Cond} {P : Jvm.Cond → Bool} (h1 : L.all (fun c => isCode c || P c) = true) (h2 : ∀ c ∈ L.filter isCode, P c = true) : L.all P = true := by
  refine List.all_eq_true.mpr fun c hc => ?_
  have h := List.all_eq_true.mp h1 c hc
  rcases Bool.eq_false_or_eq_true (isCode c) with hi | hi
  · exact h2 c (List.mem_filter.mpr ⟨hc, hi⟩)
  · simpa [hi] using h
set_option maxRecDepth 65536 in
theorem w_c0 : (Jvm.Cond.code x code maxLocals ret).before args0 about1 = true := code_word (m := ⟨1, 1⟩) (meth := k1m1) (c := k1c1) (by decide +kernel) rfl rfl rfl (by decide +kernel)
set_option maxRecDepth 65536 in
theorem w_c1 : (Jvm.Cond.code ({ cls := "com/example/tags_to_grants/tagstogrants/cli/TagsToGrantsIsOneRequestPinLaw", name := "fifth", desc := "(IIII)Ljava/lang/String;" } : Jvm.MethodName) method_3_code (13 : Nat) (Option.some (Jvm.ClassFile.FieldType.object "java/lang/String"))).before args0 about1 = true := code_word (m := ⟨1, 2⟩) (meth := k1m2) (c := k1c2) (by decide +kernel) rfl rfl rfl (by decide +kernel)
set_option maxRecDepth 65536 in
theorem w_c2 : (Jvm.Cond.code ({ cls := "java/lang/String", name := "valueOf", desc := "(C)Ljava/lang/String;" } : Jvm.MethodName) jdk_42_method_139_code (1 : Nat) (Option.some (Jvm.ClassFile.FieldType.object "java/lang/String"))).before args0 about1 = true := code_word (m := ⟨7, 5⟩) (meth := k7m5) (c := k7c5) (by decide +kernel) rfl rfl rfl (by decide +kernel)
set_option maxRecDepth 65536 in
theorem w_c3 : (Jvm.Cond.code ({ cls := "java/lang/StringLatin1", name := "canEncode", desc := "(C)Z" } : Jvm.MethodName) jdk_43_method_3_code (1 : Nat) (Option.some Jvm.ClassFile.FieldType.boolean)).before args0 about1 = true := code_word (m := ⟨8, 2⟩) (meth := k8m2) (c := k8c2) (by decide +kernel) rfl rfl rfl (by decide +kernel)
set_option maxRecDepth 65536 in
theorem w_c4 : (Jvm.Cond.code ({ cls := "java/lang/StringLatin1", name := "toBytes", desc := "(C)[B" } : Jvm.MethodName) jdk_43_method_46_code (1 : Nat) (Option.some (Jvm.ClassFile.FieldType.array Jvm.ClassFile.FieldType.byte))).before args0 about1 = true := code_word (m := ⟨8, 4⟩) (meth := k8m4) (c := k8c4) (by decide +kernel) rfl rfl rfl (by decide +kernel)
set_option maxRecDepth 65536 in
theorem w_c5 : (Jvm.Cond.code ({ cls := "java/lang/String", name := "<init>", desc := "([BB)V" } : Jvm.MethodName) jdk_42_method_151_code (3 : Nat) (Option.none : Option Jvm.ClassFile.FieldType)).before args0 about1 = true := code_word (m := ⟨7, 7⟩) (meth := k7m7) (c := k7c7) (by decide +kernel) rfl rfl rfl (by decide +kernel)
set_option maxRecDepth 65536 in
theorem w_c6 : (Jvm.Cond.code ({ cls := "java/lang/Object", name := "<init>", desc := "()V" } : Jvm.MethodName) object_method_1_code (1 : Nat) (Option.none : Option Jvm.ClassFile.FieldType)).before args0 about1 = true := code_word (m := ⟨0, 0⟩) (meth := k0m0) (c := k0c0) (by decide +kernel) rfl rfl rfl (by decide +kernel)
set_option maxRecDepth 65536 in
theorem w_c7 : (Jvm.Cond.code ({ cls := "java/util/ArrayList", name := "<init>", desc := "()V" } : Jvm.MethodName) jdk_38_method_2_code (1 : Nat) (Option.none : Option Jvm.ClassFile.FieldType)).before args0 about1 = true := code_word (m := ⟨17, 0⟩) (meth := k17m0) (c := k17c0) (by decide +kernel) rfl rfl rfl (by decide +kernel)
set_option maxRecDepth 65536 in
theorem w_c8 : (Jvm.Cond.code ({ cls := "java/util/AbstractList", name := "<init>", desc := "()V" } : Jvm.MethodName) jdk_39_method_1_code (1 : Nat) (Option.none : Option Jvm.ClassFile.FieldType)).before args0 about1 = true := code_word (m := ⟨14, 0⟩) (meth := k14m0) (c := k14c0) (by decide +kernel) rfl rfl rfl (by decide +kernel)
set_option maxRecDepth 65536 in
theorem w_c9 : (Jvm.Cond.code ({ cls := "java/util/AbstractCollection", name := "<init>", desc := "()V" } : Jvm.MethodName) jdk_22_method_1_code (1 : Nat) (Option.none : Option Jvm.ClassFile.FieldType)).before args0 about1 = true := code_word (m := ⟨11, 0⟩) (meth := k11m0) (c := k11c0) (by decide +kernel) rfl rfl rfl (by decide +kernel)
set_option maxRecDepth 65536 in
theorem w_c10 : (Jvm.Cond.code ({ cls := "com/example/tags_to_grants/tagstogrants/cli/TagsToGrants", name := "isOneRequest", desc := "(Ljava/util/List;)Z" } : Jvm.MethodName) prog_10_method_5_code (1 : Nat) (Option.some Jvm.ClassFile.FieldType.boolean)).before args0 about1 = true := code_word (m := ⟨18, 1⟩) (meth := k18m1) (c := k18c1) (by decide +kernel) rfl rfl rfl (by decide +kernel)
set_option maxRecDepth 65536 in
theorem w_c11 : (Jvm.Cond.code ({ cls := "java/util/ArrayList", name := "size", desc := "()I" } : Jvm.MethodName) jdk_38_method_8_code (1 : Nat) (Option.some Jvm.ClassFile.FieldType.int)).before args0 about1 = true := code_word (m := ⟨17, 3⟩) (meth := k17m3) (c := k17c3) (by decide +kernel) rfl rfl rfl (by decide +kernel)
set_option maxRecDepth 65536 in
theorem w_c12 : (Jvm.Cond.code ({ cls := "java/util/ArrayList", name := "add", desc := "(Ljava/lang/Object;)Z" } : Jvm.MethodName) jdk_38_method_25_code (2 : Nat) (Option.some Jvm.ClassFile.FieldType.boolean)).before args0 about1 = true := code_word (m := ⟨17, 7⟩) (meth := k17m7) (c := k17c7) (by decide +kernel) rfl rfl rfl (by decide +kernel)
set_option maxRecDepth 65536 in
theorem w_c13 : (Jvm.Cond.code ({ cls := "java/util/ArrayList", name := "add", desc := "(Ljava/lang/Object;[Ljava/lang/Object;I)V" } : Jvm.MethodName) jdk_38_method_24_code (4 : Nat) (Option.none : Option Jvm.ClassFile.FieldType)).before args0 about1 = true := code_word (m := ⟨17, 6⟩) (meth := k17m6) (c := k17c6) (by decide +kernel) rfl rfl rfl (by decide +kernel)
set_option maxRecDepth 65536 in
theorem w_c14 : (Jvm.Cond.code ({ cls := "java/util/ArrayList", name := "grow", desc := "()[Ljava/lang/Object;" } : Jvm.MethodName) jdk_38_method_7_code (1 : Nat) (Option.some (Jvm.ClassFile.FieldType.array (Jvm.ClassFile.FieldType.object "java/lang/Object")))).before args0 about1 = true := code_word (m := ⟨17, 2⟩) (meth := k17m2) (c := k17c2) (by decide +kernel) rfl rfl rfl (by decide +kernel)
set_option maxRecDepth 65536 in
theorem w_c15 : (Jvm.Cond.code ({ cls := "java/util/ArrayList", name := "grow", desc := "(I)[Ljava/lang/Object;" } : Jvm.MethodName) jdk_38_method_6_code (4 : Nat) (Option.some (Jvm.ClassFile.FieldType.array (Jvm.ClassFile.FieldType.object "java/lang/Object")))).before args0 about1 = true := code_word (m := ⟨17, 1⟩) (meth := k17m1) (c := k17c1) (by decide +kernel) rfl rfl rfl (by decide +kernel)
set_option maxRecDepth 65536 in
theorem w_c16 : (Jvm.Cond.code ({ cls := "java/lang/Math", name := "max", desc := "(II)I" } : Jvm.MethodName) jdk_29_method_65_code (2 : Nat) (Option.some Jvm.ClassFile.FieldType.int)).before args0 about1 = true := code_word (m := ⟨19, 1⟩) (meth := k19m1) (c := k19c1) (by decide +kernel) rfl rfl rfl (by decide +kernel)
set_option maxRecDepth 65536 in
theorem w_c17 : (Jvm.Cond.code ({ cls := "java/lang/String", name := "<init>", desc := "([C)V" } : Jvm.MethodName) jdk_42_method_3_code (2 : Nat) (Option.none : Option Jvm.ClassFile.FieldType)).before args0 about1 = true := code_word (m := ⟨7, 1⟩) (meth := k7m1) (c := k7c1) (by decide +kernel) rfl rfl rfl (by decide +kernel)
set_option maxRecDepth 65536 in
theorem w_c18 : (Jvm.Cond.code ({ cls := "java/lang/String", name := "<init>", desc := "([CIILjava/lang/Void;)V" } : Jvm.MethodName) jdk_42_method_149_code (6 : Nat) (Option.none : Option Jvm.ClassFile.FieldType)).before args0 about1 = true := code_word (m := ⟨7, 6⟩) (meth := k7m6) (c := k7c6) (by decide +kernel) rfl rfl rfl (by decide +kernel)
set_option maxRecDepth 65536 in
theorem w_c19 : (Jvm.Cond.code ({ cls := "java/lang/StringUTF16", name := "compress", desc := "([CII)[B" } : Jvm.MethodName) jdk_52_method_16_code (6 : Nat) (Option.some (Jvm.ClassFile.FieldType.array Jvm.ClassFile.FieldType.byte))).before args0 about1 = true := code_word (m := ⟨20, 2⟩) (meth := k20m2) (c := k20c2) (by decide +kernel) rfl rfl rfl (by decide +kernel)
set_option maxRecDepth 65536 in
theorem w_c20 : (Jvm.Cond.code ({ cls := "java/lang/StringUTF16", name := "compress", desc := "([CI[BII)I" } : Jvm.MethodName) jdk_52_method_21_code (7 : Nat) (Option.some Jvm.ClassFile.FieldType.int)).before args0 about1 = true := code_word (m := ⟨20, 3⟩) (meth := k20m3) (c := k20c3) (by decide +kernel) rfl rfl rfl (by decide +kernel)
set_option maxRecDepth 65536 in
theorem w_c21 : (Jvm.Cond.code ({ cls := "java/lang/StringUTF16", name := "coderFromArrayLen", desc := "([BI)B" } : Jvm.MethodName) jdk_52_method_15_code (2 : Nat) (Option.some Jvm.ClassFile.FieldType.byte)).before args0 about1 = true := code_word (m := ⟨20, 1⟩) (meth := k20m1) (c := k20c1) (by decide +kernel) rfl rfl rfl (by decide +kernel)
set_option maxRecDepth 65536 in
theorem w_c22 : (Jvm.Cond.code ({ cls := "com/example/tags_to_grants/tagstogrants/cli/TagsToGrantsIsOneRequestPinLaw", name := "isAs", desc := "(Ljava/lang/String;)Z" } : Jvm.MethodName) method_4_code (1 : Nat) (Option.some Jvm.ClassFile.FieldType.boolean)).before args0 about1 = true := code_word (m := ⟨1, 3⟩) (meth := k1m3) (c := k1c3) (by decide +kernel) rfl rfl rfl (by decide +kernel)
set_option maxRecDepth 65536 in
theorem w_c23 : (Jvm.Cond.code ({ cls := "java/lang/String", name := "length", desc := "()I" } : Jvm.MethodName) jdk_42_method_54_code (1 : Nat) (Option.some Jvm.ClassFile.FieldType.int)).before args0 about1 = true := code_word (m := ⟨7, 2⟩) (meth := k7m2) (c := k7c2) (by decide +kernel) rfl rfl rfl (by decide +kernel)
set_option maxRecDepth 65536 in
theorem w_c24 : (Jvm.Cond.code ({ cls := "java/lang/String", name := "coder", desc := "()B" } : Jvm.MethodName) jdk_42_method_152_code (1 : Nat) (Option.some Jvm.ClassFile.FieldType.byte)).before args0 about1 = true := code_word (m := ⟨7, 8⟩) (meth := k7m8) (c := k7c8) (by decide +kernel) rfl rfl rfl (by decide +kernel)
set_option maxRecDepth 65536 in
theorem w_c25 : (Jvm.Cond.code ({ cls := "java/lang/String", name := "charAt", desc := "(I)C" } : Jvm.MethodName) jdk_42_method_56_code (2 : Nat) (Option.some Jvm.ClassFile.FieldType.char)).before args0 about1 = true := code_word (m := ⟨7, 3⟩) (meth := k7m3) (c := k7c3) (by decide +kernel) rfl rfl rfl (by decide +kernel)
set_option maxRecDepth 65536 in
theorem w_c26 : (Jvm.Cond.code ({ cls := "java/lang/String", name := "isLatin1", desc := "()Z" } : Jvm.MethodName) jdk_42_method_154_code (1 : Nat) (Option.some Jvm.ClassFile.FieldType.boolean)).before args0 about1 = true := code_word (m := ⟨7, 9⟩) (meth := k7m9) (c := k7c9) (by decide +kernel) rfl rfl rfl (by decide +kernel)
set_option maxRecDepth 65536 in
theorem w_c27 : (Jvm.Cond.code ({ cls := "java/lang/StringLatin1", name := "charAt", desc := "([BI)C" } : Jvm.MethodName) jdk_43_method_2_code (2 : Nat) (Option.some Jvm.ClassFile.FieldType.char)).before args0 about1 = true := code_word (m := ⟨8, 1⟩) (meth := k8m1) (c := k8c1) (by decide +kernel) rfl rfl rfl (by decide +kernel)
set_option maxRecDepth 65536 in
theorem w_c28 : (Jvm.Cond.code ({ cls := "java/lang/String", name := "checkIndex", desc := "(II)V" } : Jvm.MethodName) jdk_42_method_155_code (2 : Nat) (Option.none : Option Jvm.ClassFile.FieldType)).before args0 about1 = true := code_word (m := ⟨7, 10⟩) (meth := k7m10) (c := k7c10) (by decide +kernel) rfl rfl rfl (by decide +kernel)
set_option maxRecDepth 65536 in
theorem w_c29 : (Jvm.Cond.code ({ cls := "jdk/internal/util/Preconditions", name := "checkIndex", desc := "(IILjava/util/function/BiFunction;)I" } : Jvm.MethodName) jdk_41_method_11_code (3 : Nat) (Option.some Jvm.ClassFile.FieldType.int)).before args0 about1 = true := code_word (m := ⟨21, 1⟩) (meth := k21m1) (c := k21c1) (by decide +kernel) rfl rfl rfl (by decide +kernel)
set_option maxRecDepth 65536 in
theorem w_c30 : (Jvm.Cond.code ({ cls := "java/util/ArrayList", name := "get", desc := "(I)Ljava/lang/Object;" } : Jvm.MethodName) jdk_38_method_20_code (2 : Nat) (Option.some (Jvm.ClassFile.FieldType.object "java/lang/Object"))).before args0 about1 = true := code_word (m := ⟨17, 5⟩) (meth := k17m5) (c := k17c5) (by decide +kernel) rfl rfl rfl (by decide +kernel)
set_option maxRecDepth 65536 in
theorem w_c31 : (Jvm.Cond.code ({ cls := "java/util/Objects", name := "checkIndex", desc := "(II)I" } : Jvm.MethodName) jdk_31_method_17_code (2 : Nat) (Option.some Jvm.ClassFile.FieldType.int)).before args0 about1 = true := code_word (m := ⟨22, 1⟩) (meth := k22m1) (c := k22c1) (by decide +kernel) rfl rfl rfl (by decide +kernel)
set_option maxRecDepth 65536 in
theorem w_c32 : (Jvm.Cond.code ({ cls := "java/util/ArrayList", name := "elementData", desc := "(I)Ljava/lang/Object;" } : Jvm.MethodName) jdk_38_method_18_code (2 : Nat) (Option.some (Jvm.ClassFile.FieldType.object "java/lang/Object"))).before args0 about1 = true := code_word (m := ⟨17, 4⟩) (meth := k17m4) (c := k17c4) (by decide +kernel) rfl rfl rfl (by decide +kernel)
set_option maxRecDepth 65536 in
theorem w_c33 : (Jvm.Cond.code ({ cls := "java/lang/String", name := "equals", desc := "(Ljava/lang/Object;)Z" } : Jvm.MethodName) jdk_42_method_66_code (3 : Nat) (Option.some Jvm.ClassFile.FieldType.boolean)).before args0 about1 = true := code_word (m := ⟨7, 4⟩) (meth := k7m4) (c := k7c4) (by decide +kernel) rfl rfl rfl (by decide +kernel)
set_option maxRecDepth 65536 in
theorem w_c34 : (Jvm.Cond.code ({ cls := "java/lang/StringLatin1", name := "equals", desc := "([B[B)Z" } : Jvm.MethodName) jdk_43_method_13_code (3 : Nat) (Option.some Jvm.ClassFile.FieldType.boolean)).before args0 about1 = true := code_word (m := ⟨8, 3⟩) (meth := k8m3) (c := k8c3) (by decide +kernel) rfl rfl rfl (by decide +kernel)
def codes1 : List Jvm.Cond := [Jvm.Cond.code x code maxLocals ret, Jvm.Cond.code ({ cls := "com/example/tags_to_grants/tagstogrants/cli/TagsToGrantsIsOneRequestPinLaw", name := "fifth", desc := "(IIII)Ljava/lang/String;" } : Jvm.MethodName) method_3_code (13 : Nat) (Option.some (Jvm.ClassFile.FieldType.object "java/lang/String")), Jvm.Cond.code ({ cls := "java/lang/String", name := "valueOf", desc := "(C)Ljava/lang/String;" } : Jvm.MethodName) jdk_42_method_139_code (1 : Nat) (Option.some (Jvm.ClassFile.FieldType.object "java/lang/String")), Jvm.Cond.code ({ cls := "java/lang/StringLatin1", name := "canEncode", desc := "(C)Z" } : Jvm.MethodName) jdk_43_method_3_code (1 : Nat) (Option.some Jvm.ClassFile.FieldType.boolean), Jvm.Cond.code ({ cls := "java/lang/StringLatin1", name := "toBytes", desc := "(C)[B" } : Jvm.MethodName) jdk_43_method_46_code (1 : Nat) (Option.some (Jvm.ClassFile.FieldType.array Jvm.ClassFile.FieldType.byte)), Jvm.Cond.code ({ cls := "java/lang/String", name := "<init>", desc := "([BB)V" } : Jvm.MethodName) jdk_42_method_151_code (3 : Nat) (Option.none : Option Jvm.ClassFile.FieldType), Jvm.Cond.code ({ cls := "java/lang/Object", name := "<init>", desc := "()V" } : Jvm.MethodName) object_method_1_code (1 : Nat) (Option.none : Option Jvm.ClassFile.FieldType), Jvm.Cond.code ({ cls := "java/util/ArrayList", name := "<init>", desc := "()V" } : Jvm.MethodName) jdk_38_method_2_code (1 : Nat) (Option.none : Option Jvm.ClassFile.FieldType), Jvm.Cond.code ({ cls := "java/util/AbstractList", name := "<init>", desc := "()V" } : Jvm.MethodName) jdk_39_method_1_code (1 : Nat) (Option.none : Option Jvm.ClassFile.FieldType), Jvm.Cond.code ({ cls := "java/util/AbstractCollection", name := "<init>", desc := "()V" } : Jvm.MethodName) jdk_22_method_1_code (1 : Nat) (Option.none : Option Jvm.ClassFile.FieldType), Jvm.Cond.code ({ cls := "com/example/tags_to_grants/tagstogrants/cli/TagsToGrants", name := "isOneRequest", desc := "(Ljava/util/List;)Z" } : Jvm.MethodName) prog_10_method_5_code (1 : Nat) (Option.some Jvm.ClassFile.FieldType.boolean), Jvm.Cond.code ({ cls := "java/util/ArrayList", name := "size", desc := "()I" } : Jvm.MethodName) jdk_38_method_8_code (1 : Nat) (Option.some Jvm.ClassFile.FieldType.int), Jvm.Cond.code ({ cls := "java/util/ArrayList", name := "add", desc := "(Ljava/lang/Object;)Z" } : Jvm.MethodName) jdk_38_method_25_code (2 : Nat) (Option.some Jvm.ClassFile.FieldType.boolean), Jvm.Cond.code ({ cls := "java/util/ArrayList", name := "add", desc := "(Ljava/lang/Object;[Ljava/lang/Object;I)V" } : Jvm.MethodName) jdk_38_method_24_code (4 : Nat) (Option.none : Option Jvm.ClassFile.FieldType), Jvm.Cond.code ({ cls := "java/util/ArrayList", name := "grow", desc := "()[Ljava/lang/Object;" } : Jvm.MethodName) jdk_38_method_7_code (1 : Nat) (Option.some (Jvm.ClassFile.FieldType.array (Jvm.ClassFile.FieldType.object "java/lang/Object"))), Jvm.Cond.code ({ cls := "java/util/ArrayList", name := "grow", desc := "(I)[Ljava/lang/Object;" } : Jvm.MethodName) jdk_38_method_6_code (4 : Nat) (Option.some (Jvm.ClassFile.FieldType.array (Jvm.ClassFile.FieldType.object "java/lang/Object"))), Jvm.Cond.code ({ cls := "java/lang/Math", name := "max", desc := "(II)I" } : Jvm.MethodName) jdk_29_method_65_code (2 : Nat) (Option.some Jvm.ClassFile.FieldType.int), Jvm.Cond.code ({ cls := "java/lang/String", name := "<init>", desc := "([C)V" } : Jvm.MethodName) jdk_42_method_3_code (2 : Nat) (Option.none : Option Jvm.ClassFile.FieldType), Jvm.Cond.code ({ cls := "java/lang/String", name := "<init>", desc := "([CIILjava/lang/Void;)V" } : Jvm.MethodName) jdk_42_method_149_code (6 : Nat) (Option.none : Option Jvm.ClassFile.FieldType), Jvm.Cond.code ({ cls := "java/lang/StringUTF16", name := "compress", desc := "([CII)[B" } : Jvm.MethodName) jdk_52_method_16_code (6 : Nat) (Option.some (Jvm.ClassFile.FieldType.array Jvm.ClassFile.FieldType.byte)), Jvm.Cond.code ({ cls := "java/lang/StringUTF16", name := "compress", desc := "([CI[BII)I" } : Jvm.MethodName) jdk_52_method_21_code (7 : Nat) (Option.some Jvm.ClassFile.FieldType.int), Jvm.Cond.code ({ cls := "java/lang/StringUTF16", name := "coderFromArrayLen", desc := "([BI)B" } : Jvm.MethodName) jdk_52_method_15_code (2 : Nat) (Option.some Jvm.ClassFile.FieldType.byte), Jvm.Cond.code ({ cls := "com/example/tags_to_grants/tagstogrants/cli/TagsToGrantsIsOneRequestPinLaw", name := "isAs", desc := "(Ljava/lang/String;)Z" } : Jvm.MethodName) method_4_code (1 : Nat) (Option.some Jvm.ClassFile.FieldType.boolean), Jvm.Cond.code ({ cls := "java/lang/String", name := "length", desc := "()I" } : Jvm.MethodName) jdk_42_method_54_code (1 : Nat) (Option.some Jvm.ClassFile.FieldType.int), Jvm.Cond.code ({ cls := "java/lang/String", name := "coder", desc := "()B" } : Jvm.MethodName) jdk_42_method_152_code (1 : Nat) (Option.some Jvm.ClassFile.FieldType.byte), Jvm.Cond.code ({ cls := "java/lang/String", name := "charAt", desc := "(I)C" } : Jvm.MethodName) jdk_42_method_56_code (2 : Nat) (Option.some Jvm.ClassFile.FieldType.char), Jvm.Cond.code ({ cls := "java/lang/String", name := "isLatin1", desc := "()Z" } : Jvm.MethodName) jdk_42_method_154_code (1 : Nat) (Option.some Jvm.ClassFile.FieldType.boolean), Jvm.Cond.code ({ cls := "java/lang/StringLatin1", name := "charAt", desc := "([BI)C" } : Jvm.MethodName) jdk_43_method_2_code (2 : Nat) (Option.some Jvm.ClassFile.FieldType.char), Jvm.Cond.code ({ cls := "java/lang/String", name := "checkIndex", desc := "(II)V" } : Jvm.MethodName) jdk_42_method_155_code (2 : Nat) (Option.none : Option Jvm.ClassFile.FieldType), Jvm.Cond.code ({ cls := "jdk/internal/util/Preconditions", name := "checkIndex", desc := "(IILjava/util/function/BiFunction;)I" } : Jvm.MethodName) jdk_41_method_11_code (3 : Nat) (Option.some Jvm.ClassFile.FieldType.int), Jvm.Cond.code ({ cls := "java/util/ArrayList", name := "get", desc := "(I)Ljava/lang/Object;" } : Jvm.MethodName) jdk_38_method_20_code (2 : Nat) (Option.some (Jvm.ClassFile.FieldType.object "java/lang/Object")), Jvm.Cond.code ({ cls := "java/util/Objects", name := "checkIndex", desc := "(II)I" } : Jvm.MethodName) jdk_31_method_17_code (2 : Nat) (Option.some Jvm.ClassFile.FieldType.int), Jvm.Cond.code ({ cls := "java/util/ArrayList", name := "elementData", desc := "(I)Ljava/lang/Object;" } : Jvm.MethodName) jdk_38_method_18_code (2 : Nat) (Option.some (Jvm.ClassFile.FieldType.object "java/lang/Object")), Jvm.Cond.code ({ cls := "java/lang/String", name := "equals", desc := "(Ljava/lang/Object;)Z" } : Jvm.MethodName) jdk_42_method_66_code (3 : Nat) (Option.some Jvm.ClassFile.FieldType.boolean), Jvm.Cond.code ({ cls := "java/lang/StringLatin1", name := "equals", desc := "([B[B)Z" } : Jvm.MethodName) jdk_43_method_13_code (3 : Nat) (Option.some Jvm.ClassFile.FieldType.boolean)]
set_option maxRecDepth 65536 in
theorem codes_eq : words1.filter isCode = codes1 := rfl
theorem w_codes : ∀ c ∈ words1.filter isCode, c.before args0 about1 = true := by
  rw [codes_eq]
  intro c hc
  simp only [codes1, List.mem_cons, List.not_mem_nil, or_false] at hc
  rcases hc with rfl | rfl | rfl | rfl | rfl | rfl | rfl | rfl | rfl | rfl | rfl | rfl | rfl | rfl | rfl | rfl | rfl | rfl | rfl | rfl | rfl | rfl | rfl | rfl | rfl | rfl | rfl | rfl | rfl | rfl | rfl | rfl | rfl | rfl | rfl
  · exact w_c0
  · exact w_c1
  · exact w_c2
  · exact w_c3
  · exact w_c4
  · exact w_c5
  · exact w_c6
  · exact w_c7
  · exact w_c8
  · exact w_c9
  · exact w_c10
  · exact w_c11
  · exact w_c12
  · exact w_c13
  · exact w_c14
  · exact w_c15
  · exact w_c16
  · exact w_c17
  · exact w_c18
  · exact w_c19
  · exact w_c20
  · exact w_c21
  · exact w_c22
  · exact w_c23
  · exact w_c24
  · exact w_c25
  · exact w_c26
  · exact w_c27
  · exact w_c28
  · exact w_c29
  · exact w_c30
  · exact w_c31
  · exact w_c32
  · exact w_c33
  · exact w_c34
set_option maxRecDepth 65536 in
theorem w_t1 : (words1.take 24).all (fun c => isCode c || c.before args0 about1) = true := by decide +kernel
set_option maxRecDepth 65536 in
theorem w_t2 : ((words1.drop 24).take 24).all (fun c => isCode c || c.before args0 about1) = true := by decide +kernel
set_option maxRecDepth 65536 in
theorem w_t3 : (((words1.drop 24).drop 24).take 24).all (fun c => isCode c || c.before args0 about1) = true := by decide +kernel
set_option maxRecDepth 65536 in
theorem w_t4 : ((((words1.drop 24).drop 24).drop 24).take 24).all (fun c => isCode c || c.before args0 about1) = true := by decide +kernel
set_option maxRecDepth 65536 in
theorem w_t5 : (((((words1.drop 24).drop 24).drop 24).drop 24).take 24).all (fun c => isCode c || c.before args0 about1) = true := by decide +kernel
set_option maxRecDepth 65536 in
theorem w_t6 : ((((((words1.drop 24).drop 24).drop 24).drop 24).drop 24).take 24).all (fun c => isCode c || c.before args0 about1) = true := by decide +kernel
set_option maxRecDepth 65536 in
theorem w_t7 : (((((((words1.drop 24).drop 24).drop 24).drop 24).drop 24).drop 24).take 24).all (fun c => isCode c || c.before args0 about1) = true := by decide +kernel
set_option maxRecDepth 65536 in
theorem w_t8 : (((((((words1.drop 24).drop 24).drop 24).drop 24).drop 24).drop 24).drop 24).all (fun c => isCode c || c.before args0 about1) = true := by decide +kernel
theorem w_tables : (allAtoms (Jvm.Cond.code x code maxLocals ret :: tables_1)).before args0 about1 = true := by
  rw [allAtoms_all]
  show words1.all (fun c => c.before args0 about1) = true
  refine all_split ?_ w_codes
  rw [← List.take_append_drop 24 words1, List.all_append, w_t1, ← List.take_append_drop 24 (words1.drop 24), List.all_append, w_t2, ← List.take_append_drop 24 ((words1.drop 24).drop 24), List.all_append, w_t3, ← List.take_append_drop 24 (((words1.drop 24).drop 24).drop 24), List.all_append, w_t4, ← List.take_append_drop 24 ((((words1.drop 24).drop 24).drop 24).drop 24), List.all_append, w_t5, ← List.take_append_drop 24 (((((words1.drop 24).drop 24).drop 24).drop 24).drop 24), List.all_append, w_t6, ← List.take_append_drop 24 ((((((words1.drop 24).drop 24).drop 24).drop 24).drop 24).drop 24), List.all_append, w_t7, w_t8]
  rfl
set_option maxRecDepth 65536 in
theorem w_rest : rest_1_c.before args0 about1 = true := by decide +kernel
set_option maxRecDepth 65536 in
theorem w_case : (Jvm.Cond.and given_1 narrow_1).before args0 about1 = true := by decide +kernel
set_option maxRecDepth 65536 in
theorem w_consts : constsHeld consts_1 about1 := Jvm.Lit.constsHeldB_iff.mp (by decide +kernel)
theorem w_applies : (headSpec (Jvm.Cond.code x code maxLocals ret :: tables_1) room_1).applies x e0.platform about1 = true :=
  (Spec.applies_iff w_frames).mpr ⟨w_running, w_runnable, w_alone, w_named, w_hears, w_ripe, w_room, w_tables⟩
theorem atStart : AtStart classFile x code maxLocals ret World_1 tables_1 room_1 Calls_1 rest_1 Pre_1 launch0 p0 e0 about1 theMethod args0 below0 :=
  ⟨lists_1, trivial, launch0.admits_env _ _ _, launch0.least_env, fairChoices_fair.cas, fairChoices_fair.clock, w_frames, w_args, w_heap, w_applies, ⟨w_consts, trivial⟩, w_rest, w_case⟩
end start1
theorem witness_1 : WitnessClaimed_1 := ⟨start1.p0, start1.e0, start1.about1, start1.theMethod, start1.args0, start1.below0, start1.atStart⟩
end Jvm.Pilot.@@N@@
